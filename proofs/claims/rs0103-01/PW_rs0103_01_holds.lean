import PyProof.Rows.All
import Wide.All
import OpenK.AllK
import Wide.FinOn
import PySem.Challenge.RW_rs0103_01
set_option Elab.async false
/-! part Head -/
section
open PySem PySem.W PyProof.Rows
namespace Mine
set_option maxRecDepth 100000
set_option maxHeartbeats 8000000
/-- the function that the text's statement i makes -/
noncomputable def fnOf (i : Nat) (md : Str) (tok : Tok) (code : Addr) : Obj :=
  match PySem.Challenge.pw_rs0103_01.main.body[i]? with
  | some (.FunctionDef name args body _ _ _ scope _ _ _) =>
    { cls := .type "function", data := .func { name := name, qualname := name, params := args, body := .stmts body, scope := scope, globals := 3, closure := [], defaults := .none, kwdefaults := .none, pyModule := .str md tok, code := .ref code } }
  | _ => { cls := .none, data := .seq #[] }
noncomputable def fn21 : Obj := by
  refine' (?f : (o : Obj) → fnOf 1 "cpy313.xml.etree.ElementTree" 187 20 = o → Obj) _ ?h
  case f => exact fun o _ => o
  case h => delta fnOf PySem.Challenge.pw_rs0103_01; dsimp only [List.getElem?_cons_zero, List.getElem?_cons_succ]; delta Addr Tok; exact rfl
noncomputable def fn28 : Obj := by
  refine' (?f : (o : Obj) → fnOf 2 "cpy313.xml.etree.ElementTree" 187 27 = o → Obj) _ ?h
  case f => exact fun o _ => o
  case h => delta fnOf PySem.Challenge.pw_rs0103_01; dsimp only [List.getElem?_cons_zero, List.getElem?_cons_succ]; delta Addr Tok; exact rfl
noncomputable def fn35 : Obj := by
  refine' (?f : (o : Obj) → fnOf 4 "cpy313.colorsys" 203 34 = o → Obj) _ ?h
  case f => exact fun o _ => o
  case h => delta fnOf PySem.Challenge.pw_rs0103_01; dsimp only [List.getElem?_cons_zero, List.getElem?_cons_succ]; delta Addr Tok; exact rfl
noncomputable def fn42 : Obj := by
  refine' (?f : (o : Obj) → fnOf 5 "cpy313.colorsys" 203 41 = o → Obj) _ ?h
  case f => exact fun o _ => o
  case h => delta fnOf PySem.Challenge.pw_rs0103_01; dsimp only [List.getElem?_cons_zero, List.getElem?_cons_succ]; delta Addr Tok; exact rfl
noncomputable def fn49 : Obj := by
  refine' (?f : (o : Obj) → fnOf 6 "cpy313.colorsys" 203 48 = o → Obj) _ ?h
  case f => exact fun o _ => o
  case h => delta fnOf PySem.Challenge.pw_rs0103_01; dsimp only [List.getElem?_cons_zero, List.getElem?_cons_succ]; delta Addr Tok; exact rfl
noncomputable def fn56 : Obj := by
  refine' (?f : (o : Obj) → fnOf 11 "cpy313.traceback" 256 55 = o → Obj) _ ?h
  case f => exact fun o _ => o
  case h => delta fnOf PySem.Challenge.pw_rs0103_01; dsimp only [List.getElem?_cons_zero, List.getElem?_cons_succ]; delta Addr Tok; exact rfl
noncomputable def fn63 : Obj := by
  refine' (?f : (o : Obj) → fnOf 12 "cpy313.traceback" 256 62 = o → Obj) _ ?h
  case f => exact fun o _ => o
  case h => delta fnOf PySem.Challenge.pw_rs0103_01; dsimp only [List.getElem?_cons_zero, List.getElem?_cons_succ]; delta Addr Tok; exact rfl
noncomputable def fn68 : Obj := by
  refine' (?f : (o : Obj) → fnOf 14 "law_rs0103_01" 292 67 = o → Obj) _ ?h
  case f => exact fun o _ => o
  case h => delta fnOf PySem.Challenge.pw_rs0103_01; dsimp only [List.getElem?_cons_zero, List.getElem?_cons_succ]; delta Addr Tok; exact rfl
noncomputable def fn75 : Obj := by
  refine' (?f : (o : Obj) → fnOf 15 "law_rs0103_01" 292 74 = o → Obj) _ ?h
  case f => exact fun o _ => o
  case h => delta fnOf PySem.Challenge.pw_rs0103_01; dsimp only [List.getElem?_cons_zero, List.getElem?_cons_succ]; delta Addr Tok; exact rfl
noncomputable def fn80 : Obj := by
  refine' (?f : (o : Obj) → fnOf 16 "law_rs0103_01" 292 79 = o → Obj) _ ?h
  case f => exact fun o _ => o
  case h => delta fnOf PySem.Challenge.pw_rs0103_01; dsimp only [List.getElem?_cons_zero, List.getElem?_cons_succ]; delta Addr Tok; exact rfl
noncomputable def fn85 : Obj := by
  refine' (?f : (o : Obj) → fnOf 17 "law_rs0103_01" 292 84 = o → Obj) _ ?h
  case f => exact fun o _ => o
  case h => delta fnOf PySem.Challenge.pw_rs0103_01; dsimp only [List.getElem?_cons_zero, List.getElem?_cons_succ]; delta Addr Tok; exact rfl
/-- the objects of the heap behind the top that the law reaches -/
noncomputable def rawK : Params → Frag := fun P =>
  (nat_lit 2, { cls := Value.none, data := Data.dict #[] }) ::
  (nat_lit 3, { cls := Value.type "dict", data := Data.dict #[{ hash := PyData.keyHash P (Str.ofString "__name__"), key := Value.str (Str.ofString "__name__") 165, val := Value.str (Str.ofString "law_rs0103_01") 292 }, { hash := PyData.keyHash P (Str.ofString "__doc__"), key := Value.str (Str.ofString "__doc__") 166, val := Value.none }, { hash := PyData.keyHash P (Str.ofString "__package__"), key := Value.str (Str.ofString "__package__") 167, val := Value.none }, { hash := PyData.keyHash P (Str.ofString "__loader__"), key := Value.str (Str.ofString "__loader__") 168, val := Value.builtin "__main__.__loader__#opaque" }, { hash := PyData.keyHash P (Str.ofString "__spec__"), key := Value.str (Str.ofString "__spec__") 169, val := Value.none }, { hash := PyData.keyHash P (Str.ofString "__annotations__"), key := Value.str (Str.ofString "__annotations__") 170, val := Value.ref 6 }, { hash := PyData.keyHash P (Str.ofString "__builtins__"), key := Value.str (Str.ofString "__builtins__") 171, val := Value.ref 4 }, { hash := PyData.keyHash P (Str.ofString "__file__"), key := Value.str (Str.ofString "__file__") 173, val := Value.str (Str.ofString "/claim/cut.py") 172 }, { hash := PyData.keyHash P (Str.ofString "__cached__"), key := Value.str (Str.ofString "__cached__") 174, val := Value.none }, { hash := PyData.keyHash P (Str.ofString "_raise_serialization_error"), key := Value.str (Str.ofString "_raise_serialization_error") 195, val := Value.ref 21 }, { hash := PyData.keyHash P (Str.ofString "_escape_attrib_c14n"), key := Value.str (Str.ofString "_escape_attrib_c14n") 202, val := Value.ref 28 }, { hash := PyData.keyHash P (Str.ofString "rgb_to_hls"), key := Value.str (Str.ofString "rgb_to_hls") 223, val := Value.ref 35 }, { hash := PyData.keyHash P (Str.ofString "rgb_to_hsv"), key := Value.str (Str.ofString "rgb_to_hsv") 241, val := Value.ref 42 }, { hash := PyData.keyHash P (Str.ofString "hsv_to_rgb"), key := Value.str (Str.ofString "hsv_to_rgb") 255, val := Value.ref 49 }, { hash := PyData.keyHash P (Str.ofString "_MAX_STRING_SIZE"), key := Value.str (Str.ofString "_MAX_STRING_SIZE") 259, val := Value.int 40 258 }, { hash := PyData.keyHash P (Str.ofString "_MOVE_COST"), key := Value.str (Str.ofString "_MOVE_COST") 261, val := Value.int 2 260 }, { hash := PyData.keyHash P (Str.ofString "_CASE_COST"), key := Value.str (Str.ofString "_CASE_COST") 263, val := Value.int 1 262 }, { hash := PyData.keyHash P (Str.ofString "_substitution_cost"), key := Value.str (Str.ofString "_substitution_cost") 271, val := Value.ref 56 }, { hash := PyData.keyHash P (Str.ofString "_levenshtein_distance"), key := Value.str (Str.ofString "_levenshtein_distance") 291, val := Value.ref 63 }, { hash := PyData.keyHash P (Str.ofString "_law_count"), key := Value.str (Str.ofString "_law_count") 299, val := Value.ref 68 }, { hash := PyData.keyHash P (Str.ofString "_law_pieces"), key := Value.str (Str.ofString "_law_pieces") 307, val := Value.ref 75 }, { hash := PyData.keyHash P (Str.ofString "_law_page"), key := Value.str (Str.ofString "_law_page") 313, val := Value.ref 80 }, { hash := PyData.keyHash P (Str.ofString "law"), key := Value.str (Str.ofString "law") 319, val := Value.ref 85 }] 23 }) ::
  (nat_lit 6, { cls := Value.type "dict", data := Data.dict #[] }) ::
  (nat_lit 15, { cls := Value.type "tuple", data := Data.seq #[] }) ::
  (nat_lit 17, { cls := Value.type "tuple", data := Data.seq #[Value.str (Str.ofString "text") 192] }) ::
  (nat_lit 18, { cls := Value.type "tuple", data := Data.seq #[] }) ::
  (nat_lit 20, { cls := Value.type "code", data := Data.fields #[Value.str (Str.ofString "_raise_serialization_error") 189, Value.str (Str.ofString "_raise_serialization_error") 190, Value.str (Str.ofString "/claim/cut.py") 191, Value.int 2 0, Value.int 1 0, Value.int 0 0, Value.int 0 0, Value.int 3 0, Value.ref 15, Value.bool Bool.true, Value.int 181 0, Value.ref 16, Value.none, Value.ref 17, Value.ref 18, Value.ref 19, Value.int 193 0, Value.int 2 0, Value.str (Str.ofString "/claim/cut.py") 194] }) ::
  (nat_lit 21, fn21) ::
  (nat_lit 22, { cls := Value.type "tuple", data := Data.seq #[] }) ::
  (nat_lit 24, { cls := Value.type "tuple", data := Data.seq #[Value.str (Str.ofString "text") 199] }) ::
  (nat_lit 25, { cls := Value.type "tuple", data := Data.seq #[] }) ::
  (nat_lit 27, { cls := Value.type "code", data := Data.fields #[Value.str (Str.ofString "_escape_attrib_c14n") 196, Value.str (Str.ofString "_escape_attrib_c14n") 197, Value.str (Str.ofString "/claim/cut.py") 198, Value.int 4 0, Value.int 1 0, Value.int 0 0, Value.int 0 0, Value.int 3 0, Value.ref 22, Value.bool Bool.true, Value.int 181 0, Value.ref 23, Value.none, Value.ref 24, Value.ref 25, Value.ref 26, Value.int 200 0, Value.int 4 0, Value.str (Str.ofString "/claim/cut.py") 201] }) ::
  (nat_lit 28, fn28) ::
  (nat_lit 29, { cls := Value.type "tuple", data := Data.seq #[] }) ::
  (nat_lit 31, { cls := Value.type "tuple", data := Data.seq #[Value.str (Str.ofString "r") 208, Value.str (Str.ofString "g") 209, Value.str (Str.ofString "b") 210, Value.str (Str.ofString "maxc") 211, Value.str (Str.ofString "minc") 212, Value.str (Str.ofString "sumc") 213, Value.str (Str.ofString "rangec") 214, Value.str (Str.ofString "l") 215, Value.str (Str.ofString "s") 216, Value.str (Str.ofString "rc") 217, Value.str (Str.ofString "gc") 218, Value.str (Str.ofString "bc") 219, Value.str (Str.ofString "h") 220] }) ::
  (nat_lit 32, { cls := Value.type "tuple", data := Data.seq #[] }) ::
  (nat_lit 34, { cls := Value.type "code", data := Data.fields #[Value.str (Str.ofString "rgb_to_hls") 205, Value.str (Str.ofString "rgb_to_hls") 206, Value.str (Str.ofString "/claim/cut.py") 207, Value.int 22 0, Value.int 3 0, Value.int 0 0, Value.int 0 0, Value.int 3 0, Value.ref 29, Value.bool Bool.true, Value.int 181 0, Value.ref 30, Value.none, Value.ref 31, Value.ref 32, Value.ref 33, Value.int 221 0, Value.int 22 0, Value.str (Str.ofString "/claim/cut.py") 222] }) ::
  (nat_lit 35, fn35) ::
  (nat_lit 36, { cls := Value.type "tuple", data := Data.seq #[] }) ::
  (nat_lit 38, { cls := Value.type "tuple", data := Data.seq #[Value.str (Str.ofString "r") 227, Value.str (Str.ofString "g") 228, Value.str (Str.ofString "b") 229, Value.str (Str.ofString "maxc") 230, Value.str (Str.ofString "minc") 231, Value.str (Str.ofString "rangec") 232, Value.str (Str.ofString "v") 233, Value.str (Str.ofString "s") 234, Value.str (Str.ofString "rc") 235, Value.str (Str.ofString "gc") 236, Value.str (Str.ofString "bc") 237, Value.str (Str.ofString "h") 238] }) ::
  (nat_lit 39, { cls := Value.type "tuple", data := Data.seq #[] }) ::
  (nat_lit 41, { cls := Value.type "code", data := Data.fields #[Value.str (Str.ofString "rgb_to_hsv") 224, Value.str (Str.ofString "rgb_to_hsv") 225, Value.str (Str.ofString "/claim/cut.py") 226, Value.int 45 0, Value.int 3 0, Value.int 0 0, Value.int 0 0, Value.int 3 0, Value.ref 36, Value.bool Bool.true, Value.int 181 0, Value.ref 37, Value.none, Value.ref 38, Value.ref 39, Value.ref 40, Value.int 239 0, Value.int 45 0, Value.str (Str.ofString "/claim/cut.py") 240] }) ::
  (nat_lit 42, fn42) ::
  (nat_lit 43, { cls := Value.type "tuple", data := Data.seq #[] }) ::
  (nat_lit 45, { cls := Value.type "tuple", data := Data.seq #[Value.str (Str.ofString "h") 245, Value.str (Str.ofString "s") 246, Value.str (Str.ofString "v") 247, Value.str (Str.ofString "i") 248, Value.str (Str.ofString "f") 249, Value.str (Str.ofString "p") 250, Value.str (Str.ofString "q") 251, Value.str (Str.ofString "t") 252] }) ::
  (nat_lit 46, { cls := Value.type "tuple", data := Data.seq #[] }) ::
  (nat_lit 48, { cls := Value.type "code", data := Data.fields #[Value.str (Str.ofString "hsv_to_rgb") 242, Value.str (Str.ofString "hsv_to_rgb") 243, Value.str (Str.ofString "/claim/cut.py") 244, Value.int 64 0, Value.int 3 0, Value.int 0 0, Value.int 0 0, Value.int 3 0, Value.ref 43, Value.bool Bool.true, Value.int 181 0, Value.ref 44, Value.none, Value.ref 45, Value.ref 46, Value.ref 47, Value.int 253 0, Value.int 64 0, Value.str (Str.ofString "/claim/cut.py") 254] }) ::
  (nat_lit 49, fn49) ::
  (nat_lit 50, { cls := Value.type "tuple", data := Data.seq #[] }) ::
  (nat_lit 52, { cls := Value.type "tuple", data := Data.seq #[Value.str (Str.ofString "ch_a") 267, Value.str (Str.ofString "ch_b") 268] }) ::
  (nat_lit 53, { cls := Value.type "tuple", data := Data.seq #[] }) ::
  (nat_lit 55, { cls := Value.type "code", data := Data.fields #[Value.str (Str.ofString "_substitution_cost") 264, Value.str (Str.ofString "_substitution_cost") 265, Value.str (Str.ofString "/claim/cut.py") 266, Value.int 89 0, Value.int 2 0, Value.int 0 0, Value.int 0 0, Value.int 3 0, Value.ref 50, Value.bool Bool.true, Value.int 181 0, Value.ref 51, Value.none, Value.ref 52, Value.ref 53, Value.ref 54, Value.int 269 0, Value.int 89 0, Value.str (Str.ofString "/claim/cut.py") 270] }) ::
  (nat_lit 56, fn56) ::
  (nat_lit 57, { cls := Value.type "tuple", data := Data.seq #[] }) ::
  (nat_lit 59, { cls := Value.type "tuple", data := Data.seq #[Value.str (Str.ofString "a") 275, Value.str (Str.ofString "b") 276, Value.str (Str.ofString "max_cost") 277, Value.str (Str.ofString "pre") 278, Value.str (Str.ofString "post") 279, Value.str (Str.ofString "row") 280, Value.str (Str.ofString "result") 281, Value.str (Str.ofString "bindex") 282, Value.str (Str.ofString "bchar") 283, Value.str (Str.ofString "distance") 284, Value.str (Str.ofString "minimum") 285, Value.str (Str.ofString "index") 286, Value.str (Str.ofString "substitute") 287, Value.str (Str.ofString "insert_delete") 288] }) ::
  (nat_lit 60, { cls := Value.type "tuple", data := Data.seq #[] }) ::
  (nat_lit 62, { cls := Value.type "code", data := Data.fields #[Value.str (Str.ofString "_levenshtein_distance") 272, Value.str (Str.ofString "_levenshtein_distance") 273, Value.str (Str.ofString "/claim/cut.py") 274, Value.int 95 0, Value.int 3 0, Value.int 0 0, Value.int 0 0, Value.int 3 0, Value.ref 57, Value.bool Bool.true, Value.int 181 0, Value.ref 58, Value.none, Value.ref 59, Value.ref 60, Value.ref 61, Value.int 289 0, Value.int 95 0, Value.str (Str.ofString "/claim/cut.py") 290] }) ::
  (nat_lit 63, fn63) ::
  (nat_lit 64, { cls := Value.type "tuple", data := Data.seq #[] }) ::
  (nat_lit 67, { cls := Value.type "code", data := Data.fields #[Value.str (Str.ofString "_law_count") 294, Value.str (Str.ofString "_law_count") 295, Value.str (Str.ofString "/claim/cut.py") 296, Value.int 134 0, Value.int 3 0, Value.int 0 0, Value.int 0 0, Value.int 3 0, Value.ref 64, Value.bool Bool.true, Value.int 181 0, Value.ref 65, Value.none, Value.none, Value.none, Value.ref 66, Value.int 297 0, Value.int 134 0, Value.str (Str.ofString "/claim/cut.py") 298] }) ::
  (nat_lit 68, fn68) ::
  (nat_lit 69, { cls := Value.type "tuple", data := Data.seq #[] }) ::
  (nat_lit 71, { cls := Value.type "tuple", data := Data.seq #[Value.str (Str.ofString "spots") 303, Value.str (Str.ofString "near") 304] }) ::
  (nat_lit 72, { cls := Value.type "tuple", data := Data.seq #[] }) ::
  (nat_lit 74, { cls := Value.type "code", data := Data.fields #[Value.str (Str.ofString "_law_pieces") 300, Value.str (Str.ofString "_law_pieces") 301, Value.str (Str.ofString "/claim/cut.py") 302, Value.int 141 0, Value.int 2 0, Value.int 0 0, Value.int 0 0, Value.int 3 0, Value.ref 69, Value.bool Bool.true, Value.int 181 0, Value.ref 70, Value.none, Value.ref 71, Value.ref 72, Value.ref 73, Value.int 305 0, Value.int 141 0, Value.str (Str.ofString "/claim/cut.py") 306] }) ::
  (nat_lit 75, fn75) ::
  (nat_lit 76, { cls := Value.type "tuple", data := Data.seq #[] }) ::
  (nat_lit 79, { cls := Value.type "code", data := Data.fields #[Value.str (Str.ofString "_law_page") 308, Value.str (Str.ofString "_law_page") 309, Value.str (Str.ofString "/claim/cut.py") 310, Value.int 143 0, Value.int 2 0, Value.int 0 0, Value.int 0 0, Value.int 3 0, Value.ref 76, Value.bool Bool.true, Value.int 181 0, Value.ref 77, Value.none, Value.none, Value.none, Value.ref 78, Value.int 311 0, Value.int 143 0, Value.str (Str.ofString "/claim/cut.py") 312] }) ::
  (nat_lit 80, fn80) ::
  (nat_lit 81, { cls := Value.type "tuple", data := Data.seq #[] }) ::
  (nat_lit 84, { cls := Value.type "code", data := Data.fields #[Value.str (Str.ofString "law") 314, Value.str (Str.ofString "law") 315, Value.str (Str.ofString "/claim/cut.py") 316, Value.int 146 0, Value.int 1 0, Value.int 0 0, Value.int 0 0, Value.int 3 0, Value.ref 81, Value.bool Bool.true, Value.int 181 0, Value.ref 82, Value.none, Value.none, Value.none, Value.ref 83, Value.int 317 0, Value.int 146 0, Value.str (Str.ofString "/claim/cut.py") 318] }) ::
  (nat_lit 85, fn85) :: []
noncomputable def hd.heap_39 : Params → Frag := by
  refine' (?f : (K : Params → Frag) → rawK = K → (Params → Frag)) _ ?h
  case f => exact fun K _ => K
  case h => delta rawK fn21 fn28 fn35 fn42 fn49 fn56 fn63 fn68 fn75 fn80 fn85 Frag Addr Tok; exact rfl
/-- the view: the text's defs and constants -/
noncomputable def rawV : Program := { PySem.Challenge.pw_rs0103_01 with main := { PySem.Challenge.pw_rs0103_01.main with body := [1, 2, 4, 5, 6, 8, 9, 10, 11, 12, 14, 15, 16, 17].filterMap fun i => PySem.Challenge.pw_rs0103_01.main.body[i]? } }
noncomputable def hd.view_39 : Program := by
  refine' (?f : (o : Program) → rawV = o → Program) _ ?h
  case f => exact fun o _ => o
  case h => delta rawV PySem.Challenge.pw_rs0103_01; dsimp only [List.filterMap_cons, List.filterMap_nil, List.getElem?_cons_zero, List.getElem?_cons_succ]; exact rfl
abbrev asL : List Addr := [2, 3, 6, 15, 17, 18, 20, 21, 22, 24, 25, 27, 28, 29, 31, 32, 34, 35, 36, 38, 39, 41, 42, 43, 45, 46, 48, 49, 50, 52, 53, 55, 56, 57, 59, 60, 62, 63, 64, 67, 68, 69, 71, 72, 74, 75, 76, 79, 80, 81, 84, 85]
theorem asOk : ∀ P, asL = (hd.heap_39 P).map (·.1) := fun _ => by kernel_rfl
/-- the run of the top, by the kernel alone -/
theorem left : LeftO PySem.Challenge.rw_rs0103_01.row.prog hd.view_39 [] (fun s => xlAt hd.view_39 [] s && recOk PySem.Challenge.rw_rs0103_01.row.records s) (kHook hd.heap_39 asL asOk).obs (kHook hd.heap_39 asL asOk).val 962 := fun w => by kernel_rfl
theorem hd {d : DefRec} {kwd : List (Str × Expr)} (h1 : defOf hd.view_39 PySem.Challenge.rw_rs0103_01.row.name = some (d, kwd)) (h2 : PySem.Challenge.rw_rs0103_01.row.prog.theDef PySem.Challenge.rw_rs0103_01.row.name = some (d.params, d.body, d.scope))
    (h3 : kwWritten? d.params.kwonlyargs d.params.kw_defaults = some kwd)
    (walk : WalkO hd.view_39 [] (XL hd.view_39 []) (kHook hd.heap_39 asL asOk).says PySem.Challenge.rw_rs0103_01.row.toRowW d kwd fun f vs => PySem.call f vs) : PySem.Challenge.rw_rs0103_01.Holds := by
  o_law
  refine PySem.W.holds_open (q := hd.view_39) (loose := []) (Xt := fun s => xlAt hd.view_39 [] s && recOk PySem.Challenge.rw_rs0103_01.row.records s) (XP := XL hd.view_39 []) (N := 962) left (Hook.of (kHook hd.heap_39 asL asOk)) (Hook.keeps (kHook hd.heap_39 asL asOk)) (fun s e => xl_of s (Bool.and_eq_true_iff.mp e).1) XL.keeps h1 h2 h3 (fun s e => recFacts_of (Bool.and_eq_true_iff.mp e).2) (by rfl) (by assumption) (by decide +kernel) ⟨rfl, rfl, rfl, rfl, rfl, by decide +kernel⟩ ?hw walk
  case hw => w_witness2
end Mine
end
/-! part Spec -/
section
open PySem PySem.W PyProof.Rows PySem.Calls PySem.Spec
namespace Mine
theorem six_cases {i : Nat} (h : i < 6) : i = 0 ∨ i = 1 ∨ i = 2 ∨ i = 3 ∨ i = 4 ∨ i = 5 := (by decide +kernel : ∀ i < 6, i = 0 ∨ i = 1 ∨ i = 2 ∨ i = 3 ∨ i = 4 ∨ i = 5) i h
theorem five_cases {i : Nat} (h : i < 6) (h0 : i ≠ 0) : i = 1 ∨ i = 2 ∨ i = 3 ∨ i = 4 ∨ i = 5 := (six_cases h).resolve_left h0
theorem four_cases {i : Nat} (h : i < 4) : i = 0 ∨ i = 1 ∨ i = 2 ∨ i = 3 := (by decide +kernel : ∀ i < 4, i = 0 ∨ i = 1 ∨ i = 2 ∨ i = 3) i h
theorem three_cases {i : Nat} (h : i < 3) : i = 0 ∨ i = 1 ∨ i = 2 := (by decide +kernel : ∀ i < 3, i = 0 ∨ i = 1 ∨ i = 2) i h
theorem six_int {S : Int} (h0 : 0 ≤ S) (h1 : S < 6) : S = 0 ∨ S = 1 ∨ S = 2 ∨ S = 3 ∨ S = 4 ∨ S = 5 := by
  cases S with
  | ofNat n =>
    rcases six_cases (Int.ofNat_lt.mp h1) with rfl | rfl | rfl | rfl | rfl | rfl
    · exact .inl rfl
    · exact .inr (.inl rfl)
    · exact .inr (.inr (.inl rfl))
    · exact .inr (.inr (.inr (.inl rfl)))
    · exact .inr (.inr (.inr (.inr (.inl rfl))))
    · exact .inr (.inr (.inr (.inr (.inr rfl))))
  | negSucc n => exact absurd h0 (by simp)
/-- what _substitution_cost reckons -/
def subst (a b : Str) : Int := if a == b then 0 else if Txt.lower a == Txt.lower b then 1 else 2
/-- the first while -/
def preF (a b : Str) : Nat → Int → Int
  | 0, k => k
  | n + 1, k => if (Txt.slice a (some k) none).length ≠ 0 ∧ (Txt.slice b (some k) none).length ≠ 0 ∧ (Txt.item a k == Txt.item b k) = true then preF a b n (k + 1) else k
/-- a[:post or None] -/
def cut (a : Str) (k : Int) : Str := if k = 0 then Txt.slice a none none else Txt.slice a none (some k)
/-- the second while -/
def postF (a b : Str) : Nat → Int → Int
  | 0, k => k
  | n + 1, k => if (cut a k).length ≠ 0 ∧ (cut b k).length ≠ 0 ∧ (Txt.item a (k - 1) == Txt.item b (k - 1)) = true then postF a b n (k - 1) else k
def innerStep (bc a : Str) (st : Int × Int × Int × List Int) (i : Int) : Int × Int × Int × List Int :=
  let r := min (min st.2.1 (st.2.2.2.getD i.toNat 0) + 2) (st.1 + subst bc (Txt.item a i))
  (st.2.2.2.getD i.toNat 0, r, if r < st.2.2.1 then r else st.2.2.1, st.2.2.2.set i.toNat r)
def inner (bc a : Str) (i : Int) (row : List Int) : Int × Int × Int × List Int := (rangeKs 0 a.length).foldl (innerStep bc a) (i * 2, i * 2, 9223372036854775807, row)
def outer (a b : Str) (c : Int) : Nat → Int → List Int → Int → Int
  | 0, _, _, res => res
  | n + 1, i, row, _ =>
    let st := inner (Txt.item b i) a i row
    if st.2.2.1 > c then c + 1 else outer a b c n (i + 1) st.2.2.2 st.2.1
def dp (a b : Str) (c : Int) : Int :=
  if ((b.length : Int) - a.length) * 2 > c then c + 1 else outer a b c b.length 0 ((List.range a.length).map fun (i : Nat) => ((2 : Int) + (i : Int) * 2 : Int)) 0
def core (a b : Str) (c : Int) : Int :=
  if a.length = 0 ∨ b.length = 0 then 2 * ((a.length : Int) + b.length)
  else if a.length > 40 ∨ b.length > 40 then c + 1
  else if b.length < a.length then dp b a c else dp a b c
def mid (a b : Str) (c : Int) : Int := core (cut a (postF a b (a.length + 1) 0)) (cut b (postF a b (a.length + 1) 0)) c
def lev (a b : Str) (c : Int) : Int :=
  if a == b then 0 else mid (Txt.slice a (some (preF a b (a.length + 1) 0)) none) (Txt.slice b (some (preF a b (a.length + 1) 0)) none) c
end Mine
end
/-! part Pre -/
section
open PySem PySem.W PyProof.Rows PySem.Calls PySem.Spec
namespace Mine
set_option maxRecDepth 100000
set_option maxHeartbeats 8000000
/-- the claim of a call -/
abbrev Claim (rm : Nat) (w : World) (f : Addr) (news : List (Addr × Obj)) (vs : List Value) (R : (h₀ : Heap) → (L : Addr) → (m : Str → Option Value) → Shared → (Value → Shared → Prop) → Prop) : Prop :=
  ∀ (mean : ExcName → Option Value) (mg mb : Str → Option Value) (dp un : Nat) (gd : Option (List Code)) (cn : Str) (cs : Scope) (a : Addr) (ccd : Value) (cl : List (Str × Addr)) (outer : List Env) (A₀ : Around) (base h₀ : Heap) (L : Addr) (m : Str → Option Value) (s : Shared) (Q E : Value → Shared → Prop),
    Below A₀ base outer h₀ → Fr h₀ L s.heap m → (hd.heap_39 w.params).In h₀ → News h₀ L s.heap news → Top hd.view_39 (looseW hd.view_39 []) mean mg mb h₀ → cs.kind = .function →
    dp + rm < recursionLimit → un + 10 * rm < cLine → R h₀ L m s Q →
      wpAny (model PySem.Challenge.rw_rs0103_01.row.prog w) (ktrTop dp un gd cn cs L a ccd cl outer) (call (.ref f) vs) Q E s
abbrev RetV (news : List (Addr × Obj)) (V : Tok → Value) (h₀ : Heap) (L : Addr) (m : Str → Option Value) (s : Shared) (Q : Value → Shared → Prop) : Prop :=
  ∀ (t : Tok) (h' : Heap) (tk' : Nat), Fr h₀ L h' m → News h₀ L h' news → Q (V t) { s with heap := h', toks := tk' }
abbrev tup3 (x y z : Value) (c : Nat) : Obj := { cls := .type "tuple", data := .seq #[x, y, z] c }
abbrev RetT3 (news : List (Addr × Obj)) (x y z : UInt64) (h₀ : Heap) (L : Addr) (m : Str → Option Value) (s : Shared) (Q : Value → Shared → Prop) : Prop :=
  ∀ (D : Addr) (t1 t2 t3 : Tok) (c : Nat) (h' : Heap) (tk' : Nat), Fr h₀ L h' m → News h₀ L h' ((D, tup3 (.float x t1) (.float y t2) (.float z t3) c) :: news) → (∀ p ∈ news, p.1 < D) → Q (.ref D) { s with heap := h', toks := tk' }
/-- a state of the frame: the names that count, the ledger -/
def At (g : Heap) (L : Addr) (s : Shared) (ps : List (Str × Value)) (news : List (Addr × Obj)) (s' : Shared) : Prop :=
  ∃ h' tk' u, s' = { s with heap := h', toks := tk' } ∧ Fr g L h' (kstB u ps) ∧ News g L h' news
theorem fr_see {g h : Heap} {L : Addr} {m : Str → Option Value} {ps : List (Str × Value)} (F : Fr g L h m) (hp : ∀ p ∈ ps, m p.1 = some p.2) : Fr g L h (kstB m ps) := by
  have : kstB m ps = m := by
    funext y
    exact kstB_eq hp fun _ => rfl
  rw [this]; exact F
theorem fr_hide {g h : Heap} {L : Addr} {m : Str → Option Value} (ps : List (Str × Value)) (F : Fr g L h m) (hp : ∀ p ∈ ps, m p.1 = some p.2) : ∃ u, Fr g L h (kstB u ps) := ⟨m, fr_see F hp⟩
theorem At.intro {g h' : Heap} {L : Addr} {s : Shared} {ps : List (Str × Value)} {news news' : List (Addr × Obj)} {m' : Str → Option Value} {tk' : Nat} (F : Fr g L h' m') (N : News g L h' news') (hp : ∀ p ∈ ps, m' p.1 = some p.2) (hn : ∀ p ∈ news, p ∈ news') :
    At g L s ps news { s with heap := h', toks := tk' } := ⟨h', tk', m', rfl, fr_see F hp, fun p q => N p (hn p q)⟩
section
variable {M : Model} {A : Around} {env : Env} {E : Value → Shared → Prop} {s : Shared} {Q : Flow → Shared → Prop}
theorem exec_mid (Mid : Shared → Prop) {st : Stmt} (h1 : wpAny M A (exec st env) (fun f s' => f = .next ∧ Mid s') E s) (h2 : ∀ s', Mid s' → Q .next s') : wpAny M A (exec st env) Q E s :=
  wpAny_mono h1 (fun f s' h => by obtain ⟨rfl, h⟩ := h; exact h2 s' h) fun _ _ h => h
def OutAt {σ : Type} (g : Heap) (L : Addr) (s : Shared) (ps : σ → List (Str × Value)) (news : σ → List (Addr × Obj)) (f : Flow) (s' : Shared) : Prop := f = .next ∧ ∃ c, At g L s (ps c) (news c) s'
theorem OutAt.intro {σ : Type} {g h' : Heap} {L : Addr} {s : Shared} {ps : σ → List (Str × Value)} {news : σ → List (Addr × Obj)} {news' : List (Addr × Obj)} {m' : Str → Option Value} {tk' : Nat} (c : σ) (F : Fr g L h' m') (N : News g L h' news') (hp : ∀ p ∈ ps c, m' p.1 = some p.2) (hn : ∀ p ∈ news c, p ∈ news') :
    OutAt g L s ps news .next { s with heap := h', toks := tk' } := ⟨rfl, c, At.intro F N hp hn⟩
theorem exec_at {σ : Type} {g : Heap} {L : Addr} {m : Str → Option Value} {st : Stmt} (F : Fr g L s.heap m) (ps : σ → List (Str × Value)) (news : σ → List (Addr × Obj))
    (h1 : wpAny M A (exec st env) (OutAt g L s ps news) E s)
    (h2 : ∀ c u h' tk', Fr g L h' (kstB u (ps c)) → News g L h' (news c) → Q .next { s with heap := h', toks := tk' }) : wpAny M A (exec st env) Q E s :=
  wpAny_mono h1 (fun f s' h => by obtain ⟨rfl, c, h', tk', u, rfl, F, N⟩ := h; exact h2 c u h' tk' F N) fun _ _ h => h
end
theorem min_mine {prog : Program} {w : World} {A : Around} {E : Value → Shared → Prop} {s : Shared} {h₀ : Heap} {L : Addr} {m : Str → Option Value} {news : List (Addr × Obj)} {a b : Int} {t u : Tok} {Q : Value → Shared → Prop} (hh : A.handled = none) (F : Fr h₀ L s.heap m) (N : News h₀ L s.heap news)
    (h : ∀ r t' h' tk, r = min a b → Fr h₀ L h' m → News h₀ L h' news → Q (.int r t') { s with heap := h', toks := tk }) :
    wpAny (model prog w) A (call (.builtin "min") [.int a t, .int b u]) Q E s :=
  min_two_N hh F N fun h' tk F' N' => h _ _ h' tk (by split <;> omega) F' N'
end Mine
end
/-! part L1 -/
section
open PySem PySem.W PyProof.Rows PySem.Calls PySem.Spec PySem.Builtin.Str
namespace Mine
theorem filterMap_range_len (x : Array Nat) : ∀ c, c ≤ x.size → ((List.range c).filterMap (x[·]?)).length = c := by
  intro c
  induction c with
  | zero => intro _; rfl
  | succ c ih =>
    intro h
    rw [List.range_succ, List.filterMap_append, List.length_append, ih (by omega)]
    have hc : x[c]? = some (x[c]'(by omega)) := Array.getElem?_eq_getElem (by omega)
    simp [List.filterMap_cons, hc]
theorem idx_neg (k : Int) (n : Nat) (hk : k < 0) : strSliceIndices none (some k) 1 n = List.range ((n : Int) + k).toNat := by
  unfold strSliceIndices sliceRange
  simp only [show (1 : Int) > 0 by decide, if_true, if_pos hk]
  have e : max 0 (min (k + (n : Int)) n) = max 0 ((n : Int) + k) := by omega
  rw [e]
  split
  · have : (max 0 ((n : Int) + k) - 0 + 1 - 1) / 1 = max 0 ((n : Int) + k) := by omega
    rw [this]
    have e2 : (max 0 ((n : Int) + k)).toNat = ((n : Int) + k).toNat := by omega
    rw [e2]
    simp
  · have e2 : ((n : Int) + k).toNat = 0 := by omega
    rw [e2]; rfl
theorem cut_len (x : Str) (k : Int) (hk : k ≤ 0) : ((cut x k).length : Int) = max 0 ((x.length : Int) + k) := by
  unfold cut
  split
  · subst k
    have : Txt.slice x none none = x := by
      unfold Txt.slice
      rw [if_pos]
      unfold strSliceIndices sliceRange
      simp
      split <;> omega
    rw [this]; omega
  · unfold Txt.slice
    rw [idx_neg k x.length (by omega)]
    split
    · rename_i h
      simp at h; omega
    · show ((List.filterMap _ _).toArray.size : Int) = _
      rw [List.size_toArray, filterMap_range_len _ _ (by have : x.cps.size = x.length := rfl; omega)]
      omega
theorem sl_neg (x : Str) (k : Int) (hk : k < 0) : ((Txt.slice x none (some k)).length : Int) = max 0 ((x.length : Int) + k) := by
  have := cut_len x k (by omega)
  rwa [cut, if_neg (by omega)] at this
theorem sl_all (x : Str) : (Txt.slice x none none).length = x.length := by
  have := cut_len x 0 (by omega)
  rw [cut, if_pos rfl] at this; omega
end Mine
end
/-! part L2 -/
section
open PySem PySem.W PyProof.Rows PySem.Calls PySem.Spec PySem.Builtin.Str
namespace Mine
/-- if c in t: t = t.replace(c, r) -/
def rep1 (t c r : Str) : Str := if Txt.contains t c = true then Txt.replace t c r else t
def repF (c : Nat) (r : List Nat) (d : Nat) : List Nat := if d = c then r else [d]
theorem flat_free (c : Nat) (r : List Nat) : ∀ l : List Nat, c ∉ l → l.flatMap (repF c r) = l
  | [], _ => rfl
  | d :: l, h => by
    have h1 : d ≠ c := fun e => h (e ▸ List.mem_cons_self)
    rw [List.flatMap_cons, flat_free c r l fun e => h (List.mem_cons_of_mem _ e), repF, if_neg h1]; rfl
theorem join_list (sep : Str) : ∀ (p : Str) (ps : List Str), (Str.join sep (p :: ps)).cps.toList = p.cps.toList ++ ps.flatMap fun q => sep.cps.toList ++ q.cps.toList
  | p, [] => by simp [Str.join]
  | p, q :: r => by
    have : Str.join sep (p :: q :: r) = p ++ sep ++ Str.join sep (q :: r) := by first | rfl | simp [Str.join]
    rw [this, Str.cps_append, Str.cps_append, Array.toList_append, Array.toList_append, join_list sep q r]
    simp
theorem flat_join (c : Nat) (z : Str) (parts : List Str) (hf : ∀ p ∈ parts, c ∉ p.cps.toList) : (Str.join ⟨#[c]⟩ parts).cps.toList.flatMap (repF c z.cps.toList) = (Str.join z parts).cps.toList := by
  cases parts with
  | nil => simp [Str.join, Str.empty]
  | cons p ps =>
    rw [join_list, join_list, List.flatMap_append, flat_free _ _ _ (hf p List.mem_cons_self)]
    congr 1
    have hg : ∀ q ∈ ps, c ∉ q.cps.toList := fun q hq => hf q (List.mem_cons_of_mem _ hq)
    clear hf
    induction ps with
    | nil => rfl
    | cons q r ih =>
      rw [List.flatMap_cons, List.flatMap_cons, List.flatMap_append, ih fun q hq => hg q (List.mem_cons_of_mem _ hq), List.flatMap_append, flat_free _ _ _ (hg q List.mem_cons_self)]
      simp [repF]
theorem replace_flat (x z : Str) (c : Nat) : (Txt.replace x ⟨#[c]⟩ z).cps.toList = x.cps.toList.flatMap (repF c z.cps.toList) := by
  rw [StrLaws.replace_one, ← flat_join c z _ (StrLaws.split_free x c), StrLaws.join_split]
theorem rep1_flat (t r : Str) (c : Nat) : (rep1 t ⟨#[c]⟩ r).cps.toList = t.cps.toList.flatMap (repF c r.cps.toList) := by
  unfold rep1
  split
  · exact replace_flat t r c
  · rename_i h
    have : c ∉ t.cps.toList := by
      intro hm
      apply h
      unfold Txt.contains
      rw [StrLaws.found_one]
      exact decide_eq_true hm
    rw [flat_free _ _ _ this]
theorem flat_len (c : Nat) (r : List Nat) (hr : r.length ≤ 6) : ∀ l : List Nat, (l.flatMap (repF c r)).length ≤ 6 * l.length
  | [] => by simp
  | d :: l => by
    have := flat_len c r hr l
    rw [List.flatMap_cons, List.length_append, List.length_cons]
    unfold repF at this ⊢
    split
    · omega
    · simp only [List.length_cons, List.length_nil]; omega
theorem rep1_len (t r : Str) (c : Nat) (hr : r.length ≤ 6) : (rep1 t ⟨#[c]⟩ r).length ≤ 6 * t.length := by
  have h := flat_len c r.cps.toList (by simpa [Str.length] using hr) t.cps.toList
  rw [← rep1_flat] at h
  simpa [Str.length] using h
def esc (t : Str) : Str := rep1 (rep1 (rep1 (rep1 (rep1 (rep1 t (Str.ofString "&") (Str.ofString "&amp;")) (Str.ofString "<") (Str.ofString "&lt;")) (Str.ofString "\"") (Str.ofString "&quot;")) (Str.ofString "\t") (Str.ofString "&#x9;")) (Str.ofString "\n") (Str.ofString "&#xA;")) (Str.ofString "\r") (Str.ofString "&#xD;")
def escC (d : Nat) : List Nat :=
  (((((repF 38 (Str.ofString "&amp;").cps.toList d).flatMap (repF 60 (Str.ofString "&lt;").cps.toList)).flatMap (repF 34 (Str.ofString "&quot;").cps.toList)).flatMap (repF 9 (Str.ofString "&#x9;").cps.toList)).flatMap (repF 10 (Str.ofString "&#xA;").cps.toList)).flatMap (repF 13 (Str.ofString "&#xD;").cps.toList)
theorem of_one : Str.ofString "&" = ⟨#[38]⟩ ∧ Str.ofString "<" = ⟨#[60]⟩ ∧ Str.ofString "\"" = ⟨#[34]⟩ ∧ Str.ofString "\t" = ⟨#[9]⟩ ∧ Str.ofString "\n" = ⟨#[10]⟩ ∧ Str.ofString "\r" = ⟨#[13]⟩ := by decide +kernel
theorem esc_flat (t : Str) : (esc t).cps.toList = t.cps.toList.flatMap escC := by
  unfold esc
  rw [of_one.1, of_one.2.1, of_one.2.2.1, of_one.2.2.2.1, of_one.2.2.2.2.1, of_one.2.2.2.2.2]
  rw [rep1_flat, rep1_flat, rep1_flat, rep1_flat, rep1_flat, rep1_flat]
  simp only [List.flatMap_assoc]
  congr 1
  funext d
  simp only [escC, List.flatMap_assoc]
end Mine
end
/-! part L3 -/
section
open PySem PySem.W PyProof.Rows PySem.Calls PySem.Spec PySem.Flt
namespace Mine
def fmx (a b : UInt64) : UInt64 := if (Float64.cmp a b == some .lt) = true then b else a
def fmn (a b : UInt64) : UInt64 := if (Float64.cmp b a == some .lt) = true then b else a
section
variable {prog : Program} {w : World} {A : Around} {E : Value → Shared → Prop} {s : Shared} {Q : Value → Shared → Prop}
theorem max_three_num {a b d : Value} (hh : A.handled = none) (ha : NumV a) (hb : NumV b) (hd : NumV d)
    (h : ∀ h' tk, (∀ c o, s.heap.get? c = some o → h'.get? c = some o) → Q (if ltV a b then (if ltV b d then d else b) else (if ltV a d then d else a)) { s with heap := h', toks := tk }) :
    wpAny (model prog w) A (call (.builtin "max") [a, b, d]) Q E s := by
  have hT : (s.heap.push { cls := .type "tuple", data := .seq #[a, b, d] }).IsTuple s.heap.objs.size #[a, b, d] := ⟨_, Heap.get?_push_size _ rfl, rfl, 0, rfl⟩
  refine call_max_three (wpAny_pyIter_tuple hT ?_)
  have hsz : (s.heap.push { cls := .type "tuple", data := .seq #[a, b, d] }).objs.size = s.heap.objs.size + 1 := Heap.size_push ..
  refine ⟨_, [_, s.heap.objs.size], [_], _, _, _, _, rfl, Walks.tuple (A := A.in1) hh _ s.heap.objs.size (by rw [hsz]; exact Nat.ne_of_lt (Nat.lt_succ_self _)) #[a, b, d],
    ⟨⟨_, Heap.get?_push_size _ rfl, rfl, rfl⟩, hT.push _⟩, fun c hc => ?_, by simp, cmpOf_gt #[a, b, d] (by simp [ha, hb, hd]), fun v h' tk hP hk => ?_⟩
  · show c < ((s.heap.push _).push _).objs.size
    rw [Heap.size_push, hsz]
    rcases List.mem_cons.mp hc with rfl | hc
    · rw [hsz]; exact Nat.lt_succ_self _
    · rcases List.mem_cons.mp hc with rfl | hc
      · exact Nat.lt_succ_of_lt (Nat.lt_succ_self _)
      · cases hc
  · have hold : ∀ c o, s.heap.get? c = some o → h'.get? c = some o := fun c o e => by
      refine hk c o (fun hm => ?_) (Heap.get?_push_of_some _ (Heap.get?_push_of_some _ e))
      rcases List.mem_cons.mp hm with e1 | hm
      · have := Heap.lt_size e; rw [e1, hsz] at this; exact Nat.lt_irrefl _ (Nat.lt_of_succ_lt this)
      · cases hm
    have := h h' tk hold
    have hv : v = if ltV a b then (if ltV b d then d else b) else (if ltV a d then d else a) := by
      cases hc : ltV a b <;> cases hc2 : ltV b d <;> cases hc3 : ltV a d <;> simp [argBest, hc, hc2, hc3] at hP <;> simp [hP]
    rw [hv]; exact this
theorem min_three_num {a b d : Value} (hh : A.handled = none) (ha : NumV a) (hb : NumV b) (hd : NumV d)
    (h : ∀ h' tk, (∀ c o, s.heap.get? c = some o → h'.get? c = some o) → Q (if ltV b a then (if ltV d b then d else b) else (if ltV d a then d else a)) { s with heap := h', toks := tk }) :
    wpAny (model prog w) A (call (.builtin "min") [a, b, d]) Q E s := by
  have hT : (s.heap.push { cls := .type "tuple", data := .seq #[a, b, d] }).IsTuple s.heap.objs.size #[a, b, d] := ⟨_, Heap.get?_push_size _ rfl, rfl, 0, rfl⟩
  refine call_min_three (wpAny_pyIter_tuple hT ?_)
  have hsz : (s.heap.push { cls := .type "tuple", data := .seq #[a, b, d] }).objs.size = s.heap.objs.size + 1 := Heap.size_push ..
  refine ⟨_, [_, s.heap.objs.size], [_], _, _, _, _, rfl, Walks.tuple (A := A.in1) hh _ s.heap.objs.size (by rw [hsz]; exact Nat.ne_of_lt (Nat.lt_succ_self _)) #[a, b, d],
    ⟨⟨_, Heap.get?_push_size _ rfl, rfl, rfl⟩, hT.push _⟩, fun c hc => ?_, by simp, cmpOf_lt #[a, b, d] (by simp [ha, hb, hd]), fun v h' tk hP hk => ?_⟩
  · show c < ((s.heap.push _).push _).objs.size
    rw [Heap.size_push, hsz]
    rcases List.mem_cons.mp hc with rfl | hc
    · rw [hsz]; exact Nat.lt_succ_self _
    · rcases List.mem_cons.mp hc with rfl | hc
      · exact Nat.lt_succ_of_lt (Nat.lt_succ_self _)
      · cases hc
  · have hold : ∀ c o, s.heap.get? c = some o → h'.get? c = some o := fun c o e => by
      refine hk c o (fun hm => ?_) (Heap.get?_push_of_some _ (Heap.get?_push_of_some _ e))
      rcases List.mem_cons.mp hm with e1 | hm
      · have := Heap.lt_size e; rw [e1, hsz] at this; exact Nat.lt_irrefl _ (Nat.lt_of_succ_lt this)
      · cases hm
    have := h h' tk hold
    have hv : v = if ltV b a then (if ltV d b then d else b) else (if ltV d a then d else a) := by
      cases hc : ltV b a <;> cases hc2 : ltV d b <;> cases hc3 : ltV d a <;> simp [argBest, hc, hc2, hc3] at hP <;> simp [hP]
    rw [hv]; exact this
variable {h₀ : Heap} {L : Addr} {m : Str → Option Value} {news : List (Addr × Obj)} {x y z : UInt64} {t u v : Tok}
theorem max3_f (hh : A.handled = none) (F : Fr h₀ L s.heap m) (N : News h₀ L s.heap news)
    (h : ∀ r t' h' tk, r = fmx (fmx x y) z → (t ≠ 0 → u ≠ 0 → v ≠ 0 → t' ≠ 0) → Fr h₀ L h' m → News h₀ L h' news → Q (.float r t') { s with heap := h', toks := tk }) :
    wpAny (model prog w) A (call (.builtin "max") [.float x t, .float y u, .float z v]) Q E s :=
  max_three_num hh (.float _ _) (.float _ _) (.float _ _) fun h' tk kp => by
    have k := fun r t' e z => h r t' h' tk e z (F.grownK kp) (N.grown kp)
    cases h1 : ltV (.float x t) (.float y u) <;> cases h2 : ltV (.float y u) (.float z v) <;> cases h3 : ltV (.float x t) (.float z v) <;>
      simp only [h1, h2, h3, if_true, if_false, Bool.false_eq_true] <;> refine k _ _ ?_ (fun a1 a2 a3 => by assumption) <;>
      (have e1 : (Float64.cmp x y == some .lt) = _ := h1; have e2 : (Float64.cmp y z == some .lt) = _ := h2; have e3 : (Float64.cmp x z == some .lt) = _ := h3
       simp [fmx, e1, e2, e3])
theorem min3_f (hh : A.handled = none) (F : Fr h₀ L s.heap m) (N : News h₀ L s.heap news)
    (h : ∀ r t' h' tk, r = fmn (fmn x y) z → (t ≠ 0 → u ≠ 0 → v ≠ 0 → t' ≠ 0) → Fr h₀ L h' m → News h₀ L h' news → Q (.float r t') { s with heap := h', toks := tk }) :
    wpAny (model prog w) A (call (.builtin "min") [.float x t, .float y u, .float z v]) Q E s :=
  min_three_num hh (.float _ _) (.float _ _) (.float _ _) fun h' tk kp => by
    have k := fun r t' e z => h r t' h' tk e z (F.grownK kp) (N.grown kp)
    cases h1 : ltV (.float y u) (.float x t) <;> cases h2 : ltV (.float z v) (.float y u) <;> cases h3 : ltV (.float z v) (.float x t) <;>
      simp only [h1, h2, h3, if_true, if_false, Bool.false_eq_true] <;> refine k _ _ ?_ (fun a1 a2 a3 => by assumption) <;>
      (have e1 : (Float64.cmp y x == some .lt) = _ := h1; have e2 : (Float64.cmp z y == some .lt) = _ := h2; have e3 : (Float64.cmp z x == some .lt) = _ := h3
       simp [fmn, e1, e2, e3])
end
end Mine
end
/-! part L4 -/
section
open PySem PySem.W PyProof.Rows PySem.Calls PySem.Spec PySem.Flt
namespace Mine
open Float64 in
def h2r (h s v : UInt64) : UInt64 × UInt64 × UInt64 :=
  let i := Flt.toInt Float64.truncOf (mul h 4618441417868443648)
  let f := sub (mul h 4618441417868443648) (ofInt i)
  let p := mul v (sub 4607182418800017408 s)
  let q := mul v (sub 4607182418800017408 (mul s f))
  let t := mul v (sub 4607182418800017408 (mul s (sub 4607182418800017408 f)))
  if i.fmod 6 = 0 then (v, t, p) else if i.fmod 6 = 1 then (q, v, p) else if i.fmod 6 = 2 then (p, v, t) else if i.fmod 6 = 3 then (p, q, v) else if i.fmod 6 = 4 then (t, p, v) else (v, p, q)
def mx3 (r g b : UInt64) : UInt64 := fmx (fmx r g) b
def mn3 (r g b : UInt64) : UInt64 := fmn (fmn r g) b
open Float64 in
def hue (r g b mx mn : UInt64) : UInt64 :=
  (divmod (div (if (cmp r mx == some .eq) = true then sub (div (sub mx b) (sub mx mn)) (div (sub mx g) (sub mx mn))
    else if (cmp g mx == some .eq) = true then sub (add 4611686018427387904 (div (sub mx r) (sub mx mn))) (div (sub mx b) (sub mx mn))
    else sub (add 4616189618054758400 (div (sub mx g) (sub mx mn))) (div (sub mx r) (sub mx mn))) 4618441417868443648) 4607182418800017408).2
open Float64 in
def sat (mx mn : UInt64) : UInt64 := if (cmp (div (add mx mn) 4611686018427387904) 4602678819172646912 == some .lt || cmp (div (add mx mn) 4611686018427387904) 4602678819172646912 == some .eq) = true then div (sub mx mn) (add mx mn) else div (sub mx mn) (sub (sub 4611686018427387904 mx) mn)
section
variable {r g b mx mn : UInt64}
open Float64
theorem hue_r (h : (cmp r mx == some .eq) = true) : hue r g b mx mn = (divmod (div (sub (div (sub mx b) (sub mx mn)) (div (sub mx g) (sub mx mn))) 4618441417868443648) 4607182418800017408).2 := by rw [hue, if_pos h]
theorem hue_g (h : (cmp r mx == some .eq) = false) (h2 : (cmp g mx == some .eq) = true) : hue r g b mx mn = (divmod (div (sub (add 4611686018427387904 (div (sub mx r) (sub mx mn))) (div (sub mx b) (sub mx mn))) 4618441417868443648) 4607182418800017408).2 := by
  rw [hue, if_neg (by simp [h]), if_pos h2]
theorem hue_b (h : (cmp r mx == some .eq) = false) (h2 : (cmp g mx == some .eq) = false) : hue r g b mx mn = (divmod (div (sub (add 4616189618054758400 (div (sub mx g) (sub mx mn))) (div (sub mx r) (sub mx mn))) 4618441417868443648) 4607182418800017408).2 := by
  rw [hue, if_neg (by simp [h]), if_neg (by simp [h2])]
theorem nan_fin {x : UInt64} (h : isFinite x = true) (h2 : isNaN x = true) : False := by
  unfold Float64.isFinite Float64.isNaN at *
  cases e : decode x <;> simp_all
theorem inf_fin {x : UInt64} (h : isFinite x = true) (h2 : isInf x = true) : False := by
  unfold Float64.isFinite Float64.isInf at *
  cases e : decode x <;> simp_all
theorem sat_lo (h : (cmp (div (add mx mn) 4611686018427387904) 4602678819172646912 == some .lt || cmp (div (add mx mn) 4611686018427387904) 4602678819172646912 == some .eq) = true) : sat mx mn = div (sub mx mn) (add mx mn) := by rw [sat, if_pos h]
theorem sat_hi (h : (cmp (div (add mx mn) 4611686018427387904) 4602678819172646912 == some .lt || cmp (div (add mx mn) 4611686018427387904) 4602678819172646912 == some .eq) = false) : sat mx mn = div (sub mx mn) (sub (sub 4611686018427387904 mx) mn) := by rw [sat, if_neg (by rw [h]; exact Bool.false_ne_true)]
theorem h2r_0 {h s v : UInt64} (e : (Flt.toInt Float64.truncOf (mul h 4618441417868443648)).fmod 6 = 0) : h2r h s v = (v, (mul v (sub 4607182418800017408 (mul s (sub 4607182418800017408 (sub (mul h 4618441417868443648) (ofInt (Flt.toInt Float64.truncOf (mul h 4618441417868443648)))))))), (mul v (sub 4607182418800017408 s))) := by simp [h2r, e]
theorem h2r_1 {h s v : UInt64} (e : (Flt.toInt Float64.truncOf (mul h 4618441417868443648)).fmod 6 = 1) : h2r h s v = ((mul v (sub 4607182418800017408 (mul s (sub (mul h 4618441417868443648) (ofInt (Flt.toInt Float64.truncOf (mul h 4618441417868443648))))))), v, (mul v (sub 4607182418800017408 s))) := by simp [h2r, e]
theorem h2r_2 {h s v : UInt64} (e : (Flt.toInt Float64.truncOf (mul h 4618441417868443648)).fmod 6 = 2) : h2r h s v = ((mul v (sub 4607182418800017408 s)), v, (mul v (sub 4607182418800017408 (mul s (sub 4607182418800017408 (sub (mul h 4618441417868443648) (ofInt (Flt.toInt Float64.truncOf (mul h 4618441417868443648))))))))) := by simp [h2r, e]
theorem h2r_3 {h s v : UInt64} (e : (Flt.toInt Float64.truncOf (mul h 4618441417868443648)).fmod 6 = 3) : h2r h s v = ((mul v (sub 4607182418800017408 s)), (mul v (sub 4607182418800017408 (mul s (sub (mul h 4618441417868443648) (ofInt (Flt.toInt Float64.truncOf (mul h 4618441417868443648))))))), v) := by simp [h2r, e]
theorem h2r_4 {h s v : UInt64} (e : (Flt.toInt Float64.truncOf (mul h 4618441417868443648)).fmod 6 = 4) : h2r h s v = ((mul v (sub 4607182418800017408 (mul s (sub 4607182418800017408 (sub (mul h 4618441417868443648) (ofInt (Flt.toInt Float64.truncOf (mul h 4618441417868443648)))))))), (mul v (sub 4607182418800017408 s)), v) := by simp [h2r, e]
theorem h2r_5 {h s v : UInt64} (e : (Flt.toInt Float64.truncOf (mul h 4618441417868443648)).fmod 6 = 5) : h2r h s v = (v, (mul v (sub 4607182418800017408 s)), (mul v (sub 4607182418800017408 (mul s (sub (mul h 4618441417868443648) (ofInt (Flt.toInt Float64.truncOf (mul h 4618441417868443648)))))))) := by simp [h2r, e]
theorem six_no {k : Int} (h0 : k.fmod 6 ≠ 0) (h1 : k.fmod 6 ≠ 1) (h2 : k.fmod 6 ≠ 2) (h3 : k.fmod 6 ≠ 3) (h4 : k.fmod 6 ≠ 4) (h5 : k.fmod 6 ≠ 5) : False := by
  rcases six_int (Int.fmod_nonneg_of_pos k (by decide : (0 : Int) < 6)) (Int.fmod_lt_of_pos k (by decide : (0 : Int) < 6)) with h | h | h | h | h | h
  · exact h0 h
  · exact h1 h
  · exact h2 h
  · exact h3 h
  · exact h4 h
  · exact h5 h
def hueN (r g b mx mn : UInt64) : UInt64 :=
  if (cmp r mx == some .eq) = true then sub (div (sub mx b) (sub mx mn)) (div (sub mx g) (sub mx mn))
    else if (cmp g mx == some .eq) = true then sub (add 4611686018427387904 (div (sub mx r) (sub mx mn))) (div (sub mx b) (sub mx mn))
    else sub (add 4616189618054758400 (div (sub mx g) (sub mx mn))) (div (sub mx r) (sub mx mn))
theorem hueN_eq (r g b mx mn : UInt64) : hue r g b mx mn = (divmod (div (hueN r g b mx mn) 4618441417868443648) 4607182418800017408).2 := rfl
theorem hueN_r (h : (cmp r mx == some .eq) = true) : hueN r g b mx mn = sub (div (sub mx b) (sub mx mn)) (div (sub mx g) (sub mx mn)) := by rw [hueN, if_pos h]
theorem hueN_g (h : (cmp r mx == some .eq) = false) (h2 : (cmp g mx == some .eq) = true) : hueN r g b mx mn = sub (add 4611686018427387904 (div (sub mx r) (sub mx mn))) (div (sub mx b) (sub mx mn)) := by
  rw [hueN, if_neg (by simp [h]), if_pos h2]
theorem hueN_b (h : (cmp r mx == some .eq) = false) (h2 : (cmp g mx == some .eq) = false) : hueN r g b mx mn = sub (add 4616189618054758400 (div (sub mx g) (sub mx mn))) (div (sub mx r) (sub mx mn)) := by
  rw [hueN, if_neg (by simp [h]), if_neg (by simp [h2])]
end
end Mine
end
/-! part P2 -/
section
open PySem PySem.W PyProof.Rows PySem.Calls PySem.Spec PySem.Flt
namespace Mine
abbrev RetT3z (news : List (Addr × Obj)) (x y z : UInt64) (h₀ : Heap) (L : Addr) (m : Str → Option Value) (s : Shared) (Q : Value → Shared → Prop) : Prop :=
  ∀ (D : Addr) (t1 t2 t3 : Tok) (c : Nat) (h' : Heap) (tk' : Nat), Fr h₀ L h' m → News h₀ L h' ((D, tup3 (.float x t1) (.float y t2) (.float z t3) c) :: news) → (∀ p ∈ news, p.1 < D) → t1 ≠ 0 → t2 ≠ 0 → t3 ≠ 0 → Q (.ref D) { s with heap := h', toks := tk' }
end Mine
end
/-! part L5 -/
section
open PySem PySem.W PyProof.Rows PySem.Calls PySem.Spec
namespace Mine
/-- the values of a comprehension, one by one -/
inductive All2 (f : Nat → Value → Prop) : List Nat → List Value → Prop
  | nil : All2 f [] []
  | cons {j : Nat} {z : Value} {js : List Nat} {zs : List Value} : f j z → All2 f js zs → All2 f (j :: js) (z :: zs)
theorem All2.snoc {f : Nat → Value → Prop} {j : Nat} {z : Value} : ∀ {js : List Nat} {zs : List Value}, All2 f js zs → f j z → All2 f (js ++ [j]) (zs ++ [z])
  | _, _, .nil, h => .cons h .nil
  | _, _, .cons a r, h => .cons a (r.snoc h)
theorem All2.ints {g : Nat → Int} : ∀ {js : List Nat} {zs : List Value}, All2 (fun j z => ∃ t, z = .int (g j) t) js zs → IntsAre zs (js.map g)
  | _, _, .nil => .nil
  | _, _, .cons ⟨t, e⟩ r => by subst e; exact .cons _ _ r.ints
theorem All2.strs {g : Nat → Str} : ∀ {js : List Nat} {zs : List Value}, All2 (fun j z => ∃ t, z = .str (g j) t) js zs → StrsAre zs (js.map g)
  | _, _, .nil => .nil
  | _, _, .cons ⟨t, e⟩ r => by subst e; exact .cons _ _ r.strs
theorem All2.len {f : Nat → Value → Prop} : ∀ {js : List Nat} {zs : List Value}, All2 f js zs → zs.length = js.length
  | _, _, .nil => rfl
  | _, _, .cons _ r => by rw [List.length_cons, List.length_cons, r.len]
def CompOut (h₀ : Heap) (L : Addr) (m : Str → Option Value) (s₁ : Shared) (led : List (Addr × Obj)) (R : Value → Prop) (y : Value) (s₂ : Shared) : Prop :=
  ∃ h' tk, s₂ = { s₁ with heap := h', toks := tk } ∧ Fr h₀ L h' m ∧ News h₀ L h' led ∧ R y
theorem CompOut.intro {h₀ h' : Heap} {L : Addr} {m : Str → Option Value} {s₁ : Shared} {led led' : List (Addr × Obj)} {R : Value → Prop} {y : Value} {tk : Nat} (F : Fr h₀ L h' m) (N : News h₀ L h' led') (hs : ∀ p ∈ led, p ∈ led') (r : R y) :
    CompOut h₀ L m s₁ led R y { s₁ with heap := h', toks := tk } := ⟨h', tk, rfl, F, fun p q => N p (hs p q), r⟩
section
variable {prog : Program} {w : World} {A : Around} {E : Value → Shared → Prop} {s : Shared} {h₀ : Heap} {L : Addr} {m : Str → Option Value} {env : Env}
theorem comp_map {elt : Expr} {x : Str} {scope : Scope} {cl : List (Str × Addr)} {S : List (Addr × Obj) → Prop} {P : Nat → Value → Prop} {Fin : List Value → List (Addr × Obj) → Prop} {news : List (Addr × Obj)} (f : Nat → Value → Prop) (n : Nat) (hS : S news)
    (step : ∀ i ys v I oI C oC D m₂ h tk (E' : Value → Shared → Prop), i < n → P i v → LCg.NsObj oC m₂ → m₂ x = some v → Fr h₀ L h m → News h₀ L h ((I, oI) :: (C, oC) :: (D, LCg.lst ys) :: news) →
      wpAny (model prog w) A (eval elt (compEnvC scope cl C env)) (CompOut h₀ L m { s with heap := h, toks := tk } ((I, oI) :: (C, oC) :: (D, LCg.lst ys) :: news) (f i)) E' { s with heap := h, toks := tk })
    (fin : ∀ zs, All2 f (List.range n) zs → Fin zs news) : LCg.CompRest prog w A h₀ L m env elt x scope cl s S P Fin n 0 [] news := by
  have key : ∀ k i ys, i + k = n → All2 f (List.range i) ys → LCg.CompRest prog w A h₀ L m env elt x scope cl s S P Fin k i ys news := by
    intro k
    induction k with
    | zero => intro i ys e h; refine LCg.CompRest.zero (fin ys ?_); rw [← e]; exact h
    | succ k ih =>
      intro i ys e h
      refine LCg.CompRest.succ fun v I oI C oC D m₂ hh tk E' hv hC hx F N off ne => ?_
      refine wpAny_mono (step i ys v I oI C oC D m₂ hh tk E' (by omega) hv hC hx F N) (fun y s₂ q => ?_) fun _ _ q => q
      obtain ⟨h', tk', rfl, F', N', r⟩ := q
      refine LCg.CompEnd.intro F' N' news (fun p hp => hp) off hS (ih (i + 1) (ys ++ [y]) (by omega) ?_)
      rw [List.range_succ]
      exact h.snoc r
  exact key n 0 [] (by omega) .nil
theorem comp_filter {ct elt : Expr} {x : Str} {scope : Scope} {cl : List (Str × Addr)} {S : List (Addr × Obj) → Prop} {P : Nat → Value → Prop} {Fin : List Value → List (Addr × Obj) → Prop} {news : List (Addr × Obj)} (f : Nat → Value → Prop) (p : Nat → Bool) (n : Nat) (hS : S news)
    (step : ∀ i ys v I oI C oC D m₂ h tk (E' : Value → Shared → Prop), i < n → P i v → LCg.NsObj oC m₂ → m₂ x = some v → Fr h₀ L h m → News h₀ L h ((I, oI) :: (C, oC) :: (D, LCg.lst ys) :: news) →
      wpAny (model prog w) A (isTrue ct (compEnvC scope cl C env) (eval ct (compEnvC scope cl C env))) (fun ok s' => ok = p i ∧ CompOut h₀ L m { s with heap := h, toks := tk } ((I, oI) :: (C, oC) :: (D, LCg.lst ys) :: news) (fun _ => True) .none s' ∧
        (ok = true → wpAny (model prog w) A (eval elt (compEnvC scope cl C env)) (CompOut h₀ L m { s with heap := h, toks := tk } ((I, oI) :: (C, oC) :: (D, LCg.lst ys) :: news) (f i)) E' s')) E' { s with heap := h, toks := tk })
    (fin : ∀ zs, All2 f ((List.range n).filter p) zs → Fin zs news) : LCt.CompRestT prog w A h₀ L m env ct elt x scope cl s S P Fin n 0 [] news := by
  have key : ∀ k i ys, i + k = n → All2 f ((List.range i).filter p) ys → LCt.CompRestT prog w A h₀ L m env ct elt x scope cl s S P Fin k i ys news := by
    intro k
    induction k with
    | zero => intro i ys e h; refine LCt.CompRestT.zero (fin ys ?_); rw [← e]; exact h
    | succ k ih =>
      intro i ys e h
      refine LCt.CompRestT.succ fun v I oI C oC D m₂ hh tk E' hv hC hx F N off ne => ?_
      refine wpAny_mono (step i ys v I oI C oC D m₂ hh tk E' (by omega) hv hC hx F N) (fun ok s₂ q => ?_) fun _ _ q => q
      obtain ⟨hok, ⟨h', tk', rfl, F', N', _⟩, hy⟩ := q
      cases ok with
      | true =>
        simp only [if_true]
        refine wpAny_mono (hy rfl) (fun y s₃ q => ?_) fun _ _ q => q
        obtain ⟨h'', tk'', rfl, F'', N'', r⟩ := q
        refine LCg.CompEnd.intro F'' N'' news (fun p hp => hp) off hS (ih (i + 1) (ys ++ [y]) (by omega) ?_)
        rw [List.range_succ, List.filter_append]
        simp only [List.filter_cons, ← hok, if_true, List.filter_nil]
        exact h.snoc r
      | false =>
        simp only [Bool.false_eq_true, if_false]
        refine LCg.CompEnd.intro F' N' news (fun p hp => hp) off hS (ih (i + 1) ys (by omega) ?_)
        rw [List.range_succ, List.filter_append]
        simp only [List.filter_cons, ← hok, Bool.false_eq_true, if_false, List.filter_nil, List.append_nil]
        exact h
  exact key n 0 [] (by omega) .nil
end
end Mine
end
/-! part L6 -/
section
open PySem PySem.W PyProof.Rows PySem.Calls PySem.Spec
namespace Mine
theorem ints_at : ∀ {vs : List Value} {ns : List Int}, IntsAre vs ns → ∀ {j : Nat}, j < ns.length → ∃ t, vs[j]? = some (.int (ns.getD j 0) t)
  | _, _, .cons n t r, 0, _ => ⟨t, rfl⟩
  | _, _, .cons n t r, j + 1, h => by
    obtain ⟨u, e⟩ := ints_at r (j := j) (by simpa using h)
    exact ⟨u, by simpa using e⟩
theorem strs_at : ∀ {vs : List Value} {ns : List Str}, StrsAre vs ns → ∀ {j : Nat}, j < ns.length → ∃ t, vs[j]? = some (.str (ns.getD j Str.empty) t)
  | _, _, .cons n t r, 0, _ => ⟨t, rfl⟩
  | _, _, .cons n t r, j + 1, h => by
    obtain ⟨u, e⟩ := strs_at r (j := j) (by simpa using h)
    exact ⟨u, by simpa using e⟩
theorem All2.mono {P f : Nat → Value → Prop} : ∀ {js : List Nat} {zs : List Value}, All2 P js zs → (∀ j z, j ∈ js → P j z → f j z) → All2 f js zs
  | _, _, .nil, _ => .nil
  | _, _, .cons a r, h => .cons (h _ _ List.mem_cons_self a) (r.mono fun j z hj => h j z (List.mem_cons_of_mem _ hj))
section
variable {prog : Program} {w : World} {A : Around} {E : Value → Shared → Prop} {s : Shared} {value slice : PySem.Expr} {l : Addr} {vs : List Value} {k : Int} {u : Tok} {Q : Value → Shared → Prop}
theorem item_val {v : Value} (hl : s.heap.IsList l vs.toArray) (h0 : 0 ≤ k) (hhi : k < 2 ^ 63) (hx : vs[k.toNat]? = some v) (h : Q v s)
    (hs : subscripted slice false (.ref l) (.int k u) = operate [.ref l, .int k u] (getItem (.ref l) (.int k u)) := by with_unfolding_all rfl) :
    wpAny (model prog w) A (subscriptTail value slice (.ref l) (.int k u)) Q E s :=
  tail_any hl.typeIs slot_list_getitem.lookup (wpAny_getItem_list hl h0 hhi (by simpa using hx) h) hs
theorem item_str {ss : List Str} (hl : s.heap.IsList l vs.toArray) (hi : StrsAre vs ss) (h0 : 0 ≤ k) (h1 : k < ss.length) (h2 : k < 1000) (h : ∀ t, Q (.str (ss.getD k.toNat Str.empty) t) s)
    (hs : subscripted slice false (.ref l) (.int k u) = operate [.ref l, .int k u] (getItem (.ref l) (.int k u)) := by with_unfolding_all rfl) :
    wpAny (model prog w) A (subscriptTail value slice (.ref l) (.int k u)) Q E s := by
  obtain ⟨t, e⟩ := strs_at hi (j := k.toNat) (by omega)
  exact item_val hl h0 (by omega) e (h t) hs
theorem item_int {ns : List Int} (hl : s.heap.IsList l vs.toArray) (hi : IntsAre vs ns) (h0 : 0 ≤ k) (h1 : k < ns.length) (h2 : k < 1000) (h : ∀ t, Q (.int (ns.getD k.toNat 0) t) s)
    (hs : subscripted slice false (.ref l) (.int k u) = operate [.ref l, .int k u] (getItem (.ref l) (.int k u)) := by with_unfolding_all rfl) :
    wpAny (model prog w) A (subscriptTail value slice (.ref l) (.int k u)) Q E s := by
  obtain ⟨t, e⟩ := ints_at hi (j := k.toNat) (by omega)
  exact item_val hl h0 (by omega) e (h t) hs
end
theorem news_list {h₀ h : Heap} {L a : Addr} {vs : List Value} {c : Nat} {news : List (Addr × Obj)} (N : News h₀ L h news) (hm : (a, listOf vs.toArray c) ∈ news) : h.IsList a vs.toArray := ⟨_, (N _ hm).1, rfl, _, rfl⟩
theorem news_lst {h₀ h : Heap} {L a : Addr} {vs : List Value} {news : List (Addr × Obj)} (N : News h₀ L h news) (hm : (a, LCg.lst vs) ∈ news) : h.IsList a vs.toArray := ⟨_, (N _ hm).1, rfl, _, rfl⟩
end Mine
namespace Mine
open PySem PySem.W PyProof.Rows PySem.Calls PySem.Spec
def TestOut (h₀ : Heap) (L : Addr) (m : Str → Option Value) (s₁ : Shared) (led : List (Addr × Obj)) (b ok : Bool) (s₂ : Shared) : Prop :=
  ok = b ∧ ∃ h' tk, s₂ = { s₁ with heap := h', toks := tk } ∧ Fr h₀ L h' m ∧ News h₀ L h' led
theorem TestOut.intro {h₀ h' : Heap} {L : Addr} {m : Str → Option Value} {s₁ : Shared} {led led' : List (Addr × Obj)} {b ok : Bool} {tk : Nat} (F : Fr h₀ L h' m) (N : News h₀ L h' led') (hs : ∀ p ∈ led, p ∈ led') (r : ok = b) :
    TestOut h₀ L m s₁ led b ok { s₁ with heap := h', toks := tk } := ⟨r, h', tk, rfl, F, fun p q => N p (hs p q)⟩
section
variable {prog : Program} {w : World} {A : Around} {E : Value → Shared → Prop} {s : Shared} {h₀ : Heap} {L : Addr} {m : Str → Option Value} {env : Env}
/-- [x for x in .. if test] -/
theorem comp_keep {ct : Expr} {x : Str} {px : Pos} {scope : Scope} {cl : List (Str × Addr)} {S : List (Addr × Obj) → Prop} {P : Nat → Value → Prop} {Fin : List Value → List (Addr × Obj) → Prop} {news : List (Addr × Obj)} (p : Nat → Bool) (n : Nat) (hS : S news)
    (hk : ∀ C, (compEnvC scope cl C env).scope.kind = .function) (hl : ∀ C, (compEnvC scope cl C env).kindOf x = some .local) (hd : (x == ("__debug__" : Str)) = false)
    (step : ∀ i ys v I oI C oC D m₂ h tk (E' : Value → Shared → Prop), i < n → P i v → LCg.NsObj oC m₂ → m₂ x = some v → Fr h₀ L h m → News h₀ L h ((I, oI) :: (C, oC) :: (D, LCg.lst ys) :: news) →
      wpAny (model prog w) A (isTrue ct (compEnvC scope cl C env) (eval ct (compEnvC scope cl C env))) (TestOut h₀ L m { s with heap := h, toks := tk } ((I, oI) :: (C, oC) :: (D, LCg.lst ys) :: news) (p i)) E' { s with heap := h, toks := tk })
    (fin : ∀ zs, All2 P ((List.range n).filter p) zs → Fin zs news) : LCt.CompRestT prog w A h₀ L m env ct (.Name x px) x scope cl s S P Fin n 0 [] news := by
  refine comp_filter P p n hS (fun i ys v I oI C oC D m₂ h tk E' hi hv hC hx F N => ?_) fin
  refine wpAny_mono (step i ys v I oI C oC D m₂ h tk E' hi hv hC hx F N) (fun ok s' q => ?_) fun _ _ q => q
  obtain ⟨e, h', tk', rfl, F', N'⟩ := q
  refine ⟨e, ⟨h', tk', rfl, F', N', trivial⟩, fun _ => ?_⟩
  exact LCgL.ld_own N' (List.mem_cons_of_mem _ List.mem_cons_self) hC hx ⟨h', tk', rfl, F', N', hv⟩ (hk C) (hl C) hd
end
theorem cells1 {cm : Str → Option Value} {n : Str} {c : Addr} {l : List (Str × Addr)} {cells : List (Addr × Obj)} (x : CellsAre cm ((n, c) :: l) cells) : ∃ o r, cells = (c, o) :: r ∧ o.data = .cell (cm n) ∧ CellsAre cm l r := by
  cases x with | cons h1 r => exact ⟨_, _, rfl, h1, r⟩
theorem cells0 {cm : Str → Option Value} {cells : List (Addr × Obj)} (x : CellsAre cm [] cells) : cells = [] := by
  cases x; rfl
theorem cells6 {cm : Str → Option Value} {n1 n2 n3 n4 n5 n6 : Str} {c1 c2 c3 c4 c5 c6 : Addr} {cells : List (Addr × Obj)} (x : CellsAre cm [(n1, c1), (n2, c2), (n3, c3), (n4, c4), (n5, c5), (n6, c6)] cells) :
    ∃ o1 o2 o3 o4 o5 o6, cells = [(c1, o1), (c2, o2), (c3, o3), (c4, o4), (c5, o5), (c6, o6)] ∧ o1.data = .cell (cm n1) ∧ o2.data = .cell (cm n2) ∧ o3.data = .cell (cm n3) ∧ o4.data = .cell (cm n4) ∧ o5.data = .cell (cm n5) ∧ o6.data = .cell (cm n6) := by
  obtain ⟨o1, _, rfl, h1, x⟩ := cells1 x
  obtain ⟨o2, _, rfl, h2, x⟩ := cells1 x
  obtain ⟨o3, _, rfl, h3, x⟩ := cells1 x
  obtain ⟨o4, _, rfl, h4, x⟩ := cells1 x
  obtain ⟨o5, _, rfl, h5, x⟩ := cells1 x
  obtain ⟨o6, _, rfl, h6, x⟩ := cells1 x
  cases cells0 x
  exact ⟨o1, o2, o3, o4, o5, o6, rfl, h1, h2, h3, h4, h5, h6⟩
end Mine
end
/-! part L11 -/
section
open PySem PySem.W PyProof.Rows PySem.Calls PySem.Spec
set_option maxRecDepth 100000
namespace Mine
def MyJ {σ : Type} (Led : σ → List (Addr × Obj)) (ps : σ → List (Str × Value)) (P : Nat → σ → Prop) (i : Nat) (m : Str → Option Value) (nx : List (Addr × Obj)) : Prop :=
  ∃ c : σ, nx = Led c ∧ (∀ p ∈ ps c, m p.1 = some p.2) ∧ P i c
section
variable {prog : Program} {w : World} {A : Around} {E : Value → Shared → Prop} {s : Shared} {env : Env} {h₀ : Heap} {x : Str} {body : List Stmt} {Q : Flow → Shared → Prop}
theorem my_range {σ : Type} {r : Addr} {b₀ : Int} {t₀ u₀ v₀ : Tok} {m₀ : Str → Option Value} (n : Nat) (Led : σ → List (Addr × Obj)) (ps : σ → List (Str × Value)) (P : Nat → σ → Prop) (c₀ : σ)
    (hh : A.handled = none) (hr : IsRange s.heap r 0 b₀ 1 t₀ u₀ v₀) (hb : b₀ = (n : Int)) (hz : n ≤ 1000) (F : Fr h₀ env.locals s.heap m₀) (N : News h₀ env.locals s.heap (Led c₀)) (hk : ∀ p ∈ ps c₀, m₀ p.1 = some p.2) (hp : P 0 c₀) (hx : ∀ c, ((ps c).map (·.1)).all (fun z => !(z == x)) = true)
    (turn : ∀ (c : σ) (i : Nat) t (u : Str → Option Value) h tk own, i < n → OwnOff own ((Led c₀).map (·.1)) → P i c →
      Fr h₀ env.locals h (kstB u (ps c ++ [(x, .int (i : Int) t)])) → News h₀ env.locals h (Led c ++ own) →
      wpAny (model prog w) A (execs body env) (InvPostN h₀ env.locals (MyJ Led ps P (i + 1)) own ((Led c₀).map (·.1)) { s with heap := h, toks := tk } Q) E { s with heap := h, toks := tk })
    (done : ∀ (c : σ) (u : Str → Option Value) h tk, P n c → Fr h₀ env.locals h (kstB u (ps c)) → News h₀ env.locals h (Led c) → Q .next { s with heap := h, toks := tk }) :
    wpAny (model prog w) A (pyIter (.ref r)) (fun it s₂ => LoopAtV prog w A h₀ env x body Q E it s₂) E s := by
  subst hb
  have hn : Builtin.Range.rangeSize 0 (n : Int) 1 = (n : Int) := by rw [rangeSize_nat]; omega
  have hsmall : Builtin.Range.small 0 (n : Int) 1 = true := small_one (by decide) (by decide) (by omega) (by omega)
  refine wpAny_pyIter_range hr hsmall ?_
  have W : Walks prog w A s.heap.objs.size [s.heap.objs.size] [s.heap.objs.size] n (fun i v => i < n ∧ ∃ t, v = .int (0 + i * 1) t)
      (fun i h => IsRangeIter h s.heap.objs.size (0 + (i : Nat) * 1) ((n : Int) - (i : Nat)) 1) := (Walks.range hh _ 0 1 n).bound
  refine loop_invN (fun i m nx => MyJ Led ps P i m nx) W ?_ ?_ ?_ ?_ (by show IsRangeIter _ _ _ _ _; rw [hn]; simpa using Heap.get?_push_size _ rfl) (F.push _) (fun p hp => ⟨Heap.get?_push_of_some _ (N p hp).1, (N p hp).2⟩) ⟨c₀, rfl, hk, hp⟩ ?_ ?_
  · intro hm
    exact absurd F.ns.lt ((List.mem_singleton.mp hm) ▸ Nat.lt_irrefl _)
  · intro b hb
    rw [List.mem_singleton.mp hb]
    exact next_is_new F
  · intro p hp hI
    exact absurd (Heap.lt_size (N p hp).1) ((List.mem_singleton.mp hI) ▸ Nat.lt_irrefl _)
  · intro p hp hI
    exact absurd (Heap.lt_size (N p hp).1) ((List.mem_singleton.mp hI) ▸ Nat.lt_irrefl _)
  · rintro i v m₁ nx h tk own hi ⟨_, t, rfl⟩ _ hoff ⟨c, rfl, h1, hp'⟩ F₁ N₁
    have e1 : (0 : Int) + (i : Int) * 1 = (i : Int) := by omega
    rw [e1] at F₁
    refine turn c i t _ h tk own hi hoff hp' (fr_see F₁ ?_) N₁
    intro p hp2
    rcases List.mem_append.mp hp2 with hp2 | hp2
    · show (if p.1 = x then _ else m₁ p.1) = _
      have hz : p.1 ≠ x := by
        have h3 := List.all_eq_true.mp (hx c) p.1 (List.mem_map.mpr ⟨p, hp2, rfl⟩)
        intro e
        rw [e] at h3
        simp at h3
      rw [if_neg hz]; exact h1 p hp2
    · rw [List.mem_singleton.mp hp2]
      show (if x = x then _ else _) = _
      rw [if_pos rfl]
  · rintro m₁ nx h tk ⟨c, rfl, h1, hp'⟩ F₁ N₁
    exact done c m₁ h tk hp' (fr_see F₁ h1) N₁
theorem my_end {σ : Type} {Led : σ → List (Addr × Obj)} {ps : σ → List (Str × Value)} {P : Nat → σ → Prop} {i : Nat} (c : σ) {L : Addr} {m' : Str → Option Value} {own news' : List (Addr × Obj)} {adr : List Addr} {s₁ : Shared} {h' : Heap} {tk : Nat}
    (F : Fr h₀ L h' m') (N : News h₀ L h' news') (hk : ∀ p ∈ ps c, m' p.1 = some p.2) (ha : (Led c).map (·.1) = adr) (hn : ∀ p ∈ Led c, p ∈ news') (ho : ∀ p ∈ own, p ∈ news') (hp : P i c) :
    InvPostN h₀ L (MyJ Led ps P i) own adr s₁ Q .next { s₁ with heap := h', toks := tk } :=
  InvEndN.intro F N ⟨c, rfl, hk, hp⟩ ha hn ho
end
end Mine
end
/-! part L21 -/
section
open PySem PySem.W PyProof.Rows PySem.Calls PySem.Spec
set_option maxRecDepth 100000
namespace Mine
section
variable {prog : Program} {w : World} {A : Around} {E : Value → Shared → Prop} {s : Shared} {env : Env} {h₀ : Heap} {Q : Flow → Shared → Prop}
def WEnd {σ : Type} (h₀ : Heap) (L : Addr) (Led : σ → List (Addr × Obj)) (ps : σ → List (Str × Value)) (P : σ → Prop) (μ : σ → Nat) (c : σ) (s s' : Shared) : Prop :=
  ∃ c' h' tk m' news', s' = { s with heap := h', toks := tk } ∧ Fr h₀ L h' m' ∧ News h₀ L h' news' ∧ (∀ p ∈ Led c', p ∈ news') ∧ (∀ p ∈ ps c', m' p.1 = some p.2) ∧ P c' ∧ μ c' < μ c
def WPost {σ : Type} (h₀ : Heap) (L : Addr) (s : Shared) (Led : σ → List (Addr × Obj)) (ps : σ → List (Str × Value)) (P : σ → Prop) (μ : σ → Nat) (Q : Flow → Shared → Prop) (c : σ) (f : Flow) (s' : Shared) : Prop :=
  match f with
  | .ret v => Q (.ret v) s'
  | .brk => Q .next s'
  | _ => WEnd h₀ L Led ps P μ c s s'
theorem my_while {σ : Type} {test : Expr} {body : List Stmt} {pos : Pos} {m₀ : Str → Option Value} (Led : σ → List (Addr × Obj)) (ps : σ → List (Str × Value)) (P : σ → Prop) (μ : σ → Nat) (c₀ : σ)
    (F : Fr h₀ env.locals s.heap m₀) (N : News h₀ env.locals s.heap (Led c₀)) (hk : ∀ p ∈ ps c₀, m₀ p.1 = some p.2) (hp : P c₀)
    (turn : ∀ (c : σ) (u : Str → Option Value) h tk, P c → Fr h₀ env.locals h (kstB u (ps c)) → News h₀ env.locals h (Led c) →
      wpAny (model prog w) A (isTrue test env (eval test env)) (fun b s₂ =>
        if b = true then wpAny (model prog w) A (execs body env) (WPost h₀ env.locals s Led ps P μ Q c) E s₂ else Q .next s₂) E { s with heap := h, toks := tk })
    (hE : PassesOwn (model prog w) A env E) :
    wpAny (model prog w) A (exec (.While test body [] pos) env) Q E s := by
  refine While_inv2 (fun n m nx => ∃ c : σ, nx = Led c ∧ μ c = n ∧ (∀ p ∈ ps c, m p.1 = some p.2) ∧ P c) F N ⟨c₀, rfl, rfl, hk, hp⟩ ?_ hE
  rintro n m₁ nx h tk F₁ N₁ ⟨c, hnx, hsz, h1, hp'⟩
  rw [hnx] at N₁
  rw [← hsz]
  refine wpAny_mono (turn c m₁ h tk hp' (fr_see F₁ h1) N₁) (fun b s₂ p => ?_) fun _ _ x => x
  cases b with
  | false => simpa using p
  | true =>
    simp only [if_true] at p ⊢
    refine wpAny_mono p (fun f s₃ q => ?_) fun _ _ x => x
    cases f with
    | ret v => exact q
    | brk => exact q
    | next =>
      obtain ⟨c', h', tk', m', news', rfl, F', N', hn, hk9, hp9, hm9⟩ := q
      exact ⟨h', tk', m', Led c', μ c', rfl, F', fun p hp => N' p (hn p hp), hm9, c', rfl, rfl, hk9, hp9⟩
    | cont =>
      obtain ⟨c', h', tk', m', news', rfl, F', N', hn, hk9, hp9, hm9⟩ := q
      exact ⟨h', tk', m', Led c', μ c', rfl, F', fun p hp => N' p (hn p hp), hm9, c', rfl, rfl, hk9, hp9⟩
theorem w_end {σ : Type} {Led : σ → List (Addr × Obj)} {ps : σ → List (Str × Value)} {P : σ → Prop} {μ : σ → Nat} {c : σ} (c' : σ) {L : Addr} {m' : Str → Option Value} {news' : List (Addr × Obj)} {s₁ : Shared} {h' : Heap} {tk : Nat}
    (F : Fr h₀ L h' m') (N : News h₀ L h' news') (hk : ∀ p ∈ ps c', m' p.1 = some p.2) (hn : ∀ p ∈ Led c', p ∈ news') (hp : P c') (hm : μ c' < μ c) :
    WPost h₀ L s₁ Led ps P μ Q c .next { s₁ with heap := h', toks := tk } := ⟨c', h', tk, m', news', rfl, F, N, hn, hk, hp, hm⟩
end
def levDef (n : Nat) : Stmt := match PySem.Challenge.pw_rs0103_01.main.body.getD 12 (.Pass ⟨0, 0, 0, 0⟩) with
  | .FunctionDef _ _ b _ _ _ _ _ _ _ => b.getD n (.Pass ⟨0, 0, 0, 0⟩)
  | _ => .Pass ⟨0, 0, 0, 0⟩
def levSc : Scope := match PySem.Challenge.pw_rs0103_01.main.body.getD 12 (.Pass ⟨0, 0, 0, 0⟩) with
  | .FunctionDef _ _ _ _ _ _ sc _ _ _ => sc
  | _ => { kind := .function, names := [], isGenerator := false, isCoroutine := false }
/-- what a statement of the distance is asked -/
abbrev LvOk (w : World) (L' : Addr) (st : Stmt) (ps : List (Str × Value)) (news : List (Addr × Obj)) (R : Heap → Shared → (Flow → Shared → Prop) → Prop) : Prop :=
  ∀ (mean : ExcName → Option Value) (mg mb : Str → Option Value) (dp un : Nat) (gd : Option (List Code)) (cn : Str) (cs : Scope) (L a : Addr) (ccd : Value) (cl : List (Str × Addr)) (outer : List Env) (base g : Heap) (s : Shared) (Q : Flow → Shared → Prop) (E : Value → Shared → Prop) (u : Str → Option Value),
    Below (ktrTop dp un gd cn cs L a ccd cl outer) base (envX cn cs L a ccd cl :: outer) g → (hd.heap_39 w.params).In g → Top hd.view_39 (looseW hd.view_39 []) mean mg mb g → cs.kind = .function → dp + 8 < recursionLimit → un + 10 * 8 < cLine →
    Fr g L' s.heap (kstB u ps) → News g L' s.heap news → PassesOwn (model PySem.Challenge.rw_rs0103_01.row.prog w) ((ktrTop dp un gd cn cs L a ccd cl outer).deeper (envOf (Str.ofString "_levenshtein_distance") levSc L' 63 (.ref 62))) (envOf (Str.ofString "_levenshtein_distance") levSc L' 63 (.ref 62)) E → R g s Q →
      wpAny (model PySem.Challenge.rw_rs0103_01.row.prog w) ((ktrTop dp un gd cn cs L a ccd cl outer).deeper (envOf (Str.ofString "_levenshtein_distance") levSc L' 63 (.ref 62))) (exec st (envOf (Str.ofString "_levenshtein_distance") levSc L' 63 (.ref 62))) Q E s
end Mine
end
/-! part T1 -/
section
open PySem PySem.W PyProof.Rows PySem.Calls PySem.Spec
namespace Mine
set_option maxRecDepth 100000
set_option maxHeartbeats 8000000
theorem sub_ok (w : World) (a b : Str) (ta tb : Tok) (news : List (Addr × Obj)) (ha : a.length = 1) (hb : b.length = 1) : Claim 2 w 56 news [.str a ta, .str b tb] (RetV news (fun t => .int (subst a b) t)) := by
  dsimp only [Claim, RetV]
  k_fill
  intros
  rename_i hret
  refine wpAny_call ?_
  k_dflt cell_enter
  k_steps
  · exact cb_retI hret (by rw [subst, if_pos (by assumption)]) (by assumption) (by assumption)
  · exact cb_retI hret (by rw [subst, if_neg (by simp [*]), if_pos (by assumption)]) (by assumption) (by assumption)
  · exact cb_retI hret (by rw [subst, if_neg (by simp [*]), if_neg (by simp [*])]) (by assumption) (by assumption)
end Mine
end
/-! part T2 -/
section
open PySem PySem.W PyProof.Rows PySem.Calls PySem.Spec
namespace Mine
set_option maxRecDepth 100000
set_option maxHeartbeats 8000000
theorem h2r_ok (w : World) (h s v : UInt64) (th ts tv : Tok) (n3 : tv ≠ 0) (news : List (Addr × Obj)) (h1 : (Float64.cmp s 0 == some .eq) = false) (h2 : Float64.isFinite (Float64.mul h 4618441417868443648) = true) (h3 : (Flt.toInt Float64.truncOf (Float64.mul h 4618441417868443648)).natAbs < 1000) :
    Claim 4 w 49 news [.float h th, .float s ts, .float v tv] (RetT3z news (h2r h s v).1 (h2r h s v).2.1 (h2r h s v).2.2) := by
  dsimp only [Claim, RetT3z]
  k_fill
  intros
  rename_i hret
  refine wpAny_call ?_
  k_dflt cell_enter
  rename Fr _ _ _ _ => F0
  obtain ⟨u0, F1⟩ := fr_hide [(Str.ofString "h", .float h th), (Str.ofString "s", .float s ts), (Str.ofString "v", .float v tv)] F0 (by kst_all)
  clear F0
  repeat' (first | (k_unfold; (try dsimp only)) | (k_end; wrow_close) | ((fail_if_success (fail "x")); walk1) | (dsimp only; (fail_if_success (fail "x")); walk1) | (leave1; (try dsimp only)) | fail "no step")
  all_goals first
    | (rw [h2r_0 (by assumption)] at hret; refine' hret _ _ _ _ _ _ _ ?f ?n ?l ?za ?zb ?zc; (case f => assumption); (case n => assumption); (case l => assumption); (case za => (first | assumption | exact Nat.succ_ne_zero _ | omega | (simp_all; done))); (case zb => (first | assumption | exact Nat.succ_ne_zero _ | omega | (simp_all; done))); (case zc => (first | assumption | exact Nat.succ_ne_zero _ | omega | (simp_all; done))))
    | (rw [h2r_1 (by assumption)] at hret; refine' hret _ _ _ _ _ _ _ ?f ?n ?l ?za ?zb ?zc; (case f => assumption); (case n => assumption); (case l => assumption); (case za => (first | assumption | exact Nat.succ_ne_zero _ | omega | (simp_all; done))); (case zb => (first | assumption | exact Nat.succ_ne_zero _ | omega | (simp_all; done))); (case zc => (first | assumption | exact Nat.succ_ne_zero _ | omega | (simp_all; done))))
    | (rw [h2r_2 (by assumption)] at hret; refine' hret _ _ _ _ _ _ _ ?f ?n ?l ?za ?zb ?zc; (case f => assumption); (case n => assumption); (case l => assumption); (case za => (first | assumption | exact Nat.succ_ne_zero _ | omega | (simp_all; done))); (case zb => (first | assumption | exact Nat.succ_ne_zero _ | omega | (simp_all; done))); (case zc => (first | assumption | exact Nat.succ_ne_zero _ | omega | (simp_all; done))))
    | (rw [h2r_3 (by assumption)] at hret; refine' hret _ _ _ _ _ _ _ ?f ?n ?l ?za ?zb ?zc; (case f => assumption); (case n => assumption); (case l => assumption); (case za => (first | assumption | exact Nat.succ_ne_zero _ | omega | (simp_all; done))); (case zb => (first | assumption | exact Nat.succ_ne_zero _ | omega | (simp_all; done))); (case zc => (first | assumption | exact Nat.succ_ne_zero _ | omega | (simp_all; done))))
    | (rw [h2r_4 (by assumption)] at hret; refine' hret _ _ _ _ _ _ _ ?f ?n ?l ?za ?zb ?zc; (case f => assumption); (case n => assumption); (case l => assumption); (case za => (first | assumption | exact Nat.succ_ne_zero _ | omega | (simp_all; done))); (case zb => (first | assumption | exact Nat.succ_ne_zero _ | omega | (simp_all; done))); (case zc => (first | assumption | exact Nat.succ_ne_zero _ | omega | (simp_all; done))))
    | (rw [h2r_5 (by assumption)] at hret; refine' hret _ _ _ _ _ _ _ ?f ?n ?l ?za ?zb ?zc; (case f => assumption); (case n => assumption); (case l => assumption); (case za => (first | assumption | exact Nat.succ_ne_zero _ | omega | (simp_all; done))); (case zb => (first | assumption | exact Nat.succ_ne_zero _ | omega | (simp_all; done))); (case zc => (first | assumption | exact Nat.succ_ne_zero _ | omega | (simp_all; done))))
    | (exfalso; simp_all; done)
    | (exfalso; exact six_no (by assumption) (by assumption) (by assumption) (by assumption) (by assumption) (by assumption))
    | (exfalso; exact nan_fin (by assumption) (by assumption))
    | (exfalso; exact inf_fin (by assumption) (by assumption))
    | (exfalso; omega)
    | (exfalso; have big : (1000 : Nat) ≤ 2 ^ 1024 - 2 ^ 970 := by decide +kernel
       exact absurd h3 (Nat.not_lt.mpr (Nat.le_trans big (by assumption))))
end Mine
end
/-! part T4 -/
section
open PySem PySem.W PyProof.Rows PySem.Calls PySem.Spec
namespace Mine
set_option maxRecDepth 100000
set_option maxHeartbeats 8000000
section
local macro_rules | `(tactic| walk_at "execs cons") => `(tactic| refine wpAny_execs_cons ?_)
local macro_rules | `(tactic| walk_at "execs nil") => `(tactic| refine wpAny_execs_nil ?_)
theorem contains_no {x y : Str} (h : (Builtin.Str.occurrences x y 0 x.length 1).isEmpty = true) : ¬ Txt.contains x y = true := by simp [Txt.contains, h]
theorem contains_yes {x y : Str} (h : (Builtin.Str.occurrences x y 0 x.length 1).isEmpty = false) : Txt.contains x y = true := by simp [Txt.contains, h]
theorem esc_ok (w : World) (a : Str) (ta : Tok) (news : List (Addr × Obj)) (ha : a.length ≤ 20) : Claim 4 w 28 news [.str a ta] (RetV news (fun t => .str (esc a) t)) := by
  dsimp only [Claim, RetV]
  k_fill
  intros
  rename_i hret
  refine wpAny_call ?_
  k_dflt cell_enter
  rename Fr _ _ _ _ => F0
  obtain ⟨u0, F1⟩ := fr_hide [(Str.ofString "text", .str a ta)] F0 (by kst_all)
  clear F0
  unfold esc at hret
  repeat' (first | (k_unfold; (try dsimp only)) | (k_end; wrow_close) | ((fail_if_success ((with_reducible show wpAny _ _ (exec (Stmt.If _ _ _ _) _) _ _ _))); walk1) | (dsimp only; (fail_if_success ((with_reducible show wpAny _ _ (exec (Stmt.If _ _ _ _) _) _ _ _))); walk1) | (leave1; (try dsimp only)) | fail "no step")
  refine exec_at (by assumption) (fun t => [(Str.ofString "text", .str (rep1 a (Str.ofString "&") (Str.ofString "&amp;")) t)]) (fun _ => news) ?_ ?_
  · repeat' (first | (k_unfold; (try dsimp only)) | (k_end; wrow_close) | ((fail_if_success (fail "x")); walk1) | (dsimp only; (fail_if_success (fail "x")); walk1) | (leave1; (try dsimp only)) | fail "no step")
    all_goals first
      | exact OutAt.intro _ (by assumption) (by assumption) (by rw [rep1, if_pos (contains_yes (by assumption))]; kst_all) (by kcj_all)
      | exact OutAt.intro _ (by assumption) (by assumption) (by rw [rep1, if_neg (contains_no (by assumption))]; kst_all) (by kcj_all)
  intro t0 u0 h0 tk0 F0 N0
  have l0 : (rep1 a (Str.ofString "&") (Str.ofString "&amp;")).length ≤ 120 := by
    have := rep1_len a (Str.ofString "&amp;") (Str.ofString "&").cps[0]! (by decide +kernel)
    have e : (⟨#[(Str.ofString "&").cps[0]!]⟩ : Str) = Str.ofString "&" := by decide +kernel
    rw [e] at this
    omega
  generalize rep1 a (Str.ofString "&") (Str.ofString "&amp;") = a0 at *
  (try dsimp only)
  (try k_fold)
  repeat' (first | (k_unfold; (try dsimp only)) | (k_end; wrow_close) | ((fail_if_success ((with_reducible show wpAny _ _ (exec (Stmt.If _ _ _ _) _) _ _ _))); walk1) | (dsimp only; (fail_if_success ((with_reducible show wpAny _ _ (exec (Stmt.If _ _ _ _) _) _ _ _))); walk1) | (leave1; (try dsimp only)) | fail "no step")
  refine exec_at (by assumption) (fun t => [(Str.ofString "text", .str (rep1 a0 (Str.ofString "<") (Str.ofString "&lt;")) t)]) (fun _ => news) ?_ ?_
  · repeat' (first | (k_unfold; (try dsimp only)) | (k_end; wrow_close) | ((fail_if_success (fail "x")); walk1) | (dsimp only; (fail_if_success (fail "x")); walk1) | (leave1; (try dsimp only)) | fail "no step")
    all_goals first
      | exact OutAt.intro _ (by assumption) (by assumption) (by rw [rep1, if_pos (contains_yes (by assumption))]; kst_all) (by kcj_all)
      | exact OutAt.intro _ (by assumption) (by assumption) (by rw [rep1, if_neg (contains_no (by assumption))]; kst_all) (by kcj_all)
  intro t1 u1 h1 tk1 F1 N1
  have l1 : (rep1 a0 (Str.ofString "<") (Str.ofString "&lt;")).length ≤ 720 := by
    have := rep1_len a0 (Str.ofString "&lt;") (Str.ofString "<").cps[0]! (by decide +kernel)
    have e : (⟨#[(Str.ofString "<").cps[0]!]⟩ : Str) = Str.ofString "<" := by decide +kernel
    rw [e] at this
    omega
  generalize rep1 a0 (Str.ofString "<") (Str.ofString "&lt;") = a1 at *
  (try dsimp only)
  (try k_fold)
  repeat' (first | (k_unfold; (try dsimp only)) | (k_end; wrow_close) | ((fail_if_success ((with_reducible show wpAny _ _ (exec (Stmt.If _ _ _ _) _) _ _ _))); walk1) | (dsimp only; (fail_if_success ((with_reducible show wpAny _ _ (exec (Stmt.If _ _ _ _) _) _ _ _))); walk1) | (leave1; (try dsimp only)) | fail "no step")
  refine exec_at (by assumption) (fun t => [(Str.ofString "text", .str (rep1 a1 (Str.ofString "\"") (Str.ofString "&quot;")) t)]) (fun _ => news) ?_ ?_
  · repeat' (first | (k_unfold; (try dsimp only)) | (k_end; wrow_close) | ((fail_if_success (fail "x")); walk1) | (dsimp only; (fail_if_success (fail "x")); walk1) | (leave1; (try dsimp only)) | fail "no step")
    all_goals first
      | exact OutAt.intro _ (by assumption) (by assumption) (by rw [rep1, if_pos (contains_yes (by assumption))]; kst_all) (by kcj_all)
      | exact OutAt.intro _ (by assumption) (by assumption) (by rw [rep1, if_neg (contains_no (by assumption))]; kst_all) (by kcj_all)
  intro t2 u2 h2 tk2 F2 N2
  have l2 : (rep1 a1 (Str.ofString "\"") (Str.ofString "&quot;")).length ≤ 4320 := by
    have := rep1_len a1 (Str.ofString "&quot;") (Str.ofString "\"").cps[0]! (by decide +kernel)
    have e : (⟨#[(Str.ofString "\"").cps[0]!]⟩ : Str) = Str.ofString "\"" := by decide +kernel
    rw [e] at this
    omega
  generalize rep1 a1 (Str.ofString "\"") (Str.ofString "&quot;") = a2 at *
  (try dsimp only)
  (try k_fold)
  repeat' (first | (k_unfold; (try dsimp only)) | (k_end; wrow_close) | ((fail_if_success ((with_reducible show wpAny _ _ (exec (Stmt.If _ _ _ _) _) _ _ _))); walk1) | (dsimp only; (fail_if_success ((with_reducible show wpAny _ _ (exec (Stmt.If _ _ _ _) _) _ _ _))); walk1) | (leave1; (try dsimp only)) | fail "no step")
  refine exec_at (by assumption) (fun t => [(Str.ofString "text", .str (rep1 a2 (Str.ofString "\t") (Str.ofString "&#x9;")) t)]) (fun _ => news) ?_ ?_
  · repeat' (first | (k_unfold; (try dsimp only)) | (k_end; wrow_close) | ((fail_if_success (fail "x")); walk1) | (dsimp only; (fail_if_success (fail "x")); walk1) | (leave1; (try dsimp only)) | fail "no step")
    all_goals first
      | exact OutAt.intro _ (by assumption) (by assumption) (by rw [rep1, if_pos (contains_yes (by assumption))]; kst_all) (by kcj_all)
      | exact OutAt.intro _ (by assumption) (by assumption) (by rw [rep1, if_neg (contains_no (by assumption))]; kst_all) (by kcj_all)
  intro t3 u3 h3 tk3 F3 N3
  have l3 : (rep1 a2 (Str.ofString "\t") (Str.ofString "&#x9;")).length ≤ 25920 := by
    have := rep1_len a2 (Str.ofString "&#x9;") (Str.ofString "\t").cps[0]! (by decide +kernel)
    have e : (⟨#[(Str.ofString "\t").cps[0]!]⟩ : Str) = Str.ofString "\t" := by decide +kernel
    rw [e] at this
    omega
  generalize rep1 a2 (Str.ofString "\t") (Str.ofString "&#x9;") = a3 at *
  (try dsimp only)
  (try k_fold)
  repeat' (first | (k_unfold; (try dsimp only)) | (k_end; wrow_close) | ((fail_if_success ((with_reducible show wpAny _ _ (exec (Stmt.If _ _ _ _) _) _ _ _))); walk1) | (dsimp only; (fail_if_success ((with_reducible show wpAny _ _ (exec (Stmt.If _ _ _ _) _) _ _ _))); walk1) | (leave1; (try dsimp only)) | fail "no step")
  refine exec_at (by assumption) (fun t => [(Str.ofString "text", .str (rep1 a3 (Str.ofString "\n") (Str.ofString "&#xA;")) t)]) (fun _ => news) ?_ ?_
  · repeat' (first | (k_unfold; (try dsimp only)) | (k_end; wrow_close) | ((fail_if_success (fail "x")); walk1) | (dsimp only; (fail_if_success (fail "x")); walk1) | (leave1; (try dsimp only)) | fail "no step")
    all_goals first
      | exact OutAt.intro _ (by assumption) (by assumption) (by rw [rep1, if_pos (contains_yes (by assumption))]; kst_all) (by kcj_all)
      | exact OutAt.intro _ (by assumption) (by assumption) (by rw [rep1, if_neg (contains_no (by assumption))]; kst_all) (by kcj_all)
  intro t4 u4 h4 tk4 F4 N4
  have l4 : (rep1 a3 (Str.ofString "\n") (Str.ofString "&#xA;")).length ≤ 155520 := by
    have := rep1_len a3 (Str.ofString "&#xA;") (Str.ofString "\n").cps[0]! (by decide +kernel)
    have e : (⟨#[(Str.ofString "\n").cps[0]!]⟩ : Str) = Str.ofString "\n" := by decide +kernel
    rw [e] at this
    omega
  generalize rep1 a3 (Str.ofString "\n") (Str.ofString "&#xA;") = a4 at *
  (try dsimp only)
  (try k_fold)
  repeat' (first | (k_unfold; (try dsimp only)) | (k_end; wrow_close) | ((fail_if_success ((with_reducible show wpAny _ _ (exec (Stmt.If _ _ _ _) _) _ _ _))); walk1) | (dsimp only; (fail_if_success ((with_reducible show wpAny _ _ (exec (Stmt.If _ _ _ _) _) _ _ _))); walk1) | (leave1; (try dsimp only)) | fail "no step")
  refine exec_at (by assumption) (fun t => [(Str.ofString "text", .str (rep1 a4 (Str.ofString "\r") (Str.ofString "&#xD;")) t)]) (fun _ => news) ?_ ?_
  · repeat' (first | (k_unfold; (try dsimp only)) | (k_end; wrow_close) | ((fail_if_success (fail "x")); walk1) | (dsimp only; (fail_if_success (fail "x")); walk1) | (leave1; (try dsimp only)) | fail "no step")
    all_goals first
      | exact OutAt.intro _ (by assumption) (by assumption) (by rw [rep1, if_pos (contains_yes (by assumption))]; kst_all) (by kcj_all)
      | exact OutAt.intro _ (by assumption) (by assumption) (by rw [rep1, if_neg (contains_no (by assumption))]; kst_all) (by kcj_all)
  intro t5 u5 h5 tk5 F5 N5
  have l5 : (rep1 a4 (Str.ofString "\r") (Str.ofString "&#xD;")).length ≤ 933120 := by
    have := rep1_len a4 (Str.ofString "&#xD;") (Str.ofString "\r").cps[0]! (by decide +kernel)
    have e : (⟨#[(Str.ofString "\r").cps[0]!]⟩ : Str) = Str.ofString "\r" := by decide +kernel
    rw [e] at this
    omega
  generalize rep1 a4 (Str.ofString "\r") (Str.ofString "&#xD;") = a5 at *
  (try dsimp only)
  (try k_fold)
  repeat' (first | (k_unfold; (try dsimp only)) | (k_end; wrow_close) | ((fail_if_success (fail "x")); walk1) | (dsimp only; (fail_if_success (fail "x")); walk1) | (leave1; (try dsimp only)) | fail "no step")
  refine cb_retS hret rfl ?_ ?_
  · assumption
  · exact cb_drop (by assumption) (by kcj_in)
end
end Mine
end
/-! part T5 -/
section
open PySem PySem.W PyProof.Rows PySem.Calls PySem.Spec
namespace Mine
set_option maxRecDepth 100000
set_option maxHeartbeats 8000000
local macro_rules | `(tactic| walk_at "execs cons") => `(tactic| refine wpAny_execs_cons ?_)
local macro_rules | `(tactic| walk_at "execs nil") => `(tactic| refine wpAny_execs_nil ?_)
local macro_rules | `(tactic| walk_at "call builtin:max") => `(tactic| ((with_reducible show wpAny _ _ (call (Value.builtin _) [Value.float _ _, Value.float _ _, Value.float _ _]) _ _ _); (rename News _ _ _ _ => N'); (rename Fr _ _ _ _ => F'); refine max3_f rfl F' N' ?_; clear N'; intro r9 t9 h9 tk9 e9 z9 F9 N9; (try k_sweep)))
local macro_rules | `(tactic| walk_at "call builtin:min") => `(tactic| ((with_reducible show wpAny _ _ (call (Value.builtin _) [Value.float _ _, Value.float _ _, Value.float _ _]) _ _ _); (rename News _ _ _ _ => N'); (rename Fr _ _ _ _ => F'); refine min3_f rfl F' N' ?_; clear N'; intro r9 t9 h9 tk9 e9 z9 F9 N9; (try k_sweep)))
theorem r2h_ok (w : World) (r g b : UInt64) (tr tg tb : Tok) (n1 : tr ≠ 0) (n2 : tg ≠ 0) (n3 : tb ≠ 0) (news : List (Addr × Obj)) (h1 : (Float64.cmp (mn3 r g b) (mx3 r g b) == some .eq) = false) (h2 : Float64.isZero (mx3 r g b) = false) (h3 : Float64.isZero (Float64.sub (mx3 r g b) (mn3 r g b)) = false) :
    Claim 4 w 42 news [.float r tr, .float g tg, .float b tb] (RetT3z news (hue r g b (mx3 r g b) (mn3 r g b)) (Float64.div (Float64.sub (mx3 r g b) (mn3 r g b)) (mx3 r g b)) (mx3 r g b)) := by
  unfold mx3 mn3 at *
  dsimp only [Claim, RetT3z]
  k_fill
  intros
  rename_i hret
  refine wpAny_call ?_
  k_dflt cell_enter
  rename Fr _ _ _ _ => F0
  obtain ⟨u0, F1⟩ := fr_hide [(Str.ofString "r", .float r tr), (Str.ofString "g", .float g tg), (Str.ofString "b", .float b tb)] F0 (by kst_all)
  clear F0
  repeat' (first | (k_unfold; (try dsimp only)) | (k_end; wrow_close) | ((fail_if_success ((with_reducible show wpAny _ _ (exec (Stmt.If _ _ _ _) _) _ _ _))); walk1) | (dsimp only; (fail_if_success ((with_reducible show wpAny _ _ (exec (Stmt.If _ _ _ _) _) _ _ _))); walk1) | (leave1; (try dsimp only)) | fail "no step")
  subst_vars
  repeat' (first | (k_unfold; (try dsimp only)) | (k_end; wrow_close) | ((fail_if_success ((with_reducible show wpAny _ _ (exec (Stmt.If _ (Stmt.Assign _ _ _ :: _) _ _) _) _ _ _))); walk1) | (dsimp only; (fail_if_success ((with_reducible show wpAny _ _ (exec (Stmt.If _ (Stmt.Assign _ _ _ :: _) _ _) _) _ _ _))); walk1) | (leave1; (try dsimp only)) | fail "no step")
  iterate 8 (try (exfalso; simp_all; done))
  refine exec_at (σ := { t : Tok // t ≠ 0 } × { t : Tok // t ≠ 0 } × { t : Tok // t ≠ 0 }) (by assumption) (fun t => [(Str.ofString "v", .float (fmx (fmx r g) b) t.1.1), (Str.ofString "s", .float (Float64.div (Float64.sub (fmx (fmx r g) b) (fmn (fmn r g) b)) (fmx (fmx r g) b)) t.2.1.1), (Str.ofString "h", .float (hueN r g b (fmx (fmx r g) b) (fmn (fmn r g) b)) t.2.2.1)]) (fun _ => news) ?_ ?_
  · repeat' (first | (k_unfold; (try dsimp only)) | (k_end; wrow_close) | ((fail_if_success (fail "x")); walk1) | (dsimp only; (fail_if_success (fail "x")); walk1) | (leave1; (try dsimp only)) | fail "no step")
    all_goals first
      | (refine' OutAt.intro (c := ⟨⟨_, ?zz0⟩, ⟨_, ?zz1⟩, ⟨_, ?zz2⟩⟩) ?yf ?yn ?yp ?yq; (case yf => assumption); (case yn => assumption); (case yp => (rw [hueN_r (by assumption)]; kst_all)); (case yq => kcj_all); (case zz0 => (first | assumption | exact Nat.succ_ne_zero _ | omega | (simp_all; done))); (case zz1 => (first | assumption | exact Nat.succ_ne_zero _ | omega | (simp_all; done))); (case zz2 => (first | assumption | exact Nat.succ_ne_zero _ | omega | (simp_all; done))))
      | (refine' OutAt.intro (c := ⟨⟨_, ?zz0⟩, ⟨_, ?zz1⟩, ⟨_, ?zz2⟩⟩) ?yf ?yn ?yp ?yq; (case yf => assumption); (case yn => assumption); (case yp => (rw [hueN_g (by assumption) (by assumption)]; kst_all)); (case yq => kcj_all); (case zz0 => (first | assumption | exact Nat.succ_ne_zero _ | omega | (simp_all; done))); (case zz1 => (first | assumption | exact Nat.succ_ne_zero _ | omega | (simp_all; done))); (case zz2 => (first | assumption | exact Nat.succ_ne_zero _ | omega | (simp_all; done))))
      | (refine' OutAt.intro (c := ⟨⟨_, ?zz0⟩, ⟨_, ?zz1⟩, ⟨_, ?zz2⟩⟩) ?yf ?yn ?yp ?yq; (case yf => assumption); (case yn => assumption); (case yp => (rw [hueN_b (by assumption) (by assumption)]; kst_all)); (case yq => kcj_all); (case zz0 => (first | assumption | exact Nat.succ_ne_zero _ | omega | (simp_all; done))); (case zz1 => (first | assumption | exact Nat.succ_ne_zero _ | omega | (simp_all; done))); (case zz2 => (first | assumption | exact Nat.succ_ne_zero _ | omega | (simp_all; done))))
      | (exfalso; simp_all; done)
  rintro ⟨⟨t5, z5⟩, ⟨t6, z6⟩, ⟨t7, z7⟩⟩ u2 hh2 tk2 F3 N3
  (try dsimp only)
  (try dsimp only at F3)
  (try k_fold)
  rw [hueN_eq] at hret
  generalize hueN r g b (fmx (fmx r g) b) (fmn (fmn r g) b) = hv at *
  repeat' (first | (k_unfold; (try dsimp only)) | (k_end; wrow_close) | ((fail_if_success (fail "x")); walk1) | (dsimp only; (fail_if_success (fail "x")); walk1) | (leave1; (try dsimp only)) | fail "no step")
  refine' hret _ _ _ _ _ _ _ ?xf ?xn ?xl ?xa ?xb ?xc; (case xf => assumption); (case xn => assumption); (case xl => assumption); (case xa => (first | assumption | exact Nat.succ_ne_zero _ | omega | (simp_all; done))); (case xb => (first | assumption | exact Nat.succ_ne_zero _ | omega | (simp_all; done))); (case xc => (first | assumption | exact Nat.succ_ne_zero _ | omega | (simp_all; done)))
end Mine
end
/-! part T6 -/
section
open PySem PySem.W PyProof.Rows PySem.Calls PySem.Spec
namespace Mine
set_option maxRecDepth 100000
set_option maxHeartbeats 8000000
local macro_rules | `(tactic| walk_at "execs cons") => `(tactic| refine wpAny_execs_cons ?_)
local macro_rules | `(tactic| walk_at "execs nil") => `(tactic| refine wpAny_execs_nil ?_)
local macro_rules | `(tactic| walk_at "call builtin:max") => `(tactic| ((with_reducible show wpAny _ _ (call (Value.builtin _) [Value.float _ _, Value.float _ _, Value.float _ _]) _ _ _); (rename News _ _ _ _ => N'); (rename Fr _ _ _ _ => F'); refine max3_f rfl F' N' ?_; clear N'; intro r9 t9 h9 tk9 e9 z9 F9 N9; (try k_sweep)))
local macro_rules | `(tactic| walk_at "call builtin:min") => `(tactic| ((with_reducible show wpAny _ _ (call (Value.builtin _) [Value.float _ _, Value.float _ _, Value.float _ _]) _ _ _); (rename News _ _ _ _ => N'); (rename Fr _ _ _ _ => F'); refine min3_f rfl F' N' ?_; clear N'; intro r9 t9 h9 tk9 e9 z9 F9 N9; (try k_sweep)))
theorem r2l_ok (w : World) (r g b : UInt64) (tr tg tb : Tok) (news : List (Addr × Obj)) (h1 : (Float64.cmp (mn3 r g b) (mx3 r g b) == some .eq) = false) (h2 : Float64.isZero (Float64.add (mx3 r g b) (mn3 r g b)) = false) (h3 : Float64.isZero (Float64.sub (mx3 r g b) (mn3 r g b)) = false) (h4 : Float64.isZero (Float64.sub (Float64.sub 4611686018427387904 (mx3 r g b)) (mn3 r g b)) = false) :
    Claim 4 w 35 news [.float r tr, .float g tg, .float b tb] (RetT3z news (hue r g b (mx3 r g b) (mn3 r g b)) (Float64.div (Float64.add (mx3 r g b) (mn3 r g b)) 4611686018427387904) (sat (mx3 r g b) (mn3 r g b))) := by
  unfold mx3 mn3 at *
  dsimp only [Claim, RetT3z]
  k_fill
  intros
  rename_i hret
  refine wpAny_call ?_
  k_dflt cell_enter
  rename Fr _ _ _ _ => F0
  obtain ⟨u0, F1⟩ := fr_hide [(Str.ofString "r", .float r tr), (Str.ofString "g", .float g tg), (Str.ofString "b", .float b tb)] F0 (by kst_all)
  clear F0
  repeat' (first | (k_unfold; (try dsimp only)) | (k_end; wrow_close) | ((fail_if_success ((with_reducible show wpAny _ _ (exec (Stmt.If _ _ _ _) _) _ _ _))); walk1) | (dsimp only; (fail_if_success ((with_reducible show wpAny _ _ (exec (Stmt.If _ _ _ _) _) _ _ _))); walk1) | (leave1; (try dsimp only)) | fail "no step")
  subst_vars
  repeat' (first | (k_unfold; (try dsimp only)) | (k_end; wrow_close) | ((fail_if_success ((with_reducible show wpAny _ _ (exec (Stmt.If _ (Stmt.Assign _ _ _ :: _) _ _) _) _ _ _))); walk1) | (dsimp only; (fail_if_success ((with_reducible show wpAny _ _ (exec (Stmt.If _ (Stmt.Assign _ _ _ :: _) _ _) _) _ _ _))); walk1) | (leave1; (try dsimp only)) | fail "no step")
  iterate 8 (try (exfalso; simp_all; done))
  refine exec_at (σ := Tok × Tok × { t : Tok // t ≠ 0 } × { t : Tok // t ≠ 0 }) (by assumption) (fun t => [(Str.ofString "r", .float r tr), (Str.ofString "g", .float g tg), (Str.ofString "b", .float b tb), (Str.ofString "maxc", .float (fmx (fmx r g) b) t.1), (Str.ofString "rangec", .float (Float64.sub (fmx (fmx r g) b) (fmn (fmn r g) b)) t.2.1), (Str.ofString "l", .float (Float64.div (Float64.add (fmx (fmx r g) b) (fmn (fmn r g) b)) 4611686018427387904) t.2.2.1.1), (Str.ofString "s", .float (sat (fmx (fmx r g) b) (fmn (fmn r g) b)) t.2.2.2.1)]) (fun _ => news) ?_ ?_
  · repeat' (first | (k_unfold; (try dsimp only)) | (k_end; wrow_close) | ((fail_if_success (fail "x")); walk1) | (dsimp only; (fail_if_success (fail "x")); walk1) | (leave1; (try dsimp only)) | fail "no step")
    all_goals first
      | (refine' OutAt.intro (c := ⟨_, _, ⟨_, ?zz0⟩, ⟨_, ?zz1⟩⟩) ?yf ?yn ?yp ?yq; (case yf => assumption); (case yn => assumption); (case yp => (rw [sat_lo (by assumption)]; kst_all)); (case yq => kcj_all); (case zz0 => (first | assumption | exact Nat.succ_ne_zero _ | omega | (simp_all; done))); (case zz1 => (first | assumption | exact Nat.succ_ne_zero _ | omega | (simp_all; done))))
      | (refine' OutAt.intro (c := ⟨_, _, ⟨_, ?zz0⟩, ⟨_, ?zz1⟩⟩) ?yf ?yn ?yp ?yq; (case yf => assumption); (case yn => assumption); (case yp => (rw [sat_hi (by assumption)]; kst_all)); (case yq => kcj_all); (case zz0 => (first | assumption | exact Nat.succ_ne_zero _ | omega | (simp_all; done))); (case zz1 => (first | assumption | exact Nat.succ_ne_zero _ | omega | (simp_all; done))))
      | (exfalso; simp_all; done)
  rintro ⟨t1, t2, ⟨t3, z3⟩, ⟨t4, z4⟩⟩ u1 hh1 tk1 F2 N2
  (try dsimp only)
  (try dsimp only at F2)
  (try k_fold)
  repeat' (first | (k_unfold; (try dsimp only)) | (k_end; wrow_close) | ((fail_if_success ((with_reducible show wpAny _ _ (exec (Stmt.If _ (Stmt.Assign _ _ _ :: _) _ _) _) _ _ _))); walk1) | (dsimp only; (fail_if_success ((with_reducible show wpAny _ _ (exec (Stmt.If _ (Stmt.Assign _ _ _ :: _) _ _) _) _ _ _))); walk1) | (leave1; (try dsimp only)) | fail "no step")
  refine exec_at (σ := { t : Tok // t ≠ 0 } × { t : Tok // t ≠ 0 } × { t : Tok // t ≠ 0 }) (by assumption) (fun t => [(Str.ofString "l", .float (Float64.div (Float64.add (fmx (fmx r g) b) (fmn (fmn r g) b)) 4611686018427387904) t.1.1), (Str.ofString "s", .float (sat (fmx (fmx r g) b) (fmn (fmn r g) b)) t.2.1.1), (Str.ofString "h", .float (hueN r g b (fmx (fmx r g) b) (fmn (fmn r g) b)) t.2.2.1)]) (fun _ => news) ?_ ?_
  · repeat' (first | (k_unfold; (try dsimp only)) | (k_end; wrow_close) | ((fail_if_success (fail "x")); walk1) | (dsimp only; (fail_if_success (fail "x")); walk1) | (leave1; (try dsimp only)) | fail "no step")
    all_goals first
      | (refine' OutAt.intro (c := ⟨⟨_, ?zz0⟩, ⟨_, ?zz1⟩, ⟨_, ?zz2⟩⟩) ?yf ?yn ?yp ?yq; (case yf => assumption); (case yn => assumption); (case yp => (rw [hueN_r (by assumption)]; kst_all)); (case yq => kcj_all); (case zz0 => (first | assumption | exact Nat.succ_ne_zero _ | omega | (simp_all; done))); (case zz1 => (first | assumption | exact Nat.succ_ne_zero _ | omega | (simp_all; done))); (case zz2 => (first | assumption | exact Nat.succ_ne_zero _ | omega | (simp_all; done))))
      | (refine' OutAt.intro (c := ⟨⟨_, ?zz0⟩, ⟨_, ?zz1⟩, ⟨_, ?zz2⟩⟩) ?yf ?yn ?yp ?yq; (case yf => assumption); (case yn => assumption); (case yp => (rw [hueN_g (by assumption) (by assumption)]; kst_all)); (case yq => kcj_all); (case zz0 => (first | assumption | exact Nat.succ_ne_zero _ | omega | (simp_all; done))); (case zz1 => (first | assumption | exact Nat.succ_ne_zero _ | omega | (simp_all; done))); (case zz2 => (first | assumption | exact Nat.succ_ne_zero _ | omega | (simp_all; done))))
      | (refine' OutAt.intro (c := ⟨⟨_, ?zz0⟩, ⟨_, ?zz1⟩, ⟨_, ?zz2⟩⟩) ?yf ?yn ?yp ?yq; (case yf => assumption); (case yn => assumption); (case yp => (rw [hueN_b (by assumption) (by assumption)]; kst_all)); (case yq => kcj_all); (case zz0 => (first | assumption | exact Nat.succ_ne_zero _ | omega | (simp_all; done))); (case zz1 => (first | assumption | exact Nat.succ_ne_zero _ | omega | (simp_all; done))); (case zz2 => (first | assumption | exact Nat.succ_ne_zero _ | omega | (simp_all; done))))
      | (exfalso; simp_all; done)
  rintro ⟨⟨t5, z5⟩, ⟨t6, z6⟩, ⟨t7, z7⟩⟩ u2 hh2 tk2 F3 N3
  (try dsimp only)
  (try dsimp only at F3)
  (try k_fold)
  rw [hueN_eq] at hret
  generalize hueN r g b (fmx (fmx r g) b) (fmn (fmn r g) b) = hv at *
  repeat' (first | (k_unfold; (try dsimp only)) | (k_end; wrow_close) | ((fail_if_success (fail "x")); walk1) | (dsimp only; (fail_if_success (fail "x")); walk1) | (leave1; (try dsimp only)) | fail "no step")
  refine' hret _ _ _ _ _ _ _ ?xf ?xn ?xl ?xa ?xb ?xc; (case xf => assumption); (case xn => assumption); (case xl => assumption); (case xa => (first | assumption | exact Nat.succ_ne_zero _ | omega | (simp_all; done))); (case xb => (first | assumption | exact Nat.succ_ne_zero _ | omega | (simp_all; done))); (case xc => (first | assumption | exact Nat.succ_ne_zero _ | omega | (simp_all; done)))
end Mine
end
/-! part T7 -/
section
open PySem PySem.W PyProof.Rows PySem.Calls PySem.Spec
namespace Mine
set_option maxRecDepth 100000
set_option maxHeartbeats 8000000
def chars8 : Str := Str.ofString "&<>\"\t\n\ra"
def names8 : List Str := [Str.ofString "&amp;", Str.ofString "&lt;", Str.ofString ">", Str.ofString "&quot;", Str.ofString "&#x9;", Str.ofString "&#xA;", Str.ofString "&#xD;", Str.ofString "a"]
def row14 : List Int := [0, 0, 1, 1, 2, 2, 3, 3, 4, 4, 5, 5, 6, 6]
def rowL (xs : List Int) : List Int := row14 ++ (List.range 6).map fun (i : Nat) => (xs.getD i 0).fmod 8
theorem rowL_len (xs : List Int) : (rowL xs).length = 20 := by simp [rowL, row14]
theorem rowL_mem (xs : List Int) : ∀ x ∈ rowL xs, 0 ≤ x ∧ x < 8 := by
  intro x hx
  rcases List.mem_append.mp hx with h | h
  · have : ∀ x ∈ row14, 0 ≤ x ∧ x < 8 := by decide +kernel
    exact this x h
  · obtain ⟨i, _, rfl⟩ := List.mem_map.mp h
    rw [Int.fmod_eq_emod_of_nonneg _ (by decide)]; omega
theorem rowL_at (xs : List Int) (i : Nat) (hi : i < 20) : 0 ≤ (rowL xs).getD i 0 ∧ (rowL xs).getD i 0 < 8 := by
  have hl := rowL_len xs
  rw [List.getD_eq_getElem?_getD, List.getElem?_eq_getElem (by omega)]
  exact rowL_mem xs _ (List.getElem_mem _)
def pageS (xs : List Int) : Str := Txt.join (Str.ofString "") ((List.range 20).map fun (i : Nat) => Txt.item chars8 ((rowL xs).getD i 0))
def namesS (xs : List Int) : Str := Txt.join (Str.ofString "") ((List.range 20).map fun (i : Nat) => names8.getD ((rowL xs).getD i 0).toNat Str.empty)
abbrev RetL2 (news : List (Addr × Obj)) (x y : Str) (h₀ : Heap) (L : Addr) (m : Str → Option Value) (s : Shared) (Q : Value → Shared → Prop) : Prop :=
  ∀ (D : Addr) (t1 t2 : Tok) (c : Nat) (h' : Heap) (tk' : Nat), Fr h₀ L h' m → News h₀ L h' ((D, listOf [.str x t1, .str y t2].toArray c) :: news) → (∀ p ∈ news, p.1 < D) → Q (.ref D) { s with heap := h', toks := tk' }
theorem sum_le {l : List Nat} {n : Nat} (h : ∀ x ∈ l, x ≤ n) : l.sum ≤ n * l.length := by
  induction l with
  | nil => simp
  | cons a l ih =>
    have h1 := h a List.mem_cons_self
    have h2 := ih fun x hx => h x (List.mem_cons_of_mem _ hx)
    rw [List.sum_cons, List.length_cons, Nat.mul_add]; omega
theorem page_ok (w : World) (aN aS : Addr) (cN cS : Nat) (vs ws : List Value) (xs : List Int) (hv : IntsAre vs xs) (hl : xs.length = 6) (hw : StrsAre ws names8) (news : List (Addr × Obj)) :
    Claim 4 w 80 ((aN, listOf vs.toArray cN) :: (aS, listOf ws.toArray cS) :: news) [.ref aN, .ref aS] (RetL2 news (pageS xs) (namesS xs)) := by
  dsimp only [Claim, RetL2]
  k_fill
  intros
  rename_i hret
  refine wpAny_call ?_
  (k_dflt (refine' code_defC ?k1 ?k2 ?k3 ?k4 ?k5 ?kA ?kF ?kK ?k6 ?k7 ?k8 ?k9 ?kB ?kD ?_ ?c2 ?c3 ?c4; (case kA => exact rfl); (case kF => exact rfl); (case kK => assumption); (case k1 => k_asm); (case k2 => k_asm); (case k3 => k_asm); (case k4 => k_asm); (case k5 => k_asm); (case k6 => k_is); (case k7 => k_is); (case k8 => ktr_room); (case k9 => exact BindsTo.of_eq rfl); (case kB => exact rfl); (case kD => decide +kernel); (case c2 => exact rfl); (case c3 => exact rfl); (case c4 => exact rfl); k_whole; intro g' L' h' tk' cells' FG' F' N' Y' B' X' T' l1; (try k_lt l1); k_cells Y'; (try simp only [List.cons_append, List.nil_append] at N'); (try dsimp only); (try k_lift B'); (try k_fold)))
  rename Fr _ _ _ _ => F0
  obtain ⟨u0, F1⟩ := fr_hide [(Str.ofString "numbers", .ref aN)] F0 (by kst_all)
  clear F0
  rename Obj => oc
  repeat' (first | (k_unfold; (try dsimp only)) | (k_end; wrow_close) | ((fail_if_success ((with_reducible show wpAny _ _ (eval (Expr.ListComp _ _ _ _) _) _ _ _))); walk1) | (dsimp only; (fail_if_success ((with_reducible show wpAny _ _ (eval (Expr.ListComp _ _ _ _) _) _ _ _))); walk1) | (leave1; (try dsimp only)) | fail "no step")
  have hvl := hv.length
  -- [x % 8 for x in numbers]
  k_dflt (refine LCg.ListComp_U (F₀ := by k_asm) (by with_unfolding_all rfl) (by decide) (by rfl) (by decide) (by rfl) ?_)
  first | walk1 | (dsimp only; walk1)
  refine LCg.CompSrc.ledger (its := vs.toArray) (k := cN) rfl (by assumption) (by assumption) (by k_mem) (by rw [sizeLine_eq]; simp; omega) ?_
  intro g'
  simp only [List.size_toArray, show vs.length = 6 by omega]
  refine comp_map (fun i y => ∃ t, y = .int ((xs.getD i 0).fmod 8) t) 6 (Or.inr ⟨_, by k_mem, rfl, _, rfl⟩) ?_ ?_
  · intro i ys v I oI C oC D m₂ h tk E' hi hv' hC hx F N
    obtain ⟨X, t, hX, e⟩ : ∃ X t, xs.getD i 0 = X ∧ vs[i]? = some (.int X t) := by
      obtain ⟨t, e⟩ := ints_at hv (j := i) (by omega)
      exact ⟨_, t, rfl, e⟩
    have : v = .int X t := by
      have hv'' : vs[i]? = some v := by simpa using hv'
      rw [e] at hv''; exact (Option.some.inj hv'').symm
    subst this
    clear e hv'
    repeat' (first | (k_unfold; (try dsimp only)) | (k_end; wrow_close) | ((fail_if_success (fail "x")); walk1) | (dsimp only; (fail_if_success (fail "x")); walk1) | (leave1; (try dsimp only)) | fail "no step")
    exact CompOut.intro (by assumption) (by assumption) (fun _ h => h) ⟨_, by subst hX; exact rfl⟩
  intro zs hz
  intro D hh tk F N o1
  (try dsimp only)
  have hzI := hz.ints
  clear o1 hz
  refine kmk_add_ints (ns := row14) F N (news_list N (vs := [_, _, _, _, _, _, _, _, _, _, _, _, _, _]) (by k_mem)) (news_lst N (by k_mem)) (by unfold row14; repeat constructor) hzI ?_ (by rw [sizeLine_eq]; simp [row14])
  intro D2 us h2 F2 N2 l2 hI2
  have hI3 : IntsAre us (rowL xs) := hI2
  clear hI2
  have hul : us.length = 20 := by rw [hI3.length, rowL_len]
  have N3 := cb_drop (news := (D2, listOf us.toArray 0) :: (L' + 1, oc) :: (aN, listOf vs.toArray cN) :: (aS, listOf ws.toArray cS) :: news) N2 (by kcj_in)
  clear N2 N F hzI l2
  (try dsimp only)
  repeat' (first | (k_unfold; (try dsimp only)) | (k_end; wrow_close) | ((fail_if_success ((with_reducible show wpAny _ _ (eval (Expr.ListComp _ _ _ _) _) _ _ _))); walk1) | (dsimp only; (fail_if_success ((with_reducible show wpAny _ _ (eval (Expr.ListComp _ _ _ _) _) _ _ _))); walk1) | (leave1; (try dsimp only)) | fail "no step")
  -- the signs
  k_dflt (refine LCg.ListComp_U (F₀ := by k_asm) (by with_unfolding_all rfl) (by decide) (by rfl) (by decide) (by rfl) ?_)
  first | walk1 | (dsimp only; walk1)
  refine LCg.CompSrc.ledger (its := us.toArray) (k := 0) rfl (by assumption) (by assumption) (by k_mem) (by rw [sizeLine_eq]; simp; omega) ?_
  intro g4
  simp only [List.size_toArray, hul]
  refine comp_map (fun i y => ∃ t, y = .str (Txt.item chars8 ((rowL xs).getD i 0)) t) 20 (Or.inr ⟨_, by k_mem, rfl, _, rfl⟩) ?_ ?_
  · intro i ys v I oI C oC D m₂ h tk E' hi hv' hC hx F N
    obtain ⟨X, t, hX, e, hb⟩ : ∃ X t, (rowL xs).getD i 0 = X ∧ us[i]? = some (.int X t) ∧ (0 ≤ X ∧ X < 8) := by
      obtain ⟨t, e⟩ := ints_at hI3 (j := i) (by rw [rowL_len]; omega)
      exact ⟨_, t, rfl, e, rowL_at xs i hi⟩
    have : v = .int X t := by
      have hv'' : us[i]? = some v := by simpa using hv'
      rw [e] at hv''; exact (Option.some.inj hv'').symm
    subst this
    clear e hv'
    repeat' (first | (k_unfold; (try dsimp only)) | (k_end; wrow_close) | ((fail_if_success (fail "x")); walk1) | (dsimp only; (fail_if_success (fail "x")); walk1) | (leave1; (try dsimp only)) | fail "no step")
    exact CompOut.intro (by assumption) (by assumption) (fun _ h => h) ⟨_, by subst hX; exact rfl⟩
  intro zs hz
  intro D4 h4 tk4 F4 N4 o4
  have hzS := hz.strs
  clear hz o4
  (try dsimp only)
  repeat' (first | (k_unfold; (try dsimp only)) | (k_end; wrow_close) | ((fail_if_success ((with_reducible show wpAny _ _ (call (Value.builtin "str.join") _ _) _ _ _))); walk1) | (dsimp only; (fail_if_success ((with_reducible show wpAny _ _ (call (Value.builtin "str.join") _ _) _ _ _))); walk1) | (leave1; (try dsimp only)) | fail "no step")
  refine join_listW (ys := (List.range 20).map fun (i : Nat) => Txt.item chars8 ((rowL xs).getD i 0)) (items := zs.toArray) (news_lst N4 (by k_mem)) hzS (by decide +kernel) ?_ ?_
  · have := sum_le (l := ((List.range 20).map fun (i : Nat) => Txt.item chars8 ((rowL xs).getD i 0)).map (·.length)) (n := 1) (by intro x hx; obtain ⟨y, hy, rfl⟩ := List.mem_map.mp hx; obtain ⟨i, _, rfl⟩ := List.mem_map.mp hy; exact Nat.le_refl 1)
    simp only [List.length_map, List.length_range] at this ⊢
    omega
  intro t5 k5
  have eP : Txt.join (Str.ofString "") ((List.range 20).map fun (i : Nat) => Txt.item chars8 ((rowL xs).getD i 0)) = pageS xs := rfl
  rw [eP]
  have N5 := cb_drop (news := (D2, listOf us.toArray 0) :: (L' + 1, oc) :: (aN, listOf vs.toArray cN) :: (aS, listOf ws.toArray cS) :: news) N4 (by kcj_in)
  clear N4 hzS eP
  (try dsimp only)
  repeat' (first | (k_unfold; (try dsimp only)) | (k_end; wrow_close) | ((fail_if_success ((with_reducible show wpAny _ _ (eval (Expr.ListComp _ _ _ _) _) _ _ _))); walk1) | (dsimp only; (fail_if_success ((with_reducible show wpAny _ _ (eval (Expr.ListComp _ _ _ _) _) _ _ _))); walk1) | (leave1; (try dsimp only)) | fail "no step")
  -- the names
  k_dflt (refine LCg.ListComp_U (F₀ := by k_asm) (by with_unfolding_all rfl) (by decide) (by rfl) (by decide) (by rfl) ?_)
  first | walk1 | (dsimp only; walk1)
  refine LCg.CompSrc.ledger (its := us.toArray) (k := 0) rfl (by assumption) (by assumption) (by k_mem) (by rw [sizeLine_eq]; simp; omega) ?_
  intro g6
  simp only [List.size_toArray, hul]
  refine comp_map (fun i y => ∃ t, y = .str (names8.getD ((rowL xs).getD i 0).toNat Str.empty) t) 20 (Or.inr ⟨_, by k_mem, rfl, _, rfl⟩) ?_ ?_
  · intro i ys v I oI C oC D m₂ h tk E' hi hv' hC hx F N
    obtain ⟨X, t, hX, e, hb⟩ : ∃ X t, (rowL xs).getD i 0 = X ∧ us[i]? = some (.int X t) ∧ (0 ≤ X ∧ X < 8) := by
      obtain ⟨t, e⟩ := ints_at hI3 (j := i) (by rw [rowL_len]; omega)
      exact ⟨_, t, rfl, e, rowL_at xs i hi⟩
    have : v = .int X t := by
      have hv'' : us[i]? = some v := by simpa using hv'
      rw [e] at hv''; exact (Option.some.inj hv'').symm
    subst this
    clear e hv'
    repeat' (first | (k_unfold; (try dsimp only)) | (k_end; wrow_close) | ((fail_if_success ((with_reducible show wpAny _ _ (subscriptTail _ _ _ _) _ _ _))); walk1) | (dsimp only; (fail_if_success ((with_reducible show wpAny _ _ (subscriptTail _ _ _ _) _ _ _))); walk1) | (leave1; (try dsimp only)) | fail "no step")
    refine item_str (ss := names8) (news_list N (by k_mem)) hw hb.1 (by simp [names8]; omega) (by omega) ?_
    intro t8
    (try dsimp only)
    repeat' (first | (k_unfold; (try dsimp only)) | (k_end; wrow_close) | ((fail_if_success (fail "x")); walk1) | (dsimp only; (fail_if_success (fail "x")); walk1) | (leave1; (try dsimp only)) | fail "no step")
    exact CompOut.intro (by assumption) (by assumption) (fun _ h => h) ⟨_, by subst hX; exact rfl⟩
  intro zs2 hz2
  intro D6 h6 tk6 F6 N6 o6
  have hzS2 := hz2.strs
  clear hz2 o6
  (try dsimp only)
  repeat' (first | (k_unfold; (try dsimp only)) | (k_end; wrow_close) | ((fail_if_success ((with_reducible show wpAny _ _ (call (Value.builtin "str.join") _ _) _ _ _))); walk1) | (dsimp only; (fail_if_success ((with_reducible show wpAny _ _ (call (Value.builtin "str.join") _ _) _ _ _))); walk1) | (leave1; (try dsimp only)) | fail "no step")
  refine join_listW (ys := (List.range 20).map fun (i : Nat) => names8.getD ((rowL xs).getD i 0).toNat Str.empty) (items := zs2.toArray) (news_lst N6 (by k_mem)) hzS2 (by decide +kernel) ?_ ?_
  · have hn : ∀ y ∈ names8, y.length ≤ 6 := by decide +kernel
    have := sum_le (l := ((List.range 20).map fun (i : Nat) => names8.getD ((rowL xs).getD i 0).toNat Str.empty).map (·.length)) (n := 6) (by
      intro x hx; obtain ⟨y, hy, rfl⟩ := List.mem_map.mp hx; obtain ⟨i, hi, rfl⟩ := List.mem_map.mp hy
      have hb := rowL_at xs i (by simpa using hi)
      refine hn _ ?_
      rw [List.getD_eq_getElem?_getD, List.getElem?_eq_getElem (by have h8 : names8.length = 8 := rfl; omega)]
      exact List.getElem_mem _)
    simp only [List.length_map, List.length_range] at this ⊢
    omega
  intro t7 k7
  have eN : Txt.join (Str.ofString "") ((List.range 20).map fun (i : Nat) => names8.getD ((rowL xs).getD i 0).toNat Str.empty) = namesS xs := rfl
  rw [eN]
  have N7 := cb_drop (news := news) N6 (by kcj_in)
  clear N6 hzS2 eN
  (try dsimp only)
  repeat' (first | (k_unfold; (try dsimp only)) | (k_end; wrow_close) | ((fail_if_success (fail "x")); walk1) | (dsimp only; (fail_if_success (fail "x")); walk1) | (leave1; (try dsimp only)) | fail "no step")
  refine' hret _ _ _ _ _ _ ?zf ?zn ?zl; (case zf => assumption); (case zn => assumption); (case zl => assumption)
end Mine
end
/-! part T8 -/
section
open PySem PySem.W PyProof.Rows PySem.Calls PySem.Spec
namespace Mine
set_option maxRecDepth 100000
set_option maxHeartbeats 8000000
def nearM : List (List Int) := [[0, 1, 2, 3, 2, 1], [1, 0, 1, 2, 3, 2], [2, 1, 0, 1, 2, 3], [3, 2, 1, 0, 1, 2], [2, 3, 2, 1, 0, 1], [1, 2, 3, 2, 1, 0]]
def nr (i k : Int) : Int := (nearM.getD i.toNat []).getD k.toNat 0
def aroundP (S : Int) (i : Nat) : Bool := decide (¬ (0 + (i : Int)) = S) && decide (¬ nr S (0 + (i : Int)) = 3)
def aroundL (S : Int) : List Int := ((List.range 6).filter (aroundP S)).map fun (i : Nat) => 0 + (i : Int)
def acrossP (S : Int) (i : Nat) : Bool := decide (nr ((aroundL S).getD 0 0) ((aroundL S).getD i 0) = 3)
def acrossL (S : Int) : List Int := ((List.range 4).filter (acrossP S)).map fun (i : Nat) => (aroundL S).getD i 0
def sidesP (S : Int) (i : Nat) : Bool := !((acrossL S).any (· == (aroundL S).getD (i + 1) 0))
def sidesL (S : Int) : List Int := ((List.range 3).filter (sidesP S)).map fun (i : Nat) => (aroundL S).getD (i + 1) 0
def ringL (S : Int) : List Int := [(aroundL S).getD 0 0, (sidesL S).getD 0 0, (acrossL S).getD 0 0, (sidesL S).getD 1 0]
def aboveB (S : Int) (rs : List Int) (i : Nat) : Bool := decide (rs.getD ((ringL S).getD i 0).toNat 0 < rs.getD S.toNat 0)
def turnsP (S : Int) (rs : List Int) (i : Nat) : Bool := aboveB S rs i != aboveB S rs ((i + 3) % 4)
def countF (S : Int) (rs : List Int) : Int := 1 - Int.fdiv (((List.range 4).filter (turnsP S rs)).length : Int) 2
theorem geo (S : Int) (h0 : 0 ≤ S) (h1 : S < 6) : (aroundL S).length = 4 ∧ (∀ x ∈ aroundL S, 0 ≤ x ∧ x < 6) ∧ (acrossL S).length = 1 ∧ (sidesL S).length = 2 ∧ (∀ x ∈ ringL S, 0 ≤ x ∧ x < 6) := by
  have : S = 0 ∨ S = 1 ∨ S = 2 ∨ S = 3 ∨ S = 4 ∨ S = 5 := six_int h0 h1
  rcases this with rfl | rfl | rfl | rfl | rfl | rfl <;> decide +kernel
theorem row6 {j : Nat} (h : j < 6) : (nearM.getD j []).length = 6 := by
  have : j = 0 ∨ j = 1 ∨ j = 2 ∨ j = 3 ∨ j = 4 ∨ j = 5 := six_cases h
  rcases this with rfl | rfl | rfl | rfl | rfl | rfl <;> rfl
theorem all_getD {l : List Int} {P : Int → Prop} (h : ∀ x ∈ l, P x) {i : Nat} (hi : i < l.length) : P (l.getD i 0) := by
  rw [List.getD_eq_getElem?_getD, List.getElem?_eq_getElem hi]
  exact h _ (List.getElem_mem _)
theorem all2_four {b : Nat → Bool} {zs : List Value} (h : All2 (fun i y => y = .bool (b i)) (List.range 4) zs) : zs = [.bool (b 0), .bool (b 1), .bool (b 2), .bool (b 3)] := by
  have h' : All2 (fun i y => y = .bool (b i)) [0, 1, 2, 3] zs := h
  cases h' with | cons h0 r => cases r with | cons h1 r => cases r with | cons h2 r => cases r with | cons h3 r => cases r; subst h0 h1 h2 h3; rfl
theorem all_ne {news : List (Addr × Obj)} {L c : Nat} (l : ∀ p ∈ news, p.1 < L) (h : L ≤ c) : ∀ p ∈ news, p.1 ≠ c := fun p hp => Nat.ne_of_lt (Nat.lt_of_lt_of_le (l p hp) h)
local macro_rules | `(tactic| k_ne) => `(tactic| (refine neN ?_; (try dsimp only); first | assumption | exact Ne.symm (by assumption) | omega))
local macro_rules | `(tactic| k_all) => `(tactic| exact all_ne (by assumption) (by omega))
theorem count_ok (w : World) (aR aN : Addr) (as : Nat → Addr) (cR cN : Nat) (cc : Nat → Nat) (nv rv : List Value) (rvs : Nat → List Value) (S : Int) (ts : Tok) (rs : List Int) (news : List (Addr × Obj))
    (h0 : 0 ≤ S) (h1 : S < 6) (hN : (aN, listOf nv.toArray cN) ∈ news) (hR : (aR, listOf rv.toArray cR) ∈ news) (hrv : IntsAre rv rs) (hrl : rs.length = 6) (hnv : ∀ i, i < 6 → nv[i]? = some (.ref (as i)))
    (hrow : ∀ i, i < 6 → (as i, listOf (rvs i).toArray (cc i)) ∈ news) (hri : ∀ i, i < 6 → IntsAre (rvs i) (nearM.getD i [])) :
    Claim 4 w 68 news [.int S ts, .ref aN, .ref aR] (RetV news (fun t => .int (countF S rs) t)) := by
  dsimp only [Claim, RetV]
  k_fill
  intros
  rename_i hret
  refine wpAny_call ?_
  (k_dflt (refine' code_defC ?k1 ?k2 ?k3 ?k4 ?k5 ?kA ?kF ?kK ?k6 ?k7 ?k8 ?k9 ?kB ?kD ?_ ?c2 ?c3 ?c4; (case kA => exact rfl); (case kF => exact rfl); (case kK => assumption); (case k1 => k_asm); (case k2 => k_asm); (case k3 => k_asm); (case k4 => k_asm); (case k5 => k_asm); (case k6 => k_is); (case k7 => k_is); (case k8 => ktr_room); (case k9 => exact BindsTo.of_eq rfl); (case kB => exact rfl); (case kD => decide +kernel); (case c2 => exact rfl); (case c3 => exact rfl); (case c4 => exact rfl); k_whole; intro g' L' h' tk' cells' FG' F' N' Y' B' X' T' l1; (try dsimp only); (try k_lift B'); (try k_fold)))
  obtain ⟨o1, o2, o3, o4, o5, o6, rfl, d1, d2, d3, d4, d5, d6⟩ := cells6 Y'
  have e1 : o1.data = .cell none := d1
  have e2 : o2.data = .cell none := d2
  have e3 : o3.data = .cell none := d3
  have e4 : o4.data = .cell (some (.ref aR)) := d4
  have e5 : o5.data = .cell (some (.ref aN)) := d5
  have e6 : o6.data = .cell (some (.int S ts)) := d6
  clear d1 d2 d3 d4 d5 d6 Y'
  simp only [List.cons_append, List.nil_append] at N'
  obtain ⟨u0, F1⟩ := fr_hide [] F' (by kst_all)
  clear F'
  obtain ⟨gl, gr, gc, gs, gg⟩ := geo S h0 h1
  repeat' (first | (k_unfold; (try dsimp only)) | (k_end; wrow_close) | ((fail_if_success ((with_reducible show wpAny _ _ (exec (Stmt.Assign _ (Expr.ListComp _ _ _ _) _) _) _ _ _))); walk1) | (dsimp only; (fail_if_success ((with_reducible show wpAny _ _ (exec (Stmt.Assign _ (Expr.ListComp _ _ _ _) _) _) _ _ _))); walk1) | (leave1; (try dsimp only)) | fail "no step")
  -- around
  refine wpAny_Assign_Name ?_
  k_dflt (refine LCt.ListComp_T (F₀ := by k_asm) (by with_unfolding_all rfl) (by decide) (by rfl) (by decide) (by rfl) ?_)
  repeat' (first | (k_unfold; (try dsimp only)) | (k_end; wrow_close) | ((fail_if_success ((with_reducible show LCt.CompSrcT _ _ _ _ _ _ _ _ _ _ _ _ _ _ _))); walk1) | (dsimp only; (fail_if_success ((with_reducible show LCt.CompSrcT _ _ _ _ _ _ _ _ _ _ _ _ _ _ _))); walk1) | (leave1; (try dsimp only)) | fail "no step")
  refine LCt.CompSrcT.range rfl (by assumption) (by assumption) (by assumption) (by decide) (n := 6) (by decide) (by rw [sizeLine_eq]; omega) ?_
  intro g1
  refine comp_keep (aroundP S) 6 trivial (fun _ => rfl) (fun _ => rfl) (by decide) ?_ ?_
  · intro i ys v I oI C oC D m₂ h tk E' hi hv hC hx F N
    obtain ⟨t, rfl⟩ := hv
    repeat' (first | (k_unfold; (try dsimp only)) | (k_end; wrow_close) | ((fail_if_success ((with_reducible show wpAny _ _ (subscriptTail _ _ _ _) _ _ _))); walk1) | (dsimp only; (fail_if_success ((with_reducible show wpAny _ _ (subscriptTail _ _ _ _) _ _ _))); walk1) | (leave1; (try dsimp only)) | fail "no step")
    · refine item_val (news_list N (by kcj_m)) h0 (by omega) (hnv S.toNat (by omega)) ?_
      (try dsimp only)
      repeat' (first | (k_unfold; (try dsimp only)) | (k_end; wrow_close) | ((fail_if_success ((with_reducible show wpAny _ _ (subscriptTail _ _ _ _) _ _ _))); walk1) | (dsimp only; (fail_if_success ((with_reducible show wpAny _ _ (subscriptTail _ _ _ _) _ _ _))); walk1) | (leave1; (try dsimp only)) | fail "no step")
      refine item_int (ns := nearM.getD S.toNat []) (news_list N (vs := rvs S.toNat) (c := cc S.toNat) (by have hm := hrow S.toNat (by omega); kcj_m)) (hri _ (by omega)) (by omega) (by rw [row6 (by omega)]; omega) (by omega) ?_
      intro t2
      (try dsimp only)
      repeat' (first | (k_unfold; (try dsimp only)) | (k_end; wrow_close) | ((fail_if_success (fail "x")); walk1) | (dsimp only; (fail_if_success (fail "x")); walk1) | (leave1; (try dsimp only)) | fail "no step")
      all_goals exact TestOut.intro (by assumption) (by assumption) (fun _ h => h) (by simp_all [aroundP, nr])
    · exact TestOut.intro (by assumption) (by assumption) (fun _ h => h) (by simp_all [aroundP])
  intro zs hz
  have hA : IntsAre zs (aroundL S) := hz.ints
  have hzl : zs.length = 4 := by rw [hA.length, gl]
  clear hz
  intro D1 hh1 tk1 F2 N2 x1
  simp only [LCg.Off1] at x1
  obtain ⟨p1, p2, p3, p4, p5, p6, _⟩ := x1
  have gA0 := all_getD gr (i := 0) (by omega)
  (try dsimp only)
  repeat' (first | (k_unfold; (try dsimp only)) | (k_end; wrow_close) | ((fail_if_success ((with_reducible show wpAny _ _ (exec (Stmt.Assign _ (Expr.ListComp _ _ _ _) _) _) _ _ _))); walk1) | (dsimp only; (fail_if_success ((with_reducible show wpAny _ _ (exec (Stmt.Assign _ (Expr.ListComp _ _ _ _) _) _) _ _ _))); walk1) | (leave1; (try dsimp only)) | fail "no step")
  -- across
  refine wpAny_Assign_Name ?_
  k_dflt (refine LCt.ListComp_T (F₀ := by k_asm) (by with_unfolding_all rfl) (by decide) (by rfl) (by decide) (by rfl) ?_)
  repeat' (first | (k_unfold; (try dsimp only)) | (k_end; wrow_close) | ((fail_if_success ((with_reducible show LCt.CompSrcT _ _ _ _ _ _ _ _ _ _ _ _ _ _ _))); walk1) | (dsimp only; (fail_if_success ((with_reducible show LCt.CompSrcT _ _ _ _ _ _ _ _ _ _ _ _ _ _ _))); walk1) | (leave1; (try dsimp only)) | fail "no step")
  refine LCt.CompSrcT.ledger (its := zs.toArray) (k := zs.length) rfl (by assumption) (by assumption) (by k_mem) (by rw [sizeLine_eq]; simp; omega) ?_
  intro g2
  simp only [List.size_toArray, hzl]
  refine comp_keep (acrossP S) 4 (Or.inr ⟨_, by k_mem, rfl, _, rfl⟩) (fun _ => rfl) (fun _ => rfl) (by decide) ?_ ?_
  · intro i ys v I oI C oC D m₂ h tk E' hi hv hC hx F N
    obtain ⟨t, e⟩ := ints_at hA (j := i) (by omega)
    have gAi := all_getD gr (i := i) (by omega)
    have : v = .int ((aroundL S).getD i 0) t := by
      have hv'' : zs[i]? = some v := by simpa using hv
      rw [e] at hv''; exact (Option.some.inj hv'').symm
    subst this
    clear e hv
    repeat' (first | (k_unfold; (try dsimp only)) | (k_end; wrow_close) | ((fail_if_success ((with_reducible show wpAny _ _ (subscriptTail _ _ _ _) _ _ _))); walk1) | (dsimp only; (fail_if_success ((with_reducible show wpAny _ _ (subscriptTail _ _ _ _) _ _ _))); walk1) | (leave1; (try dsimp only)) | fail "no step")
    refine item_int (ns := aroundL S) (news_lst N (vs := zs) (by kcj_m)) hA (by omega) (by omega) (by omega) ?_
    intro t2
    (try dsimp only)
    simp only [Int.toNat_zero]
    repeat' (first | (k_unfold; (try dsimp only)) | (k_end; wrow_close) | ((fail_if_success ((with_reducible show wpAny _ _ (subscriptTail _ _ _ _) _ _ _))); walk1) | (dsimp only; (fail_if_success ((with_reducible show wpAny _ _ (subscriptTail _ _ _ _) _ _ _))); walk1) | (leave1; (try dsimp only)) | fail "no step")
    refine item_val (news_list N (vs := nv) (by kcj_m)) gA0.1 (by omega) (hnv ((aroundL S).getD 0 0).toNat (by omega)) ?_
    (try dsimp only)
    repeat' (first | (k_unfold; (try dsimp only)) | (k_end; wrow_close) | ((fail_if_success ((with_reducible show wpAny _ _ (subscriptTail _ _ _ _) _ _ _))); walk1) | (dsimp only; (fail_if_success ((with_reducible show wpAny _ _ (subscriptTail _ _ _ _) _ _ _))); walk1) | (leave1; (try dsimp only)) | fail "no step")
    refine item_int (ns := nearM.getD ((aroundL S).getD 0 0).toNat []) (news_list N (vs := rvs ((aroundL S).getD 0 0).toNat) (c := cc ((aroundL S).getD 0 0).toNat) (by have hm := hrow ((aroundL S).getD 0 0).toNat (by omega); kcj_m)) (hri _ (by omega)) (by omega) (by rw [row6 (by omega)]; omega) (by omega) ?_
    intro t3
    (try dsimp only)
    repeat' (first | (k_unfold; (try dsimp only)) | (k_end; wrow_close) | ((fail_if_success (fail "x")); walk1) | (dsimp only; (fail_if_success (fail "x")); walk1) | (leave1; (try dsimp only)) | fail "no step")
    all_goals exact TestOut.intro (by assumption) (by assumption) (fun _ h => h) (by unfold acrossP nr; rw [Bool.eq_iff_iff, beq_iff_eq, decide_eq_true_iff])
  intro zs2 hz2
  have hB : IntsAre zs2 (acrossL S) := (hz2.mono (fun j z hj hv => by
    have hj' : j < 4 := List.mem_range.mp (List.mem_filter.mp hj).1
    obtain ⟨t, e⟩ := ints_at hA (j := j) (by omega)
    have hv'' : zs[j]? = some z := by simpa using hv
    rw [e] at hv''
    exact ⟨t, (Option.some.inj hv'').symm⟩)).ints
  have hz2l : zs2.length = 1 := by rw [hB.length, gc]
  clear hz2
  intro D2 hh2 tk2 F3 N3 x2
  simp only [LCg.Off1] at x2
  obtain ⟨_, q1, q2, q3, q4, q5, q6, _⟩ := x2
  (try dsimp only)
  repeat' (first | (k_unfold; (try dsimp only)) | (k_end; wrow_close) | ((fail_if_success ((with_reducible show wpAny _ _ (exec (Stmt.Assign _ (Expr.ListComp _ _ _ _) _) _) _ _ _))); walk1) | (dsimp only; (fail_if_success ((with_reducible show wpAny _ _ (exec (Stmt.Assign _ (Expr.ListComp _ _ _ _) _) _) _ _ _))); walk1) | (leave1; (try dsimp only)) | fail "no step")
  -- sides
  k_dflt (refine LCt.Assign_ListComp_T (F₀ := by k_asm) (by rfl) (by with_unfolding_all rfl) (by with_unfolding_all rfl) (by decide) (by rfl) (by decide) (by rfl) (by rfl) (by rfl) ?_)
  repeat' (first | (k_unfold; (try dsimp only)) | (k_end; wrow_close) | ((fail_if_success ((with_reducible show LCt.CompSrcT _ _ _ _ _ _ _ _ _ _ _ _ _ _ _))); walk1) | (dsimp only; (fail_if_success ((with_reducible show LCt.CompSrcT _ _ _ _ _ _ _ _ _ _ _ _ _ _ _))); walk1) | (leave1; (try dsimp only)) | fail "no step")
  rename IntsAre _ (List.drop 1 _) => hW
  have hwl := hW.length
  simp only [List.length_drop, gl] at hwl
  refine LCt.CompSrcT.ledger rfl (by assumption) (by assumption) (by k_mem) (by rw [sizeLine_eq]; simp; omega) ?_
  intro g3
  (try simp only [List.size_toArray, hwl])
  refine comp_keep (sidesP S) 3 (Or.inr ⟨_, by k_mem, rfl, _, rfl⟩) (fun _ => rfl) (fun _ => rfl) (by decide) ?_ ?_
  · intro i ys v I oI C oC D m₂ h tk E' hi hv hC hx F N
    obtain ⟨t, e⟩ := ints_at hW (j := i) (by simp [gl]; omega)
    have : v = .int ((aroundL S).getD (i + 1) 0) t := by
      have hv'' := hv
      simp only [List.getElem?_toArray] at hv''
      rw [e] at hv''
      have e3 : (List.drop 1 (aroundL S)).getD i 0 = (aroundL S).getD (i + 1) 0 := by simp [List.getD_eq_getElem?_getD, Nat.add_comm]
      rw [e3] at hv''; exact (Option.some.inj hv'').symm
    subst this
    clear e hv
    repeat' (first | (k_unfold; (try dsimp only)) | (k_end; wrow_close) | ((fail_if_success ((with_reducible show wpAny _ _ (compareOp CmpOp.NotIn _ _) _ _ _))); walk1) | (dsimp only; (fail_if_success ((with_reducible show wpAny _ _ (compareOp CmpOp.NotIn _ _) _ _ _))); walk1) | (leave1; (try dsimp only)) | fail "no step")
    refine notin_list_ints (news_lst N (vs := zs2) (by kcj_m)) hB ?_
    (try dsimp only)
    repeat' (first | (k_unfold; (try dsimp only)) | (k_end; wrow_close) | ((fail_if_success (fail "x")); walk1) | (dsimp only; (fail_if_success (fail "x")); walk1) | (leave1; (try dsimp only)) | fail "no step")
    all_goals exact TestOut.intro (by assumption) (by assumption) (fun _ h => h) (by simp_all [sidesP])
  intro zs3 hz3
  have hC3 : IntsAre zs3 (sidesL S) := (hz3.mono (fun j z hj hv => by
    have hj' : j < 3 := List.mem_range.mp (List.mem_filter.mp hj).1
    obtain ⟨t, e⟩ := ints_at hW (j := j) (by simp [gl]; omega)
    have hv'' := hv
    simp only [List.getElem?_toArray] at hv''
    rw [e] at hv''
    have e3 : (List.drop 1 (aroundL S)).getD j 0 = (aroundL S).getD (j + 1) 0 := by simp [List.getD_eq_getElem?_getD, Nat.add_comm]
    rw [e3] at hv''
    exact ⟨t, (Option.some.inj hv'').symm⟩)).ints
  clear hz3
  intro D3 hh3 tk3 F4 N4 x3
  simp only [LCg.Off1] at x3
  obtain ⟨_, _, _, r1, r2, r3, r4, r5, r6, _⟩ := x3
  (try dsimp only)
  repeat' (first | (k_unfold; (try dsimp only)) | (k_end; wrow_close) | ((fail_if_success ((with_reducible show wpAny _ _ (subscriptTail _ _ _ _) _ _ _))); walk1) | (dsimp only; (fail_if_success ((with_reducible show wpAny _ _ (subscriptTail _ _ _ _) _ _ _))); walk1) | (leave1; (try dsimp only)) | fail "no step")
  refine item_int (ns := aroundL S) (news_lst N4 (vs := zs) (by kcj_m)) hA (by omega) (by omega) (by omega) ?_
  intro q1
  (try dsimp only)
  repeat' (first | (k_unfold; (try dsimp only)) | (k_end; wrow_close) | ((fail_if_success ((with_reducible show wpAny _ _ (subscriptTail _ _ _ _) _ _ _))); walk1) | (dsimp only; (fail_if_success ((with_reducible show wpAny _ _ (subscriptTail _ _ _ _) _ _ _))); walk1) | (leave1; (try dsimp only)) | fail "no step")
  refine item_int (ns := sidesL S) (news_lst N4 (vs := zs3) (by kcj_m)) hC3 (by omega) (by omega) (by omega) ?_
  intro q2
  (try dsimp only)
  repeat' (first | (k_unfold; (try dsimp only)) | (k_end; wrow_close) | ((fail_if_success ((with_reducible show wpAny _ _ (subscriptTail _ _ _ _) _ _ _))); walk1) | (dsimp only; (fail_if_success ((with_reducible show wpAny _ _ (subscriptTail _ _ _ _) _ _ _))); walk1) | (leave1; (try dsimp only)) | fail "no step")
  refine item_int (ns := acrossL S) (news_lst N4 (vs := zs2) (by kcj_m)) hB (by omega) (by omega) (by omega) ?_
  intro q3
  (try dsimp only)
  repeat' (first | (k_unfold; (try dsimp only)) | (k_end; wrow_close) | ((fail_if_success ((with_reducible show wpAny _ _ (subscriptTail _ _ _ _) _ _ _))); walk1) | (dsimp only; (fail_if_success ((with_reducible show wpAny _ _ (subscriptTail _ _ _ _) _ _ _))); walk1) | (leave1; (try dsimp only)) | fail "no step")
  refine item_int (ns := sidesL S) (news_lst N4 (vs := zs3) (by kcj_m)) hC3 (by omega) (by omega) (by omega) ?_
  intro q4
  (try dsimp only)
  repeat' (first | (k_unfold; (try dsimp only)) | (k_end; wrow_close) | ((fail_if_success ((with_reducible show wpAny _ _ (exec (Stmt.Assign _ (Expr.ListComp _ _ _ _) _) _) _ _ _))); walk1) | (dsimp only; (fail_if_success ((with_reducible show wpAny _ _ (exec (Stmt.Assign _ (Expr.ListComp _ _ _ _) _) _) _ _ _))); walk1) | (leave1; (try dsimp only)) | fail "no step")
  -- above
  refine wpAny_Assign_Name ?_
  k_dflt (refine LCg.ListComp_U (F₀ := by k_asm) (by with_unfolding_all rfl) (by decide) (by rfl) (by decide) (by rfl) ?_)
  repeat' (first | (k_unfold; (try dsimp only)) | (k_end; wrow_close) | ((fail_if_success ((with_reducible show LCg.CompSrc _ _ _ _ _ _ _ _ _ _ _ _ _ _))); walk1) | (dsimp only; (fail_if_success ((with_reducible show LCg.CompSrc _ _ _ _ _ _ _ _ _ _ _ _ _ _))); walk1) | (leave1; (try dsimp only)) | fail "no step")
  refine LCg.CompSrc.ledger rfl (by assumption) (by assumption) (by k_mem) (by rw [sizeLine_eq]; exact Nat.le_of_ble_eq_true rfl) ?_
  intro g4
  refine comp_map (fun i y => y = .bool (aboveB S rs i)) 4 (Or.inr ⟨_, by k_mem, rfl, _, rfl⟩) ?_ ?_
  · intro i ys v I oI C oC D m₂ h tk E' hi hv hC hx F N
    obtain ⟨t, rfl⟩ : ∃ t, v = .int ((ringL S).getD i 0) t := by
      have : i = 0 ∨ i = 1 ∨ i = 2 ∨ i = 3 := four_cases hi
      rcases this with rfl | rfl | rfl | rfl
      · exact ⟨q1, (Option.some.inj (show some (Value.int ((ringL S).getD 0 0) q1) = some v from hv)).symm⟩
      · exact ⟨q2, (Option.some.inj (show some (Value.int ((ringL S).getD 1 0) q2) = some v from hv)).symm⟩
      · exact ⟨q3, (Option.some.inj (show some (Value.int ((ringL S).getD 2 0) q3) = some v from hv)).symm⟩
      · exact ⟨q4, (Option.some.inj (show some (Value.int ((ringL S).getD 3 0) q4) = some v from hv)).symm⟩
    clear hv
    have gRi := all_getD gg (i := i) (by have : (ringL S).length = 4 := rfl; omega)
    repeat' (first | (k_unfold; (try dsimp only)) | (k_end; wrow_close) | ((fail_if_success ((with_reducible show wpAny _ _ (subscriptTail _ _ _ _) _ _ _))); walk1) | (dsimp only; (fail_if_success ((with_reducible show wpAny _ _ (subscriptTail _ _ _ _) _ _ _))); walk1) | (leave1; (try dsimp only)) | fail "no step")
    refine item_int (ns := rs) (news_list N (vs := rv) (by kcj_m)) hrv gRi.1 (by omega) (by omega) ?_
    intro t2
    (try dsimp only)
    repeat' (first | (k_unfold; (try dsimp only)) | (k_end; wrow_close) | ((fail_if_success ((with_reducible show wpAny _ _ (subscriptTail _ _ _ _) _ _ _))); walk1) | (dsimp only; (fail_if_success ((with_reducible show wpAny _ _ (subscriptTail _ _ _ _) _ _ _))); walk1) | (leave1; (try dsimp only)) | fail "no step")
    refine item_int (ns := rs) (news_list N (vs := rv) (by kcj_m)) hrv h0 (by omega) (by omega) ?_
    intro t3
    (try dsimp only)
    repeat' (first | (k_unfold; (try dsimp only)) | (k_end; wrow_close) | ((fail_if_success (fail "x")); walk1) | (dsimp only; (fail_if_success (fail "x")); walk1) | (leave1; (try dsimp only)) | fail "no step")
    exact CompOut.intro (by assumption) (by assumption) (fun _ h => h) rfl
  intro zs4 hz4
  have hz4' := all2_four hz4
  subst hz4'
  clear hz4
  intro D4 hh4 tk4 F5 N5 x4
  simp only [LCg.Off1] at x4
  obtain ⟨_, _, _, _, _, s1, s2, s3, s4, s5, s6, _⟩ := x4
  (try dsimp only)
  repeat' (first | (k_unfold; (try dsimp only)) | (k_end; wrow_close) | ((fail_if_success ((with_reducible show wpAny _ _ (eval (Expr.ListComp _ _ _ _) _) _ _ _))); walk1) | (dsimp only; (fail_if_success ((with_reducible show wpAny _ _ (eval (Expr.ListComp _ _ _ _) _) _ _ _))); walk1) | (leave1; (try dsimp only)) | fail "no step")
  -- the changes round the ring
  k_dflt (refine LCt.ListComp_T (F₀ := by k_asm) (by with_unfolding_all rfl) (by decide) (by rfl) (by decide) (by rfl) ?_)
  repeat' (first | (k_unfold; (try dsimp only)) | (k_end; wrow_close) | ((fail_if_success ((with_reducible show LCt.CompSrcT _ _ _ _ _ _ _ _ _ _ _ _ _ _ _))); walk1) | (dsimp only; (fail_if_success ((with_reducible show LCt.CompSrcT _ _ _ _ _ _ _ _ _ _ _ _ _ _ _))); walk1) | (leave1; (try dsimp only)) | fail "no step")
  refine LCt.CompSrcT.range rfl (by assumption) (by assumption) (by assumption) (by decide) (n := 4) (by decide) (by rw [sizeLine_eq]; omega) ?_
  intro g5
  refine comp_keep (turnsP S rs) 4 trivial (fun _ => rfl) (fun _ => rfl) (by decide) ?_ ?_
  · intro i ys v I oI C oC D m₂ h tk E' hi hv hC hx F N
    obtain ⟨t, rfl⟩ := hv
    have : i = 0 ∨ i = 1 ∨ i = 2 ∨ i = 3 := four_cases hi
    rcases this with rfl | rfl | rfl | rfl
    all_goals repeat' (first | (k_unfold; (try dsimp only)) | (k_end; wrow_close) | ((fail_if_success (fail "x")); walk1) | (dsimp only; (fail_if_success (fail "x")); walk1) | (leave1; (try dsimp only)) | fail "no step")
    all_goals exact TestOut.intro (by assumption) (by assumption) (fun _ h => h) (by first | rfl | (simp [turnsP]; done) | (cases h1 : aboveB S rs 0 <;> cases h2 : aboveB S rs 1 <;> cases h3 : aboveB S rs 2 <;> cases h4 : aboveB S rs 3 <;> simp_all [turnsP]))
  intro zs5 hz5
  have hzl5 := hz5.len
  clear hz5
  intro D5 hh5 tk5 F6 N6 x5
  (try dsimp only)
  repeat' (first | (k_unfold; (try dsimp only)) | (k_end; wrow_close) | ((fail_if_success ((with_reducible show wpAny _ _ (call (Value.builtin "len") _ _) _ _ _))); walk1) | (dsimp only; (fail_if_success ((with_reducible show wpAny _ _ (call (Value.builtin "len") _ _) _ _ _))); walk1) | (leave1; (try dsimp only)) | fail "no step")
  have hle : ((List.range 4).filter (turnsP S rs)).length ≤ 4 := by
    have := List.length_filter_le (turnsP S rs) (List.range 4)
    simpa using this
  refine kst_len (us := zs5) (c := zs5.length) N6 (List.mem_cons_self) hzl5 (by omega) ?_
  (try dsimp only)
  repeat' (first | (k_unfold; (try dsimp only)) | (k_end; wrow_close) | ((fail_if_success (fail "x")); walk1) | (dsimp only; (fail_if_success (fail "x")); walk1) | (leave1; (try dsimp only)) | fail "no step")
  refine cb_retI hret rfl ?_ ?_
  · assumption
  · exact cb_drop (by assumption) (by kcj_in)
end Mine
end
/-! part T9 -/
section
open PySem PySem.W PyProof.Rows PySem.Calls PySem.Spec
namespace Mine
set_option maxRecDepth 100000
set_option maxHeartbeats 8000000
def piecesF (ps : List Int) : Int := if ps.length = 2 ∧ nr (ps.getD 0 0) (ps.getD 1 0) = 3 then 2 else 1
theorem pieces_ok (w : World) (aP aN : Addr) (as : Nat → Addr) (cP cN : Nat) (cc : Nat → Nat) (nv pv : List Value) (rvs : Nat → List Value) (ps : List Int) (news : List (Addr × Obj))
    (hN : (aN, listOf nv.toArray cN) ∈ news) (hP : (aP, listOf pv.toArray cP) ∈ news) (hpv : IntsAre pv ps) (hpl : ps.length ≤ 6) (hpr : ∀ x ∈ ps, 0 ≤ x ∧ x < 6) (hnv : ∀ i, i < 6 → nv[i]? = some (.ref (as i)))
    (hrow : ∀ i, i < 6 → (as i, listOf (rvs i).toArray (cc i)) ∈ news) (hri : ∀ i, i < 6 → IntsAre (rvs i) (nearM.getD i [])) :
    Claim 4 w 75 news [.ref aP, .ref aN] (RetV news (fun t => .int (piecesF ps) t)) := by
  dsimp only [Claim, RetV]
  k_fill
  intros
  rename_i hret
  refine wpAny_call ?_
  k_dflt cell_enter
  rename Fr _ _ _ _ => F0
  obtain ⟨u0, F1⟩ := fr_hide [(Str.ofString "spots", .ref aP), (Str.ofString "near", .ref aN)] F0 (by kst_all)
  clear F0
  rename News _ _ _ _ => N
  repeat' (first | (k_unfold; (try dsimp only)) | (k_end; wrow_close) | ((fail_if_success ((with_reducible show wpAny _ _ (call (Value.builtin "len") _ _) _ _ _))); walk1) | (dsimp only; (fail_if_success ((with_reducible show wpAny _ _ (call (Value.builtin "len") _ _) _ _ _))); walk1) | (leave1; (try dsimp only)) | fail "no step")
  refine kst_len (us := pv) (c := cP) N hP hpv.length (by omega) ?_
  (try dsimp only)
  repeat' (first | (k_unfold; (try dsimp only)) | (k_end; wrow_close) | ((fail_if_success ((with_reducible show wpAny _ _ (subscriptTail _ _ _ _) _ _ _))); walk1) | (dsimp only; (fail_if_success ((with_reducible show wpAny _ _ (subscriptTail _ _ _ _) _ _ _))); walk1) | (leave1; (try dsimp only)) | fail "no step")
  · have g0 := all_getD hpr (i := 0) (by omega)
    have g1 := all_getD hpr (i := 1) (by omega)
    refine item_int (ns := ps) (news_list N hP) hpv (by omega) (by omega) (by omega) ?_
    intro t1
    (try dsimp only)
    simp only [Int.toNat_zero]
    repeat' (first | (k_unfold; (try dsimp only)) | (k_end; wrow_close) | ((fail_if_success ((with_reducible show wpAny _ _ (subscriptTail _ _ _ _) _ _ _))); walk1) | (dsimp only; (fail_if_success ((with_reducible show wpAny _ _ (subscriptTail _ _ _ _) _ _ _))); walk1) | (leave1; (try dsimp only)) | fail "no step")
    refine item_val (news_list N hN) g0.1 (by omega) (hnv (ps.getD 0 0).toNat (by omega)) ?_
    (try dsimp only)
    repeat' (first | (k_unfold; (try dsimp only)) | (k_end; wrow_close) | ((fail_if_success ((with_reducible show wpAny _ _ (subscriptTail _ _ _ _) _ _ _))); walk1) | (dsimp only; (fail_if_success ((with_reducible show wpAny _ _ (subscriptTail _ _ _ _) _ _ _))); walk1) | (leave1; (try dsimp only)) | fail "no step")
    refine item_int (ns := ps) (news_list N hP) hpv (by omega) (by omega) (by omega) ?_
    intro t2
    (try dsimp only)
    repeat' (first | (k_unfold; (try dsimp only)) | (k_end; wrow_close) | ((fail_if_success ((with_reducible show wpAny _ _ (subscriptTail _ _ _ _) _ _ _))); walk1) | (dsimp only; (fail_if_success ((with_reducible show wpAny _ _ (subscriptTail _ _ _ _) _ _ _))); walk1) | (leave1; (try dsimp only)) | fail "no step")
    have e1 : ps.getD (Int.toNat 1) 0 = ps.getD 1 0 := rfl
    rw [e1]
    refine item_int (ns := nearM.getD (ps.getD 0 0).toNat []) (news_list N (hrow (ps.getD 0 0).toNat (by omega))) (hri _ (by omega)) g1.1 (by rw [row6 (by omega)]; omega) (by omega) ?_
    intro t3
    (try dsimp only)
    have e2 : (nearM.getD (ps.getD 0 0).toNat []).getD (ps.getD 1 0).toNat 0 = nr (ps.getD 0 0) (ps.getD 1 0) := rfl
    rw [e2]
    repeat' (first | (k_unfold; (try dsimp only)) | (k_end; wrow_close) | ((fail_if_success (fail "x")); walk1) | (dsimp only; (fail_if_success (fail "x")); walk1) | (leave1; (try dsimp only)) | fail "no step")
    all_goals first
      | exact cb_retI hret (by rw [piecesF, if_pos ⟨by omega, by assumption⟩]) (by assumption) (by assumption)
      | exact cb_retI hret (by rw [piecesF, if_neg (fun q => by first | (exact absurd q.2 (by assumption)) | omega)]) (by assumption) (by assumption)
  all_goals exact cb_retI hret (by rw [piecesF, if_neg (fun q => by omega)]) (by assumption) (by assumption)
end Mine
end
/-! part L7 -/
section
open PySem PySem.W PyProof.Rows PySem.Calls PySem.Spec PySem.Flt
set_option maxRecDepth 100000
namespace Mine
def fdv (a b : Int) : UInt64 := Float64.ofFrac (decide (a < 0) != decide (b < 0)) a.natAbs b.natAbs
def wheelM : List (List Int) := [[31, 1], [3, 5, 7], [9, 11, 13], [15, 17], [19, 21, 23], [25, 27, 29]]
def plc (k j : Nat) : Int := (wheelM.getD k []).getD j 0
def shr (c : Nat) : UInt64 := [4607182418800017408, 4602678819172646912].getD c 0
def hF (k j : Nat) : UInt64 := fdv (plc k j) 32
def vF (h : Nat) : UInt64 := fdv ((h : Int) + 1) 4
def rgb (k j c h : Nat) : UInt64 × UInt64 × UInt64 := h2r (hF k j) (shr c) (vF h)
def fr (k j c h : Nat) : UInt64 := (rgb k j c h).1
def fg (k j c h : Nat) : UInt64 := (rgb k j c h).2.1
def fb (k j c h : Nat) : UInt64 := (rgb k j c h).2.2
def fmx3 (k j c h : Nat) : UInt64 := mx3 (fr k j c h) (fg k j c h) (fb k j c h)
def fmn3 (k j c h : Nat) : UInt64 := mn3 (fr k j c h) (fg k j c h) (fb k j c h)
def told0 (k j c h : Nat) : UInt64 := hue (fr k j c h) (fg k j c h) (fb k j c h) (fmx3 k j c h) (fmn3 k j c h)
def told1 (k j c h : Nat) : UInt64 := Float64.div (Float64.sub (fmx3 k j c h) (fmn3 k j c h)) (fmx3 k j c h)
def lightF (k j c h : Nat) : UInt64 := Float64.div (Float64.add (fmx3 k j c h) (fmn3 k j c h)) 4611686018427387904
def purF (k j c h : Nat) : UInt64 := sat (fmx3 k j c h) (fmn3 k j c h)
def dueF (c h : Nat) : Int := if c = 0 then 21 else if h = 2 then 9 else 7
def upR (k : Nat) : Bool := k == 0 || k == 1 || k == 5
def upG (k : Nat) : Bool := k == 1 || k == 2 || k == 3
def upB (k : Nat) : Bool := k == 3 || k == 4 || k == 5
def paintB (k j c h : Nat) : Bool :=
  (!(Float64.cmp (shr c) 0 == some .eq)) && Float64.isFinite (Float64.mul (hF k j) 4618441417868443648) && decide ((Flt.toInt Float64.truncOf (Float64.mul (hF k j) 4618441417868443648)).natAbs < 1000) &&
  (!(Float64.cmp (fmn3 k j c h) (fmx3 k j c h) == some .eq)) && (!Float64.isZero (fmx3 k j c h)) && (!Float64.isZero (Float64.sub (fmx3 k j c h) (fmn3 k j c h))) && (!Float64.isZero (Float64.add (fmx3 k j c h) (fmn3 k j c h))) &&
  (!Float64.isZero (Float64.sub (Float64.sub 4611686018427387904 (fmx3 k j c h)) (fmn3 k j c h))) &&
  Float64.isFinite (Float64.add (Float64.mul (told0 k j c h) (Float64.ofInt 32)) 4602678819172646912) && decide ((Flt.toInt Float64.truncOf (Float64.add (Float64.mul (told0 k j c h) (Float64.ofInt 32)) 4602678819172646912)).fmod 32 = plc k j) &&
  (Float64.cmp (told1 k j c h) (shr c) == some .eq) && (Float64.cmp (fmx3 k j c h) (vF h) == some .eq) && (Float64.cmp (told0 k j c h) (told0 k j c h) == some .eq) &&
  (Float64.cmp (lightF k j c h) (Float64.div (Float64.mul (vF h) (Float64.sub 4611686018427387904 (shr c))) (Float64.ofInt 2)) == some .eq) &&
  Float64.isFinite (Float64.add (Float64.mul (purF k j c h) (Float64.ofInt 21)) 4602678819172646912) && decide (Flt.toInt Float64.truncOf (Float64.add (Float64.mul (purF k j c h) (Float64.ofInt 21)) 4602678819172646912) = dueF c h) &&
  ((Float64.cmp (fr k j c h) (lightF k j c h) == some .gt) == upR k) && ((Float64.cmp (fg k j c h) (lightF k j c h) == some .gt) == upG k) && ((Float64.cmp (fb k j c h) (lightF k j c h) == some .gt) == upB k) &&
  Float64.isFinite (Float64.mul (fmx3 k j c h) (Float64.ofInt 4)) && decide (Flt.toInt Float64.truncOf (Float64.mul (fmx3 k j c h) (Float64.ofInt 4)) = (h : Int) + 1)
def paintAll (k : Nat) : Bool := (List.range (wheelM.getD k []).length).all fun j => (List.range 2).all fun c => (List.range 3).all fun h => paintB k j c h
theorem paint0 : paintAll 0 = true := by decide +kernel
theorem paint1 : paintAll 1 = true := by decide +kernel
theorem paint2 : paintAll 2 = true := by decide +kernel
theorem paint3 : paintAll 3 = true := by decide +kernel
theorem paint4 : paintAll 4 = true := by decide +kernel
theorem paint5 : paintAll 5 = true := by decide +kernel
theorem paint {k j c h : Nat} (hk : k < 6) (hj : j < (wheelM.getD k []).length) (hc : c < 2) (hh : h < 3) : paintB k j c h = true := by
  have : paintAll k = true := by
    have : k = 0 ∨ k = 1 ∨ k = 2 ∨ k = 3 ∨ k = 4 ∨ k = 5 := six_cases hk
    rcases this with rfl | rfl | rfl | rfl | rfl | rfl
    · exact paint0
    · exact paint1
    · exact paint2
    · exact paint3
    · exact paint4
    · exact paint5
  unfold paintAll at this
  have h1 := List.all_eq_true.mp this j (List.mem_range.mpr hj)
  have h2 := List.all_eq_true.mp h1 c (List.mem_range.mpr hc)
  exact List.all_eq_true.mp h2 h (List.mem_range.mpr hh)
end Mine
end
/-! part L8 -/
section
open PySem PySem.W PyProof.Rows PySem.Calls PySem.Spec
namespace Mine
structure Paint (k j c h : Nat) : Prop where
  a1 : (Float64.cmp (shr c) 0 == some .eq) = false
  a2 : Float64.isFinite (Float64.mul (hF k j) 4618441417868443648) = true
  a3 : (Flt.toInt Float64.truncOf (Float64.mul (hF k j) 4618441417868443648)).natAbs < 1000
  b1 : (Float64.cmp (fmn3 k j c h) (fmx3 k j c h) == some .eq) = false
  b2 : Float64.isZero (fmx3 k j c h) = false
  b3 : Float64.isZero (Float64.sub (fmx3 k j c h) (fmn3 k j c h)) = false
  b4 : Float64.isZero (Float64.add (fmx3 k j c h) (fmn3 k j c h)) = false
  b5 : Float64.isZero (Float64.sub (Float64.sub 4611686018427387904 (fmx3 k j c h)) (fmn3 k j c h)) = false
  c1 : Float64.isFinite (Float64.add (Float64.mul (told0 k j c h) (Float64.ofInt 32)) 4602678819172646912) = true
  c2 : (Flt.toInt Float64.truncOf (Float64.add (Float64.mul (told0 k j c h) (Float64.ofInt 32)) 4602678819172646912)).fmod 32 = plc k j
  c3 : (Float64.cmp (told1 k j c h) (shr c) == some .eq) = true
  c4 : (Float64.cmp (fmx3 k j c h) (vF h) == some .eq) = true
  c5 : (Float64.cmp (told0 k j c h) (told0 k j c h) == some .eq) = true
  c6 : (Float64.cmp (lightF k j c h) (Float64.div (Float64.mul (vF h) (Float64.sub 4611686018427387904 (shr c))) (Float64.ofInt 2)) == some .eq) = true
  d1 : Float64.isFinite (Float64.add (Float64.mul (purF k j c h) (Float64.ofInt 21)) 4602678819172646912) = true
  d2 : Flt.toInt Float64.truncOf (Float64.add (Float64.mul (purF k j c h) (Float64.ofInt 21)) 4602678819172646912) = dueF c h
  e1 : (Float64.cmp (fr k j c h) (lightF k j c h) == some .gt) = upR k
  e2 : (Float64.cmp (fg k j c h) (lightF k j c h) == some .gt) = upG k
  e3 : (Float64.cmp (fb k j c h) (lightF k j c h) == some .gt) = upB k
  f1 : Float64.isFinite (Float64.mul (fmx3 k j c h) (Float64.ofInt 4)) = true
  f2 : Flt.toInt Float64.truncOf (Float64.mul (fmx3 k j c h) (Float64.ofInt 4)) = (h : Int) + 1
theorem paintP {k j c h : Nat} (hk : k < 6) (hj : j < (wheelM.getD k []).length) (hc : c < 2) (hh : h < 3) : Paint k j c h := by
  have p := paint hk hj hc hh
  unfold paintB at p
  simp only [Bool.and_eq_true, Bool.not_eq_true', decide_eq_true_eq] at p
  obtain ⟨⟨⟨⟨⟨⟨⟨⟨⟨⟨⟨⟨⟨⟨⟨⟨⟨⟨⟨⟨q1, q2⟩, q3⟩, q4⟩, q5⟩, q6⟩, q7⟩, q8⟩, q9⟩, q10⟩, q11⟩, q12⟩, q13⟩, q14⟩, q15⟩, q16⟩, q17⟩, q18⟩, q19⟩, q20⟩, q21⟩ := p
  exact ⟨q1, q2, q3, q4, q5, q6, q7, q8, q9, q10, q11, q12, q13, q14, q15, q16, eq_of_beq q17, eq_of_beq q18, eq_of_beq q19, q20, q21⟩
theorem h2r_law (w : World) (k j c h : Nat) (P : Paint k j c h) (th ts tv : Tok) (n3 : tv ≠ 0) (news : List (Addr × Obj)) :
    Claim 4 w 49 news [.float (hF k j) th, .float (shr c) ts, .float (vF h) tv] (RetT3z news (fr k j c h) (fg k j c h) (fb k j c h)) :=
  h2r_ok w _ _ _ _ _ _ n3 news P.a1 P.a2 P.a3
theorem r2h_law (w : World) (k j c h : Nat) (P : Paint k j c h) (th ts tv : Tok) (n1 : th ≠ 0) (n2 : ts ≠ 0) (n3 : tv ≠ 0) (news : List (Addr × Obj)) :
    Claim 4 w 42 news [.float (fr k j c h) th, .float (fg k j c h) ts, .float (fb k j c h) tv] (RetT3z news (told0 k j c h) (told1 k j c h) (fmx3 k j c h)) :=
  r2h_ok w _ _ _ _ _ _ n1 n2 n3 news P.b1 P.b2 P.b3
theorem r2l_law (w : World) (k j c h : Nat) (P : Paint k j c h) (th ts tv : Tok) (news : List (Addr × Obj)) :
    Claim 4 w 35 news [.float (fr k j c h) th, .float (fg k j c h) ts, .float (fb k j c h) tv] (RetT3z news (told0 k j c h) (lightF k j c h) (purF k j c h)) :=
  r2l_ok w _ _ _ _ _ _ news P.b1 P.b4 P.b3 P.b5
theorem share_at {t1 t2 : Tok} {c : Nat} (h : c < 2) : ([.float 4607182418800017408 t1, .float 4602678819172646912 t2] : List Value)[((c : Nat) : Int).toNat]? = some (.float (shr c) (if c = 0 then t1 else t2)) := by
  have : c = 0 ∨ c = 1 := by omega
  rcases this with rfl | rfl <;> rfl
theorem div_small {prog : Program} {w : World} {A : Around} {E : Value → Shared → Prop} {s : Shared} {Q : Value → Shared → Prop} {a b : Int} {t u : Tok} (hA : A.handled = none) (ha : a.natAbs ≤ 1000) (hb : b ≠ 0)
    (h : Q (.float (fdv a b) s.toks) { s with toks := s.toks + 1 }) : wpAny (model prog w) A (binaryOp .Div (.int a t) (.int b u)) Q E s :=
  Flt.div_ii_fits hA (Nat.lt_of_le_of_lt ha (by decide +kernel)) (fun h => absurd h hb) (fun _ _ => h)
end Mine
end
/-! part L9 -/
section
open PySem PySem.SeqAt PySem.W PyProof.Rows PySem.Calls PySem.Spec
namespace Mine
theorem booked {w : World} {h : Heap} (x : (hd.heap_39 w.params).In h) : NoneBooked h :=
  ⟨fun _ => none, ⟨_, #[], 0, x 2 _ rfl, rfl, by intro e he; cases he; contradiction, fun _ => rfl⟩, rfl⟩
theorem booked_keep {h h' : Heap} (x : NoneBooked h) (k : ∀ b o, h.get? b = some o → h'.get? b = some o) : NoneBooked h' := by
  obtain ⟨mc, hn, e⟩ := x
  exact ⟨mc, hn.keeps k, e⟩
theorem isSame_float {M : Model} {A : Around} {E : Value → Shared → Prop} {s : Shared} {y z : UInt64} {u v : Tok} {Q : Bool → Shared → Prop}
    (hu : u ≠ 0) (hv : v ≠ 0) (hb : NoneBooked s.heap) (hq : ∀ b, Q b s) : wpAny M A (isSame (.float y u) (.float z v)) Q E s := by
  show wpAny M A (isSame.created (y == z && !Float64.isNaN y) u v) Q E s
  have h0 : (u == 0 || v == 0) = false := by simp [hu, hv]
  unfold isSame.created
  refine wpAny_ite ?_
  split
  · rename_i h; rw [h0] at h; exact absurd h Bool.false_ne_true
  refine wpAny_ite ?_
  split
  · exact wpAny_pure (hq _)
  refine wpAny_ite ?_
  split
  · exact wpAny_pure (hq _)
  refine wpAny_bind (wpAny_sharingNotTold_none hb ?_)
  first | rw [if_neg Bool.false_ne_true] | simp only [Bool.false_eq_true, if_false]
  refine wpAny_bind (wpAny_sharingNotTold_none hb ?_)
  first | rw [if_neg Bool.false_ne_true] | simp only [Bool.false_eq_true, if_false]
  exact wpAny_bind (wpAny_rule (wpAny_bind (wpAny_askSetting (wpAny_pure (hq _)))))
theorem eqAt_float {A : Around} {s : Shared} {x y : UInt64} {t u : Tok} (ht : t ≠ 0) (hu : u ≠ 0) (hb : NoneBooked s.heap) (h : (Float64.cmp x y == some .eq) = true) : EqAt A s (.float x t) (.float y u) true := fun prog w E Q hq => by
  unfold eqBool
  show wpAny _ _ (if (Value.float x t == Value.float y u) = true then _ else _) Q E s
  by_cases hab : (Value.float x t == Value.float y u) = true
  · rw [if_pos hab]
    exact wpAny_bind (wpAny_rule (wpAny_pure hq))
  · rw [if_neg hab]
    refine wpAny_bind (isSame_float ht hu hb fun b => ?_)
    cases b
    · exact wpAny_bind (AutoFloatOps.eq_0 (wpAny_truthy_bool (by rw [h]; exact hq)))
    · exact wpAny_pure hq
theorem ne3 {prog : Program} {w : World} {A : Around} {E : Value → Shared → Prop} {s : Shared} {l b : Addr} {x1 x2 x3 y1 y2 y3 : Value} {Q : Value → Shared → Prop} (hl : s.heap.IsList l [x1, x2, x3].toArray) (hb : s.heap.IsList b [y1, y2, y3].toArray) (hu : A.units < cLine)
    (h1 : EqAt A.in1 s x1 y1 true) (h2 : EqAt A.in1 s x2 y2 true) (h3 : EqAt A.in1 s x3 y3 true) (h : Q (.bool false) s) : wpAny (model prog w) A (compareOp .NotEq (.ref l) (.ref b)) Q E s := by
  refine RcNeAt.lists (e := fun _ => true) hl hb rfl hu (fun j g1 g2 => ?_) prog w E Q ?_
  · have : j = 0 ∨ j = 1 ∨ j = 2 := by have : j < 3 := g1; omega
    rcases this with rfl | rfl | rfl
    · exact h1
    · exact h2
    · exact h3
  · exact h
theorem item_share {prog : Program} {w : World} {A : Around} {E : Value → Shared → Prop} {s : Shared} {l : Addr} {value slice : Expr} {t1 t2 u : Tok} {c : Nat} {Q : Value → Shared → Prop} (hl : s.heap.IsList l [.float 4607182418800017408 t1, .float 4602678819172646912 t2].toArray) (hc : c < 2) (h1 : t1 ≠ 0) (h2 : t2 ≠ 0) (h : ∀ ts, ts ≠ 0 → Q (.float (shr c) ts) s)
    (hs : subscripted slice false (.ref l) (.int (c : Int) u) = operate [.ref l, .int (c : Int) u] (getItem (.ref l) (.int (c : Int) u)) := by with_unfolding_all rfl) : wpAny (model prog w) A (subscriptTail value slice (.ref l) (.int (c : Int) u)) Q E s :=
  item_val hl (by omega) (by omega) (share_at hc) (h _ (by split <;> assumption)) hs
theorem plc_le {k j : Nat} (hk : k < 6) (hj : j < 3) : (plc k j).natAbs ≤ 1000 := by
  have : ∀ k < 6, ∀ j < 3, (plc k j).natAbs ≤ 1000 := by decide
  exact this k hk j hj
theorem news_sub {h₀ h : Heap} {L : Addr} {news news' : List (Addr × Obj)} (N : News h₀ L h news) (hm : ∀ p ∈ news', p ∈ news) : News h₀ L h news' := fun p q => N p (hm p q)
theorem int_fin {prog : Program} {w : World} {A : Around} {E : Value → Shared → Prop} {s : Shared} {x : UInt64} {t : Tok} {Q : Value → Shared → Prop} (hA : A.handled = none) (hf : Float64.isFinite x = true) (h : Q (.int (Flt.toInt Float64.truncOf x) s.toks) { s with toks := s.toks + 1 }) : wpAny (model prog w) A (call (.type "int") [.float x t]) Q E s := by
  refine Flt.call_int_float3 hA ?_ ?_ ?_
  · intro h2; exact (nan_fin hf h2).elim
  · intro h2; exact (inf_fin hf h2).elim
  · intro _; exact h
theorem mul_fin {prog : Program} {w : World} {A : Around} {E : Value → Shared → Prop} {s : Shared} {x : UInt64} {b : Int} {t u : Tok} {Q : Value → Shared → Prop} (hc0 : ¬Float64.isInf (Float64.ofInt b) = true) (h : Q (.float (Float64.mul x (Float64.ofInt b)) s.toks) { s with toks := s.toks + 1 }) : wpAny (model prog w) A (binaryOp .Mult (.float x t) (.int b u)) Q E s :=
  AutoFloatOps.mul_fi_1 hc0 h
theorem mod_nz {prog : Program} {w : World} {A : Around} {E : Value → Shared → Prop} {s : Shared} {a b r : Int} {t u : Tok} {Q : Value → Shared → Prop} (hc0 : ¬(b == 0) = true) (e : a.fmod b = r) (h : Q (.int r s.toks) { s with toks := s.toks + 1 }) : wpAny (model prog w) A (binaryOp .Mod (.int a t) (.int b u)) Q E s := by
  subst e
  exact AutoIntOps.mod_1 hc0 h
theorem gen_pos1 {α : Type} {M : Model} {A : Around} {t : Sem α} {Q : α → Shared → Prop} {E : Value → Shared → Prop} {h : Heap} {g} {d} {k : Nat} {o} (H : ∀ tk : Nat, tk ≠ 0 → wpAny M A t Q E ⟨h, g, d, tk, o⟩) : wpAny M A t Q E ⟨h, g, d, k + 1, o⟩ := H _ (Nat.succ_ne_zero _)
end Mine
end
/-! part L10 -/
section
open PySem PySem.W PyProof.Rows PySem.Calls PySem.Spec
namespace Mine
def lawSt (n : Nat) : Stmt := match PySem.Challenge.pw_rs0103_01.main.body.getLast? with
  | some (.FunctionDef _ _ b _ _ _ _ _ _ _) => b.getD n (.Pass ⟨0, 0, 0, 0⟩)
  | _ => .Pass ⟨0, 0, 0, 0⟩
def lawSc : Scope := match PySem.Challenge.pw_rs0103_01.main.body.getLast? with
  | some (.FunctionDef _ _ _ _ _ _ sc _ _ _) => sc
  | _ => { kind := .function, names := [], isGenerator := false, isCoroutine := false }
def forBody : Stmt → List Stmt
  | .For _ _ b _ _ => b
  | _ => []
/-- statement i of the body of the law's loop n -/
def inSt (n i : Nat) : Stmt := (forBody (lawSt n)).getD i (.Pass ⟨0, 0, 0, 0⟩)
def escN : Nat → Str → Str
  | 0, t => t
  | n + 1, t => esc (escN n t)
def signS (g : Int) : Str := Txt.item (Str.ofString "&<\"\t\n\r") g
def wordF (k : Nat) : Str := (if upR k then Str.ofString "R" else Str.ofString "r") ++ (if upG k then Str.ofString "G" else Str.ofString "g") ++ (if upB k then Str.ofString "B" else Str.ofString "b")
def hgt (xs : List Int) (k : Nat) : Nat := ((xs.getD k 0).fmod 3).toNat
def textF (xs : List Int) (g : Int) (k : Nat) : Str := wordF k ++ escN (hgt xs k + 1) (signS g)
abbrev envL (L fa : Addr) (cd : Value) : Env := envOfC (Str.ofString "law") lawSc L fa cd
abbrev arL (L fa : Addr) (cd : Value) : Around := callerA.deeper (envL L fa cd)
/-- what a statement of the law is asked -/
abbrev StOk (w : World) (L : Addr) (st : Stmt) (ps : List (Str × Value)) (news : List (Addr × Obj)) (R : Heap → Shared → (Flow → Shared → Prop) → Prop) : Prop :=
  ∀ (mean : ExcName → Option Value) (mg mb : Str → Option Value) (fa : Addr) (cd : Value) (h₀ : Heap) (s : Shared) (Q : Flow → Shared → Prop) (E : Value → Shared → Prop) (u : Str → Option Value),
    Below callerA h₀ [] h₀ → (hd.heap_39 w.params).In h₀ → Top hd.view_39 (looseW hd.view_39 []) mean mg mb h₀ → Fr h₀ L s.heap (kstB u ps) → News h₀ L s.heap news → R h₀ s Q →
      wpAny (model PySem.Challenge.rw_rs0103_01.row.prog w) (callerA.deeper (envOfC (Str.ofString "law") lawSc L fa cd)) (exec st (envOfC (Str.ofString "law") lawSc L fa cd)) Q E s
/-- the same, of a statement that loops -/
abbrev StOkE (w : World) (L : Addr) (st : Stmt) (ps : List (Str × Value)) (news : List (Addr × Obj)) (R : Heap → Shared → (Flow → Shared → Prop) → Prop) : Prop :=
  ∀ (mean : ExcName → Option Value) (mg mb : Str → Option Value) (fa : Addr) (cd : Value) (h₀ : Heap) (s : Shared) (Q : Flow → Shared → Prop) (E : Value → Shared → Prop) (u : Str → Option Value),
    Below callerA h₀ [] h₀ → (hd.heap_39 w.params).In h₀ → Top hd.view_39 (looseW hd.view_39 []) mean mg mb h₀ → Fr h₀ L s.heap (kstB u ps) → News h₀ L s.heap news →
    PassesOwn (model PySem.Challenge.rw_rs0103_01.row.prog w) (callerA.deeper (envOfC (Str.ofString "law") lawSc L fa cd)) (envOfC (Str.ofString "law") lawSc L fa cd) E → R h₀ s Q →
      wpAny (model PySem.Challenge.rw_rs0103_01.row.prog w) (callerA.deeper (envOfC (Str.ofString "law") lawSc L fa cd)) (exec st (envOfC (Str.ofString "law") lawSc L fa cd)) Q E s
end Mine
end
/-! part L12 -/
section
open PySem PySem.W PyProof.Rows PySem.Calls PySem.Spec
set_option maxRecDepth 100000
namespace Mine
def wordLit (k : Nat) : List Nat := [[82,103,98],[82,71,98],[114,71,98],[114,71,66],[114,103,66],[82,103,66]].getD k []
def nameLit (g : Nat) : List Nat := [[97,109,112,59],[108,116,59],[113,117,111,116,59],[35,120,57,59],[35,120,65,59],[35,120,68,59]].getD g []
def ampLit : Nat → List Nat
  | 0 => []
  | n + 1 => 97 :: 109 :: 112 :: 59 :: ampLit n
def litT (k h g : Nat) : Str := ⟨(wordLit k ++ 38 :: (ampLit h ++ nameLit g)).toArray⟩
def escLit (h g : Nat) : Str := ⟨(38 :: (ampLit h ++ nameLit g)).toArray⟩
theorem word_lit : ∀ k < 6, wordF k = ⟨(wordLit k).toArray⟩ := by decide +kernel
theorem esc_lit : ∀ h < 3, ∀ g < 6, escN (h + 1) (signS (g : Nat)) = escLit h g := by decide +kernel
theorem escN_lit {h : Nat} {g : Int} (hh : h < 3) (h0 : 0 ≤ g) (h1 : g < 6) : escN (h + 1) (signS g) = escLit h g.toNat := by
  have := esc_lit h hh g.toNat (by omega)
  rwa [Int.toNat_of_nonneg h0] at this
def names6 : List Str := [Str.ofString "amp;", Str.ofString "lt;", Str.ofString "quot;", Str.ofString "#x9;", Str.ofString "#xA;", Str.ofString "#xD;"]
theorem names6_len {g : Int} (h0 : 0 ≤ g) (h1 : g < 6) : (names6.getD g.toNat Str.empty).length ≤ 5 := by
  have : ∀ n < 6, (names6.getD n Str.empty).length ≤ 5 := by decide +kernel
  exact this _ (by omega)
theorem lit13 {h : Nat} {g : Int} (hh : h < 3) (h0 : 0 ≤ g) (h1 : g < 6) : escN (h + 1) (signS g) = Str.ofString "&" ++ Txt.mul (Str.ofString "amp;") (h : Int) ++ names6.getD g.toNat Str.empty := by
  rw [escN_lit hh h0 h1]
  have : ∀ h < 3, ∀ n < 6, escLit h n = Str.ofString "&" ++ Txt.mul (Str.ofString "amp;") ((h : Nat) : Int) ++ names6.getD n Str.empty := by decide +kernel
  exact this h hh _ (by omega)
end Mine
end
/-! part L13 -/
section
open PySem PySem.W PyProof.Rows PySem.Calls PySem.Spec
set_option maxRecDepth 100000
namespace Mine
theorem str_ext {a b : Str} (h : a.cps.toList = b.cps.toList) : a = b := by
  cases a; cases b
  congr 1
  exact Array.toList_inj.mp h
theorem glue_fold (z : Array Nat) (hz : z.toList = []) : ∀ (ps : List Str) (acc : Array Nat), (ps.foldl (fun acc p => acc ++ z ++ p.cps) acc).toList = acc.toList ++ ps.flatMap fun q => q.cps.toList
  | [], acc => by simp
  | p :: ps, acc => by
    rw [List.foldl_cons, glue_fold z hz ps]
    simp [hz]
theorem join_flat (ss : List Str) : (Txt.join (Str.ofString "") ss).cps.toList = ss.flatMap fun q => q.cps.toList := by
  have he : (Str.ofString "").cps.toList = [] := by decide +kernel
  show ((ss.drop 1).foldl (fun acc p => acc ++ (Str.ofString "").cps ++ p.cps) (ss.headD Str.empty).cps).toList = _
  rw [glue_fold _ he]
  cases ss with
  | nil => rfl
  | cons p ps => simp
theorem flat_congr {α β : Type} {l : List α} {f g : α → List β} (h : ∀ a ∈ l, f a = g a) : l.flatMap f = l.flatMap g := by
  induction l with
  | nil => rfl
  | cons a l ih => rw [List.flatMap_cons, List.flatMap_cons, h a List.mem_cons_self, ih fun b hb => h b (List.mem_cons_of_mem _ hb)]
theorem page_sign : ∀ r < 8, (Txt.item chars8 (r : Nat)).cps.toList.flatMap escC = (names8.getD r Str.empty).cps.toList := by decide +kernel
theorem page_law (xs : List Int) : esc (pageS xs) = namesS xs := by
  refine str_ext ?_
  rw [esc_flat, pageS, namesS, join_flat, join_flat, List.flatMap_map, List.flatMap_map, List.flatMap_assoc]
  refine flat_congr fun i hi => ?_
  have hb := rowL_at xs i (by simpa using hi)
  have := page_sign ((rowL xs).getD i 0).toNat (by omega)
  rwa [Int.toNat_of_nonneg hb.1] at this
theorem page_len (xs : List Int) : (pageS xs).length ≤ 20 := by
  have h : ∀ (l : List Nat), ((l.map fun (i : Nat) => Txt.item chars8 ((rowL xs).getD i 0)).flatMap fun q => q.cps.toList).length = l.length := by
    intro l
    induction l with
    | nil => rfl
    | cons a l ih =>
      rw [List.map_cons, List.flatMap_cons, List.length_append, ih]
      show 1 + _ = _
      simp; omega
  have e := h (List.range 20)
  rw [← join_flat] at e
  have : (pageS xs).length = ((Txt.join (Str.ofString "") ((List.range 20).map fun (i : Nat) => Txt.item chars8 ((rowL xs).getD i 0))).cps.toList).length := by
    rw [pageS]; simp [Str.length]
  rw [this, e]; simp
theorem leaf_small : ∀ g < 6, lev (esc (signS (g : Nat)) ++ Str.ofString "z") (Str.ofString "z" ++ esc (signS (g : Nat))) 4 = 4 := by decide +kernel
theorem leaf_law {g : Int} (h0 : 0 ≤ g) (h1 : g < 6) : lev (esc (signS g) ++ Str.ofString "z") (Str.ofString "z" ++ esc (signS g)) 4 = 4 := by
  have := leaf_small g.toNat (by omega)
  rwa [Int.toNat_of_nonneg h0] at this
theorem leaf_len {g : Int} (h0 : 0 ≤ g) (h1 : g < 6) : (esc (signS g) ++ Str.ofString "z").length ≤ 40 ∧ (Str.ofString "z" ++ esc (signS g)).length ≤ 40 := by
  have : ∀ g < 6, (esc (signS (g : Nat)) ++ Str.ofString "z").length ≤ 40 ∧ (Str.ofString "z" ++ esc (signS (g : Nat))).length ≤ 40 := by decide +kernel
  have := this g.toNat (by omega)
  rwa [Int.toNat_of_nonneg h0] at this
end Mine
end
/-! part L14 -/
section
open PySem PySem.W PyProof.Rows PySem.Calls PySem.Spec
set_option maxRecDepth 100000
namespace Mine
theorem off3_of {I C D : Addr} : ∀ {l : List (Addr × Obj)}, (∀ p ∈ l, p.1 ≠ I ∧ p.1 ≠ C ∧ p.1 ≠ D) → LCg.Off3 I C D l
  | [], _ => trivial
  | p :: r, h => ⟨h p List.mem_cons_self, off3_of fun q hq => h q (List.mem_cons_of_mem _ hq)⟩
theorem allLt_mem {d : Addr} {l : List (Addr × Obj)} (h : AllLt d l) : ∀ p ∈ l, p.1 < d := by
  induction l with
  | nil => intro p hp; cases hp
  | cons a r ih =>
    intro p hp
    rcases List.mem_cons.mp hp with e | hp
    · rw [e]; exact h.1
    · exact ih h.2 p hp
theorem off1_mem {D : Addr} {l : List (Addr × Obj)} (h : LCg.Off1 D l) : ∀ p ∈ l, p.1 ≠ D := by
  induction l with
  | nil => intro p hp; cases hp
  | cons a r ih =>
    intro p hp
    rcases List.mem_cons.mp hp with e | hp
    · rw [e]; exact h.1
    · exact ih h.2 p hp
/-- what one turn of a comprehension gives that makes one object -/
def GrowOut (h₀ : Heap) (L : Addr) (m : Str → Option Value) (s₁ : Shared) (I C D : Addr) (oI oC oD : Obj) (nw : List (Addr × Obj)) (f : Obj → Prop) (y : Value) (s₂ : Shared) : Prop :=
  ∃ a o h' tk, y = .ref a ∧ s₂ = { s₁ with heap := h', toks := tk } ∧ Fr h₀ L h' m ∧ News h₀ L h' ((a, o) :: (I, oI) :: (C, oC) :: (D, oD) :: nw) ∧ I < a ∧ C < a ∧ D < a ∧ (∀ p ∈ nw, p.1 < a) ∧ f o
section
variable {prog : Program} {w : World} {A : Around} {E : Value → Shared → Prop} {s : Shared} {h₀ : Heap} {L : Addr} {m : Str → Option Value} {env : Env}
theorem comp_grow {elt : Expr} {x : Str} {scope : Scope} {cl : List (Str × Addr)} {S : List (Addr × Obj) → Prop} {P : Nat → Value → Prop} {Fin : List Value → List (Addr × Obj) → Prop} {news : List (Addr × Obj)} (f : Nat → Obj → Prop) (n : Nat) (hS : ∀ nw, S nw)
    (step : ∀ i ys v I oI C oC D m₂ h tk (E' : Value → Shared → Prop) nw, i < n → P i v → LCg.NsObj oC m₂ → m₂ x = some v → Fr h₀ L h m → News h₀ L h ((I, oI) :: (C, oC) :: (D, LCg.lst ys) :: nw) → (∀ p ∈ news, p ∈ nw) →
      wpAny (model prog w) A (eval elt (compEnvC scope cl C env)) (GrowOut h₀ L m { s with heap := h, toks := tk } I C D oI oC (LCg.lst ys) nw (f i)) E' { s with heap := h, toks := tk })
    (fin : ∀ led : List (Addr × Obj), led.length = n → (∀ i p, led[i]? = some p → f i p.2) → (led.map (·.1)).Nodup → (∀ p ∈ led, ∀ q ∈ news, q.1 < p.1) → Fin (led.map fun p => .ref p.1) (led ++ news)) : LCg.CompRest prog w A h₀ L m env elt x scope cl s S P Fin n 0 [] news := by
  have key : ∀ k i (led : List (Addr × Obj)), i + k = n → led.length = i → (∀ i p, led[i]? = some p → f i p.2) → (led.map (·.1)).Nodup → (∀ p ∈ led, ∀ q ∈ news, q.1 < p.1) →
      LCg.CompRest prog w A h₀ L m env elt x scope cl s S P Fin k i (led.map fun p => .ref p.1) (led ++ news) := by
    intro k
    induction k with
    | zero => intro i led e hl h1 h2 h3; exact LCg.CompRest.zero (fin led (by omega) h1 h2 h3)
    | succ k ih =>
      intro i led e hl h1 h2 h3
      refine LCg.CompRest.succ fun v I oI C oC D m₂ hh tk E' hv hC hx F N off ne => ?_
      refine wpAny_mono (step i _ v I oI C oC D m₂ hh tk E' (led ++ news) (by omega) hv hC hx F N fun p hp => List.mem_append_right _ hp) (fun y s₂ q => ?_) fun _ _ q => q
      obtain ⟨a, o, h', tk', rfl, rfl, F', N', ha1, ha2, ha3, ha4, hf⟩ := q
      refine LCg.CompEnd.intro F' N' ((led ++ [(a, o)]) ++ news) (fun p hp => ?_) (off3_of fun p hp => ?_) (hS _) ?_
      · rcases List.mem_cons.mp hp with rfl | hp
        · exact List.mem_cons_of_mem _ List.mem_cons_self
        rcases List.mem_cons.mp hp with rfl | hp
        · exact List.mem_cons_of_mem _ (List.mem_cons_of_mem _ List.mem_cons_self)
        rcases List.mem_cons.mp hp with rfl | hp
        · exact List.mem_cons_of_mem _ (List.mem_cons_of_mem _ (List.mem_cons_of_mem _ List.mem_cons_self))
        rcases List.mem_append.mp hp with hp | hp
        · rcases List.mem_append.mp hp with hp | hp
          · exact List.mem_cons_of_mem _ (List.mem_cons_of_mem _ (List.mem_cons_of_mem _ (List.mem_cons_of_mem _ (List.mem_append_left _ hp))))
          · rw [List.mem_singleton.mp hp]; exact List.mem_cons_self
        · exact List.mem_cons_of_mem _ (List.mem_cons_of_mem _ (List.mem_cons_of_mem _ (List.mem_cons_of_mem _ (List.mem_append_right _ hp))))
      · have hold : ∀ p ∈ led ++ news, p.1 ≠ I ∧ p.1 ≠ C ∧ p.1 ≠ D := off.mem
        rcases List.mem_append.mp hp with hp | hp
        · rcases List.mem_append.mp hp with hp | hp
          · exact hold p (List.mem_append_left _ hp)
          · rw [List.mem_singleton.mp hp]
            exact ⟨Nat.ne_of_gt ha1, Nat.ne_of_gt ha2, Nat.ne_of_gt ha3⟩
        · exact hold p (List.mem_append_right _ hp)
      · have e2 : (led.map fun p => Value.ref p.1) ++ [Value.ref a] = (led ++ [(a, o)]).map fun p => Value.ref p.1 := by simp
        rw [e2]
        refine ih (i + 1) (led ++ [(a, o)]) (by omega) (by simp; omega) ?_ ?_ ?_
        · intro j p hj
          rcases Nat.lt_or_ge j led.length with hlt | hge
          · rw [List.getElem?_append_left hlt] at hj; exact h1 j p hj
          · rw [List.getElem?_append_right hge] at hj
            have : j - led.length = 0 := by
              rcases Nat.eq_zero_or_pos (j - led.length) with h | h
              · exact h
              · rw [List.getElem?_eq_none (by simp; omega)] at hj; cases hj
            rw [this] at hj
            cases hj
            have : j = i := by omega
            rw [this]; exact hf
        · rw [List.map_append, List.nodup_append]
          refine ⟨h2, by simp, ?_⟩
          intro b hb c hc
          simp only [List.map_cons, List.map_nil, List.mem_singleton] at hc
          subst hc
          obtain ⟨p, hp, rfl⟩ := List.mem_map.mp hb
          exact Nat.ne_of_lt (ha4 p (List.mem_append_left _ hp))
        · intro p hp q hq
          rcases List.mem_append.mp hp with hp | hp
          · exact h3 p hp q hq
          · rw [List.mem_singleton.mp hp]; exact ha4 q (List.mem_append_right _ hq)
  exact key n 0 [] (by omega) rfl (by intro i p h; simp at h) (by simp) (by intro p hp; cases hp)
end
/-- six lists, as a ledger -/
def rowsL (n : Nat) (as : Nat → Addr) (vs : Nat → List Value) (cc : Nat → Nat) : List (Addr × Obj) := (List.range n).map fun i => (as i, listOf (vs i).toArray (cc i))
theorem rows_mem {n : Nat} {as : Nat → Addr} {vs : Nat → List Value} {cc : Nat → Nat} {i : Nat} (h : i < n) : (as i, listOf (vs i).toArray (cc i)) ∈ rowsL n as vs cc := List.mem_map.mpr ⟨i, List.mem_range.mpr h, rfl⟩
theorem rows_of {n : Nat} {led : List (Addr × Obj)} {f : Nat → List Value → Prop} (hl : led.length = n) (h : ∀ i p, led[i]? = some p → ∃ vs c, p.2 = listOf (List.toArray vs) c ∧ f i vs) :
    ∃ as vs cc, led = rowsL n as vs cc ∧ ∀ i, i < n → f i (vs i) := by
  have h' : ∀ i : Nat, ∃ q : List Value × Nat, ∀ p, led[i]? = some p → p.2 = listOf (List.toArray q.1) q.2 ∧ f i q.1 := by
    intro i
    rcases Nat.lt_or_ge i led.length with hlt | hge
    · obtain ⟨vs, c, e, hf⟩ := h i _ (List.getElem?_eq_getElem hlt)
      refine ⟨(vs, c), fun p hp => ?_⟩
      rw [List.getElem?_eq_getElem hlt] at hp
      cases hp
      exact ⟨e, hf⟩
    · refine ⟨([], 0), fun p hp => ?_⟩
      rw [List.getElem?_eq_none hge] at hp; cases hp
  obtain ⟨q, hq⟩ := Classical.axiomOfChoice h'
  refine ⟨fun i => (led.getD i default).1, fun i => (q i).1, fun i => (q i).2, ?_, ?_⟩
  · apply List.ext_getElem?
    intro i
    rcases Nat.lt_or_ge i led.length with hlt | hge
    · rw [rowsL, List.getElem?_map, List.getElem?_range (by omega), List.getElem?_eq_getElem hlt]
      have := (hq i _ (List.getElem?_eq_getElem hlt)).1
      simp only [Option.map_some, List.getD_eq_getElem?_getD, List.getElem?_eq_getElem hlt, Option.getD_some]
      exact congrArg some (Prod.ext rfl this)
    · rw [rowsL, List.getElem?_eq_none hge, List.getElem?_eq_none (by simp; omega)]
  · intro i hi
    have hlt : i < led.length := by omega
    exact (hq i _ (List.getElem?_eq_getElem hlt)).2
theorem rows_addr {n : Nat} {as : Nat → Addr} {vs : Nat → List Value} {cc : Nat → Nat} : (rowsL n as vs cc).map (·.1) = (List.range n).map as := by
  simp [rowsL, List.map_map, Function.comp_def]
theorem rows_refs {n : Nat} {as : Nat → Addr} {vs : Nat → List Value} {cc : Nat → Nat} : ((rowsL n as vs cc).map fun p => Value.ref p.1) = (List.range n).map fun i => .ref (as i) := by
  simp [rowsL, List.map_map, Function.comp_def]
theorem rows_inj {n : Nat} {as : Nat → Addr} (h : ((List.range n).map as).Nodup) {i j : Nat} (hi : i < n) (hj : j < n) (e : as i = as j) : i = j := by
  have h2 := (List.pairwise_iff_getElem).mp h
  have g : ∀ k (hk : k < n), ((List.range n).map as)[k]'(by simp; omega) = as k := by intro k hk; simp
  rcases Nat.lt_trichotomy i j with hl | hl | hl
  · exact absurd (by rw [g i hi, g j hj, e]) (h2 i j (by simp; omega) (by simp; omega) hl)
  · exact hl
  · exact absurd (by rw [g i hi, g j hj, e]) (h2 j i (by simp; omega) (by simp; omega) hl)
end Mine
end
/-! part L15 -/
section
open PySem PySem.W PyProof.Rows PySem.Calls PySem.Spec
set_option maxRecDepth 100000
namespace Mine
def updV (vs : Nat → List Value) (i : Nat) (ws : List Value) : Nat → List Value := fun j => if j = i then ws else vs j
theorem upd_list {as : Nat → Addr} {vs : Nat → List Value} {cc : Nat → Nat} {i : Nat} {ws : List Value} {R : List (Addr × Obj)} (hR : ∀ q ∈ R, q.1 ≠ as i) : ∀ js : List Nat, (js.map as).Nodup → i ∈ js →
    Upd (as i) (listOf (vs i).toArray (cc i)) (listOf ws.toArray (cc i)) ((js.map fun j => (as j, listOf (vs j).toArray (cc j))) ++ R) ((js.map fun j => (as j, listOf (updV vs i ws j).toArray (cc j))) ++ R)
  | [], _, h => nomatch h
  | j :: js, hn, h => by
    rw [List.map_cons, List.nodup_cons] at hn
    by_cases e : j = i
    · subst e
      have h1 : ∀ k ∈ js, as k ≠ as j := fun k hk he => hn.1 (List.mem_map.mpr ⟨k, hk, he⟩)
      have h2 : (js.map fun k => (as k, listOf (updV vs j ws k).toArray (cc k))) = js.map fun k => (as k, listOf (vs k).toArray (cc k)) := by
        refine List.map_congr_left fun k hk => ?_
        have : k ≠ j := fun he => h1 k hk (by rw [he])
        rw [updV, if_neg this]
      show Upd _ _ _ ((as j, _) :: (js.map _ ++ R)) ((as j, listOf (updV vs j ws j).toArray (cc j)) :: ((js.map fun k => (as k, listOf (updV vs j ws k).toArray (cc k))) ++ R))
      rw [h2]
      have h3 : updV vs j ws j = ws := by rw [updV, if_pos rfl]
      rw [h3]
      refine Upd.head fun p hp => ?_
      rcases List.mem_append.mp hp with hp | hp
      · obtain ⟨k, hk, rfl⟩ := List.mem_map.mp hp
        exact h1 k hk
      · exact hR p hp
    · have hm : i ∈ js := by
        rcases List.mem_cons.mp h with h | h
        · exact absurd h.symm e
        · exact h
      have h3 : updV vs i ws j = vs j := by rw [updV, if_neg e]
      show Upd _ _ _ ((as j, listOf (vs j).toArray (cc j)) :: (js.map _ ++ R)) ((as j, listOf (updV vs i ws j).toArray (cc j)) :: ((js.map fun k => (as k, listOf (updV vs i ws k).toArray (cc k))) ++ R))
      rw [h3]
      refine Upd.tail ?_ (upd_list hR js hn.2 hm)
      intro he
      exact hn.1 (List.mem_map.mpr ⟨i, hm, he.symm⟩)
theorem rows_upd {n : Nat} {as : Nat → Addr} {vs : Nat → List Value} {cc : Nat → Nat} {i : Nat} {ws : List Value} {R : List (Addr × Obj)} {a : Addr × Obj} (hi : i < n) (hn : ((List.range n).map as).Nodup) (hR : ∀ q ∈ R, q.1 ≠ as i) (ha : a.1 ≠ as i) :
    Upd (as i) (listOf (vs i).toArray (cc i)) (listOf ws.toArray (cc i)) (a :: (rowsL n as vs cc ++ R)) (a :: (rowsL n as (updV vs i ws) cc ++ R)) :=
  Upd.tail ha (upd_list hR _ hn (List.mem_range.mpr hi))
def nearN (i j : Nat) : Int := min ((max i j : Nat) - (min i j : Nat) : Int) (6 - (max i j : Nat) + (min i j : Nat) : Int)
def stageRow (one other i : Nat) : List Int := (List.range 6).map fun j => if i ≠ j ∧ (max i j < one ∨ (max i j = one ∧ min i j < other)) then nearN i j else 0
theorem stage_len (a b i : Nat) : (stageRow a b i).length = 6 := by simp [stageRow]
theorem stage_zero (i : Nat) : stageRow 0 0 i = [0, 0, 0, 0, 0, 0] := by
  simp [stageRow, List.range, List.range.loop]
theorem stage_step : ∀ one < 6, ∀ other < one, ∀ i < 6, stageRow one (other + 1) i = if i = one then (stageRow one other i).set other (nearN one other) else if i = other then (stageRow one other i).set one (nearN one other) else stageRow one other i := by decide +kernel
theorem stage_next : ∀ one < 6, ∀ i < 6, stageRow (one + 1) 0 i = stageRow one one i := by decide +kernel
theorem stage_end : ∀ i < 6, stageRow 6 0 i = nearM.getD i [] := by decide +kernel
end Mine
end
/-! part L16 -/
section
open PySem PySem.W PyProof.Rows PySem.Calls PySem.Spec
set_option maxRecDepth 100000
namespace Mine
/-- the second while, by lengths -/
def postG (a b : Str) : Nat → Int → Int
  | 0, k => k
  | n + 1, k => if (a.length : Int) + k > 0 ∧ (b.length : Int) + k > 0 ∧ (Txt.item a (k - 1) == Txt.item b (k - 1)) = true then postG a b n (k - 1) else k
theorem postG_eq (a b : Str) : ∀ n k, k ≤ 0 → postG a b n k = postF a b n k
  | 0, _, _ => rfl
  | n + 1, k, h => by
    have h1 := cut_len a k h
    have h2 := cut_len b k h
    have e : ((a.length : Int) + k > 0 ∧ (b.length : Int) + k > 0 ∧ (Txt.item a (k - 1) == Txt.item b (k - 1)) = true) = ((cut a k).length ≠ 0 ∧ (cut b k).length ≠ 0 ∧ (Txt.item a (k - 1) == Txt.item b (k - 1)) = true) := by
      have e1 : ((a.length : Int) + k > 0) = ((cut a k).length ≠ 0) := propext ⟨fun _ => by omega, fun _ => by omega⟩
      have e2 : ((b.length : Int) + k > 0) = ((cut b k).length ≠ 0) := propext ⟨fun _ => by omega, fun _ => by omega⟩
      rw [e1, e2]
    rw [postG, postF]
    by_cases hc : (cut a k).length ≠ 0 ∧ (cut b k).length ≠ 0 ∧ (Txt.item a (k - 1) == Txt.item b (k - 1)) = true
    · rw [if_pos hc, if_pos (by rw [e]; exact hc)]; exact postG_eq a b n (k - 1) (by omega)
    · rw [if_neg hc, if_neg (by rw [e]; exact hc)]
/-- what the two whiles leave -/
def mids (a b : Str) : Str × Str :=
  let x := Txt.slice a (some (preF a b (a.length + 1) 0)) none
  let y := Txt.slice b (some (preF a b (a.length + 1) 0)) none
  let k := postG x y (x.length + 1) 0
  (cut x k, cut y k)
theorem lev_mids {a b : Str} {c : Int} (h : (a == b) = false) : lev a b c = core (mids a b).1 (mids a b).2 c := by
  rw [lev, if_neg (by rw [h]; exact Bool.false_ne_true), mid]
  simp only [mids]
  rw [postG_eq _ _ _ _ (by omega)]
/-- the heads that two lists share, taken off -/
def offPre : List Nat → List Nat → List Nat × List Nat
  | a :: x, b :: y => if a = b then offPre x y else (a :: x, b :: y)
  | x, y => (x, y)
def coresL (one other h1 h2 : Nat) : List Nat × List Nat :=
  let p := offPre (wordLit one ++ 38 :: ampLit h1) (wordLit other ++ 38 :: ampLit h2)
  let q := offPre p.1.reverse p.2.reverse
  (q.1.reverse, q.2.reverse)
def farV (one other h1 h2 : Nat) : Int := 8 * (((h1 : Int) - (h2 : Int)).natAbs : Int) + min ((one : Int) - other) (6 - (one : Int) + other)
def midOk (g one other h1 h2 : Nat) : Bool :=
  mids (litT one h1 g) (litT other h2 g) == (⟨(coresL one other h1 h2).1.toArray⟩, ⟨(coresL one other h1 h2).2.toArray⟩) && !(litT one h1 g == litT other h2 g)
def midAll (g one : Nat) : Bool := (List.range one).all fun other => (List.range 3).all fun h1 => (List.range 3).all fun h2 => midOk g one other h1 h2
def coreOk (one other h1 h2 : Nat) : Bool :=
  let c := coresL one other h1 h2
  core ⟨c.1.toArray⟩ ⟨c.2.toArray⟩ 19 == farV one other h1 h2
def coreAll (one : Nat) : Bool := (List.range one).all fun other => (List.range 3).all fun h1 => (List.range 3).all fun h2 => coreOk one other h1 h2
theorem ma01 : midAll 0 1 = true := by decide +kernel
theorem ma02 : midAll 0 2 = true := by decide +kernel
theorem ma03 : midAll 0 3 = true := by decide +kernel
theorem ma04 : midAll 0 4 = true := by decide +kernel
theorem ma05 : midAll 0 5 = true := by decide +kernel
theorem ma11 : midAll 1 1 = true := by decide +kernel
theorem ma12 : midAll 1 2 = true := by decide +kernel
theorem ma13 : midAll 1 3 = true := by decide +kernel
theorem ma14 : midAll 1 4 = true := by decide +kernel
theorem ma15 : midAll 1 5 = true := by decide +kernel
theorem ma21 : midAll 2 1 = true := by decide +kernel
theorem ma22 : midAll 2 2 = true := by decide +kernel
theorem ma23 : midAll 2 3 = true := by decide +kernel
theorem ma24 : midAll 2 4 = true := by decide +kernel
theorem ma25 : midAll 2 5 = true := by decide +kernel
theorem ma31 : midAll 3 1 = true := by decide +kernel
theorem ma32 : midAll 3 2 = true := by decide +kernel
theorem ma33 : midAll 3 3 = true := by decide +kernel
theorem ma34 : midAll 3 4 = true := by decide +kernel
theorem ma35 : midAll 3 5 = true := by decide +kernel
theorem ma41 : midAll 4 1 = true := by decide +kernel
theorem ma42 : midAll 4 2 = true := by decide +kernel
theorem ma43 : midAll 4 3 = true := by decide +kernel
theorem ma44 : midAll 4 4 = true := by decide +kernel
theorem ma45 : midAll 4 5 = true := by decide +kernel
theorem ma51 : midAll 5 1 = true := by decide +kernel
theorem ma52 : midAll 5 2 = true := by decide +kernel
theorem ma53 : midAll 5 3 = true := by decide +kernel
theorem ma54 : midAll 5 4 = true := by decide +kernel
theorem ma55 : midAll 5 5 = true := by decide +kernel
theorem ca1 : coreAll 1 = true := by decide +kernel
theorem ca2 : coreAll 2 = true := by decide +kernel
theorem ca3 : coreAll 3 = true := by decide +kernel
theorem ca4 : coreAll 4 = true := by decide +kernel
theorem ca5 : coreAll 5 = true := by decide +kernel
theorem mid_all {g one other h1 h2 : Nat} (hg : g < 6) (ho : one < 6) (h : other < one) (a : h1 < 3) (b : h2 < 3) : midOk g one other h1 h2 = true := by
  have : midAll g one = true := by
    have h1 := five_cases ho (Nat.ne_of_gt (Nat.lt_of_le_of_lt (Nat.zero_le _) h))
    have h2 : g = 0 ∨ g = 1 ∨ g = 2 ∨ g = 3 ∨ g = 4 ∨ g = 5 := six_cases hg
    rcases h2 with rfl | rfl | rfl | rfl | rfl | rfl <;> rcases h1 with rfl | rfl | rfl | rfl | rfl
    · exact ma01
    · exact ma02
    · exact ma03
    · exact ma04
    · exact ma05
    · exact ma11
    · exact ma12
    · exact ma13
    · exact ma14
    · exact ma15
    · exact ma21
    · exact ma22
    · exact ma23
    · exact ma24
    · exact ma25
    · exact ma31
    · exact ma32
    · exact ma33
    · exact ma34
    · exact ma35
    · exact ma41
    · exact ma42
    · exact ma43
    · exact ma44
    · exact ma45
    · exact ma51
    · exact ma52
    · exact ma53
    · exact ma54
    · exact ma55
  have h1' := List.all_eq_true.mp this other (List.mem_range.mpr h)
  have h2' := List.all_eq_true.mp h1' h1 (List.mem_range.mpr a)
  exact List.all_eq_true.mp h2' h2 (List.mem_range.mpr b)
theorem core_all {one other h1 h2 : Nat} (ho : one < 6) (h : other < one) (a : h1 < 3) (b : h2 < 3) : coreOk one other h1 h2 = true := by
  have : coreAll one = true := by
    have h1 := five_cases ho (Nat.ne_of_gt (Nat.lt_of_le_of_lt (Nat.zero_le _) h))
    rcases h1 with rfl | rfl | rfl | rfl | rfl
    · exact ca1
    · exact ca2
    · exact ca3
    · exact ca4
    · exact ca5
  have h1' := List.all_eq_true.mp this other (List.mem_range.mpr h)
  have h2' := List.all_eq_true.mp h1' h1 (List.mem_range.mpr a)
  exact List.all_eq_true.mp h2' h2 (List.mem_range.mpr b)
theorem text_lit {k h : Nat} {g : Int} (hk : k < 6) (hh : h < 3) (h0 : 0 ≤ g) (h1 : g < 6) : wordF k ++ escN (h + 1) (signS g) = litT k h g.toNat := by
  rw [escN_lit hh h0 h1, word_lit k hk, litT, escLit]
  have : ∀ a b : List Nat, (⟨a.toArray⟩ : Str) ++ (⟨b.toArray⟩ : Str) = ⟨(a ++ b).toArray⟩ := by
    intro a b
    show (⟨a.toArray ++ b.toArray⟩ : Str) = _
    simp
  rw [this]
theorem far_lit {g one other h1 h2 : Nat} (hg : g < 6) (ho : one < 6) (h : other < one) (a : h1 < 3) (b : h2 < 3) : lev (litT one h1 g) (litT other h2 g) 19 = farV one other h1 h2 := by
  have m := mid_all hg ho h a b
  have c := core_all ho h a b
  unfold midOk at m
  rw [Bool.and_eq_true] at m
  have m1 := eq_of_beq m.1
  have m2 : (litT one h1 g == litT other h2 g) = false := by simpa using m.2
  rw [lev_mids m2, m1]
  unfold coreOk at c
  exact eq_of_beq c
theorem far_law {one other h1 h2 : Nat} {g : Int} (h0 : 0 ≤ g) (hg : g < 6) (ho : one < 6) (h : other < one) (a : h1 < 3) (b : h2 < 3) : lev (wordF one ++ escN (h1 + 1) (signS g)) (wordF other ++ escN (h2 + 1) (signS g)) 19 = farV one other h1 h2 := by
  rw [text_lit ho a h0 hg, text_lit (by omega) b h0 hg]
  exact far_lit (by omega) ho h a b
end Mine
end
/-! part L18 -/
section
open PySem PySem.SeqAt PySem.W PyProof.Rows PySem.Calls PySem.Spec
open AutoSeq1 (wpAny_loadPart')
open MeetsSeq MeetsSeq2 MeetsSeq3 SeqRoads2
set_option maxRecDepth 100000
namespace Mine
def ltL (x a y c : Int) : Bool := if x == y then (if a == c then false else decide (a < c)) else decide (x < y)
theorem eqi {A : Around} {s : Shared} (a b : Int) (t u : Tok) : EqAt A s (.int a t) (.int b u) (a == b) := EqAt.int_int (A := A) (s := s) a t b u
theorem rc_lt {prog : Program} {w : World} {A : Around} {E : Value → Shared → Prop} {s : Shared} {Q : Value → Shared → Prop} {a b : Int} {t u : Tok} (h : Q (.bool (decide (a < b))) s) : wpAny (model prog w) A (richCompare .Lt (.int a t) (.int b u)) Q E s :=
  (PyProof.Rows.lt_int (prog := prog) (w := w) (A := A) (E := E) (s := s) (Q := Q) h)
section
variable (l b : Addr) (items items2 : Array Value) (x a y c : Int) (t1 t2 u1 u2 : Tok) (hz : items.size = 2) (hz2 : items2.size = 2) (p0 : items[0]? = some (.int x t1)) (p1 : items[1]? = some (.int a t2)) (q0 : items2[0]? = some (.int y u1)) (q1 : items2[1]? = some (.int c u2)) (n n2 : Nat) (dd dd2 : Option Addr) (sl sl2 : Array (Option Value))
include hz hz2 p0 p1 q0 q1
theorem lt_loop2 : Meets (Builtin.«list.__eq__.loop» ⟨[.ref l, .ref b, rawInt (2 : Nat), rawInt 0], []⟩)
      (fun _ R s => s.heap.get? l = some { cls := .type "list", dict := dd, data := .seq items n, slots := sl } ∧ s.heap.get? b = some { cls := .type "list", dict := dd2, data := .seq items2 n2, slots := sl2 } ∧
        R (.ok (.ret (.bool false))) s) := by
  intro prog w A R s h
  obtain ⟨hp, g, d, tk, os⟩ := s; obtain ⟨hl, hb, h⟩ := h
  wp_walk using wpAny_loadPart' hl, wpAny_loadPart' hb
  have h1 : items[((2 : Nat) : Int).toNat]? = none := by show items[2]? = none; simp [hz]
  have h2 : items2[((2 : Nat) : Int).toNat]? = none := by show items2[2]? = none; simp [hz2]
  rw [h1, h2]
  wp_walk using wpAny_loadPart' hl, wpAny_loadPart' hb
  show R (.ok (.ret (.bool (decide (items.size < items2.size))))) _
  rw [hz, hz2]
  exact h
theorem lt_loop1 : Meets (Builtin.«list.__eq__.loop» ⟨[.ref l, .ref b, rawInt (1 : Nat), rawInt 0], []⟩)
      (fun _ R s => s.heap.get? l = some { cls := .type "list", dict := dd, data := .seq items n, slots := sl } ∧ s.heap.get? b = some { cls := .type "list", dict := dd2, data := .seq items2 n2, slots := sl2 } ∧
        R (.ok (.ret (.bool (if a == c then false else decide (a < c))))) s) := by
  intro prog w A R s h
  obtain ⟨hp, g, d, tk, os⟩ := s; obtain ⟨hl, hb, h⟩ := h
  wp_walk using wpAny_loadPart' hl, wpAny_loadPart' hb
  have h1 : items[((1 : Nat) : Int).toNat]? = some (.int a t2) := p1
  have h2 : items2[((1 : Nat) : Int).toNat]? = some (.int c u2) := q1
  have hc : (((1 : Nat) : Int) + 1) = ((2 : Nat) : Int) := rfl
  rw [h1, h2]
  refine wpAny_bind (eqi a c t2 u2 prog w _ _ ?_)
  cases hb' : (a == c) with
  | true =>
    rw [hb', if_pos rfl] at h
    wp_walk
    rw [hc]
    exact ⟨plainId_quiet plain_eq_loop _, codeAny_builtin entry_eq_loop (by
      rw [Around.under_plainId plain_eq_loop _]
      exact lt_loop2 l b items items2 x a y c t1 t2 u1 u2 hz hz2 p0 p1 q0 q1 n n2 dd dd2 sl sl2 prog w A R _ ⟨hl, hb, h⟩)⟩
  | false =>
    rw [hb', if_neg Bool.false_ne_true] at h
    wp_walk using wpAny_loadPart' hl, wpAny_loadPart' hb
    rw [h1, h2]
    refine wpAny_bind (rc_lt ?_)
    wp_walk
    exact h
theorem lt_loop0 : Meets (Builtin.«list.__eq__.loop» ⟨[.ref l, .ref b, rawInt (0 : Nat), rawInt 0], []⟩)
      (fun _ R s => s.heap.get? l = some { cls := .type "list", dict := dd, data := .seq items n, slots := sl } ∧ s.heap.get? b = some { cls := .type "list", dict := dd2, data := .seq items2 n2, slots := sl2 } ∧
        R (.ok (.ret (.bool (ltL x a y c)))) s) := by
  intro prog w A R s h
  obtain ⟨hp, g, d, tk, os⟩ := s; obtain ⟨hl, hb, h⟩ := h
  unfold ltL at h
  wp_walk using wpAny_loadPart' hl, wpAny_loadPart' hb
  have h1 : items[((0 : Nat) : Int).toNat]? = some (.int x t1) := p0
  have h2 : items2[((0 : Nat) : Int).toNat]? = some (.int y u1) := q0
  have hc : (((0 : Nat) : Int) + 1) = ((1 : Nat) : Int) := rfl
  rw [h1, h2]
  refine wpAny_bind (eqi x y t1 u1 prog w _ _ ?_)
  cases hb' : (x == y) with
  | true =>
    rw [hb', if_pos rfl] at h
    wp_walk
    rw [hc]
    exact ⟨plainId_quiet plain_eq_loop _, codeAny_builtin entry_eq_loop (by
      rw [Around.under_plainId plain_eq_loop _]
      exact lt_loop1 l b items items2 x a y c t1 t2 u1 u2 hz hz2 p0 p1 q0 q1 n n2 dd dd2 sl sl2 prog w A R _ ⟨hl, hb, h⟩)⟩
  | false =>
    rw [hb', if_neg Bool.false_ne_true] at h
    wp_walk using wpAny_loadPart' hl, wpAny_loadPart' hb
    rw [h1, h2]
    refine wpAny_bind (rc_lt ?_)
    wp_walk
    exact h
theorem list_ltAt : Meets (Builtin.«list.__lt__» ⟨[.ref l, .ref b], []⟩)
      (fun _ R s => s.heap.get? l = some { cls := .type "list", dict := dd, data := .seq items n, slots := sl } ∧ s.heap.get? b = some { cls := .type "list", dict := dd2, data := .seq items2 n2, slots := sl2 } ∧
        R (.ok (.ret (.bool (ltL x a y c)))) s) := by
  intro prog w A R s h
  obtain ⟨hp, g, d, tk, os⟩ := s; obtain ⟨hl, hb, h⟩ := h
  have f3 := AutoSeq1.sub_list_list
  wp_walk using wpAny_loadPart' hl, wpAny_loadPart' hb
  exact ⟨plainId_quiet plain_eq_loop _, codeAny_builtin entry_eq_loop (by
    rw [Around.under_plainId plain_eq_loop _]
    exact lt_loop0 l b items items2 x a y c t1 t2 u1 u2 hz hz2 p0 p1 q0 q1 n n2 dd dd2 sl sl2 prog w A R _ ⟨hl, hb, h⟩)⟩
end
theorem lists_lt {prog : Program} {w : World} {A : Around} {E : Value → Shared → Prop} {s : Shared} {Q : Value → Shared → Prop} {l b : Addr} {x a y c : Int} {t1 t2 u1 u2 : Tok} (hl : s.heap.IsList l #[.int x t1, .int a t2]) (hb : s.heap.IsList b #[.int y u1, .int c u2]) (hu : A.units < cLine)
    (h : Q (.bool (ltL x a y c)) s) : wpAny (model prog w) A (compareOp .Lt (.ref l) (.ref b)) Q E s := by
  obtain ⟨⟨cls, dd, data, sl⟩, ho, hc, n, hd⟩ := id hl
  obtain ⟨⟨cls2, dd2, data2, sl2⟩, ho2, hc2, n2, hd2⟩ := id hb
  simp only at hc hd hc2 hd2
  subst hc hd hc2 hd2
  exact richCompare_meets_room (op := .Lt) ⟨_, ho, rfl⟩ ⟨_, ho2, rfl⟩ F.slot_list_lt F.entry_list_lt (F.args_list_lt_2 _ _) (list_ltAt l b _ _ x a y c t1 t2 u1 u2 rfl rfl rfl rfl rfl rfl n n2 dd dd2 sl sl2)
    ⟨ho, ho2, show Value.bool (ltL x a y c) ≠ Value.notImplemented ∧ Q (.bool (ltL x a y c)) s from ⟨(fun x => nomatch x), h⟩⟩ hu
end Mine
end
/-! part L19 -/
section
open PySem PySem.SeqAt PySem.W PyProof.Rows PySem.Calls PySem.Spec
open MeetsSeq MeetsSeq2 MeetsSeq3 SeqRoads2
set_option maxRecDepth 100000
namespace Mine
theorem key_lists {prog : Program} {w : World} {A : Around} {E : Value → Shared → Prop} {s : Shared} {Q : Bool → Shared → Prop} {l b : Addr} {x a y c : Int} {t1 t2 u1 u2 : Tok} (hl : s.heap.IsList l #[.int x t1, .int a t2]) (hb : s.heap.IsList b #[.int y u1, .int c u2]) (hu : A.units < cLine)
    (h : Q (ltL x a y c) s) : wpAny (model prog w) A (keyLt' oneType' (.ref l) (.ref b)) Q E s := by
  obtain ⟨⟨cls, dd, data, sl⟩, ho, hc, n, hd⟩ := id hl
  obtain ⟨⟨cls2, dd2, data2, sl2⟩, ho2, hc2, n2, hd2⟩ := id hb
  simp only at hc hd hc2 hd2
  subst hc hd hc2 hd2
  rw [keyLt'_oneType, oneLt'_eq]
  simp only [if_true]
  refine wpAny_bind (wpAny_cRoomFor hu ?_)
  refine wpAny_bind (wpAny_callSpecialIfBound?_slot ⟨_, ho, rfl⟩ F.slot_list_lt ?_)
  refine call_meets F.slot_list_lt ⟨_, ho, rfl⟩ F.entry_list_lt (F.args_list_lt_2 _ _) (list_ltAt l b _ _ x a y c t1 t2 u1 u2 rfl rfl rfl rfl rfl rfl n n2 dd dd2 sl sl2) ⟨ho, ho2, ?_⟩
  exact wpAny_truthy_bool h
def kRun {α : Type} (lt : Nat → Nat → Bool) : KasT α → α
  | .ret a => a
  | .ask i j k => kRun lt (k (lt i j))
def kOk {α : Type} (n : Nat) (lt : Nat → Nat → Bool) : KasT α → Bool
  | .ret _ => true
  | .ask i j k => decide (i < n) && decide (j < n) && kOk n lt (k (lt i j))
theorem k_wp {α : Type} {cmp : Nat → Nat → (Bool → Shared → Prop) → Shared → Prop} {Q : α → Shared → Prop} {s : Shared} (n : Nat) (lt : Nat → Nat → Bool) (hc : ∀ i j C, i < n → j < n → C (lt i j) s → cmp i j C s) : ∀ t : KasT α, kOk n lt t = true → Q (kRun lt t) s → t.kasWp cmp Q s
  | .ret _, _, h => h
  | .ask i j k, ho, h => by
    simp only [kOk, Bool.and_eq_true, decide_eq_true_eq] at ho
    exact hc i j _ ho.1.1 ho.1.2 (k_wp n lt hc (k (lt i j)) ho.2 h)
/-- who comes first: the lower, then the earlier -/
def hLt (hs : List Nat) (i j : Nat) : Bool := if hs.getD i 0 = hs.getD j 0 then decide (i < j) else decide (hs.getD i 0 < hs.getD j 0)
def sortP (hs : List Nat) : List Nat := (kRun (hLt hs) (kas_sort 6)).toList
def hsF (xs : List Int) : List Nat := [hgt xs 0, hgt xs 1, hgt xs 2, hgt xs 3, hgt xs 4, hgt xs 5]
def sortOk (hs : List Nat) : Bool := kOk 6 (hLt hs) (kas_sort 6) && decide ((sortP hs).length = 6) && (sortP hs).all (fun i => decide (i < 6))
theorem so0 : ∀ b < 3, ∀ c < 3, ∀ d < 3, ∀ e < 3, ∀ f < 3, sortOk [0, b, c, d, e, f] = true := by decide +kernel
theorem so1 : ∀ b < 3, ∀ c < 3, ∀ d < 3, ∀ e < 3, ∀ f < 3, sortOk [1, b, c, d, e, f] = true := by decide +kernel
theorem so2 : ∀ b < 3, ∀ c < 3, ∀ d < 3, ∀ e < 3, ∀ f < 3, sortOk [2, b, c, d, e, f] = true := by decide +kernel
theorem hgt_lt (xs : List Int) (k : Nat) : hgt xs k < 3 := by rw [hgt, Int.fmod_eq_emod_of_nonneg _ (by decide)]; omega
theorem sort_ok (xs : List Int) : sortOk (hsF xs) = true := by
  have h : ∀ a < 3, ∀ b < 3, ∀ c < 3, ∀ d < 3, ∀ e < 3, ∀ f < 3, sortOk [a, b, c, d, e, f] = true := by
    intro a ha
    have : a = 0 ∨ a = 1 ∨ a = 2 := three_cases ha
    rcases this with rfl | rfl | rfl
    · exact so0
    · exact so1
    · exact so2
  exact h _ (hgt_lt xs 0) _ (hgt_lt xs 1) _ (hgt_lt xs 2) _ (hgt_lt xs 3) _ (hgt_lt xs 4) _ (hgt_lt xs 5)
theorem hs_at (xs : List Int) {i : Nat} (hi : i < 6) : (hsF xs).getD i 0 = hgt xs i := by
  have : i = 0 ∨ i = 1 ∨ i = 2 ∨ i = 3 ∨ i = 4 ∨ i = 5 := six_cases hi
  rcases this with rfl | rfl | rfl | rfl | rfl | rfl <;> rfl
end Mine
end
/-! part L20 -/
section
open PySem PySem.W PyProof.Rows PySem.Calls PySem.Spec
set_option maxRecDepth 100000
namespace Mine
def ordP (hs : List Nat) : List Nat := (sortP hs).reverse
abbrev intsOf (l : List Nat) : List Int := l.map fun (n : Nat) => (n : Int)
def ringT (S : Nat) : List Nat := [[1, 2, 4, 5], [0, 2, 3, 5], [0, 1, 3, 4], [1, 2, 4, 5], [0, 2, 3, 5], [0, 1, 3, 4]].getD S []
theorem ring_lit : ∀ S < 6, ringL ((S : Nat) : Int) = (ringT S).map fun (n : Nat) => (n : Int) := by decide +kernel
/-- how often above and below change round the ring -/
def chg (a b c d : Bool) : Nat := (if a != d then 1 else 0) + (if b != a then 1 else 0) + (if c != b then 1 else 0) + (if d != c then 1 else 0)
def countT (S : Nat) (rk : List Nat) : Int :=
  let r := rk.getD S 0
  1 - Int.fdiv (chg (decide (rk.getD ((ringT S).getD 0 0) 0 < r)) (decide (rk.getD ((ringT S).getD 1 0) 0 < r)) (decide (rk.getD ((ringT S).getD 2 0) 0 < r)) (decide (rk.getD ((ringT S).getD 3 0) 0 < r)) : Nat) 2
theorem turns_len (b : Nat → Bool) : ((List.range 4).filter fun i => b i != b ((i + 3) % 4)).length = chg (b 0) (b 1) (b 2) (b 3) := by
  show ([0, 1, 2, 3].filter _).length = _
  simp only [List.filter_cons, List.filter_nil]
  show (if (b 0 != b 3) = true then _ else _ : List Nat).length = _
  unfold chg
  cases b 0 <;> cases b 1 <;> cases b 2 <;> cases b 3 <;> rfl
def piecesT (ps : List Nat) : Int := piecesF (intsOf ps)
def rankT (P : List Nat) : List Nat := (List.range 6).map fun i => P.idxOf i
def totT (P : List Nat) (rk : List Nat) : Nat → Int
  | 0 => 0
  | n + 1 => totT P rk n + countT (P.getD n 0) rk
def endB (P : List Nat) : Bool := ((List.range 5).all fun k => totT P (rankT P) (k + 1) == piecesT (P.take (k + 1)) - piecesT (P.drop (k + 1)) + 1) && totT P (rankT P) 6 == 2
def ordOk (P : List Nat) : Bool := PyData.layable0 (.list ((intsOf P).map .int)) && (List.range 6).all (fun i => P.contains i) && decide (P.length = 6) && P.all (fun x => decide (x < 6))
def lawOk (hs : List Nat) : Bool := ordOk (ordP hs) && endB (ordP hs)
theorem lo00 : ∀ c < 3, ∀ d < 3, ∀ e < 3, ∀ f < 3, lawOk [0, 0, c, d, e, f] = true := by decide +kernel
theorem lo01 : ∀ c < 3, ∀ d < 3, ∀ e < 3, ∀ f < 3, lawOk [0, 1, c, d, e, f] = true := by decide +kernel
theorem lo02 : ∀ c < 3, ∀ d < 3, ∀ e < 3, ∀ f < 3, lawOk [0, 2, c, d, e, f] = true := by decide +kernel
theorem lo10 : ∀ c < 3, ∀ d < 3, ∀ e < 3, ∀ f < 3, lawOk [1, 0, c, d, e, f] = true := by decide +kernel
theorem lo11 : ∀ c < 3, ∀ d < 3, ∀ e < 3, ∀ f < 3, lawOk [1, 1, c, d, e, f] = true := by decide +kernel
theorem lo12 : ∀ c < 3, ∀ d < 3, ∀ e < 3, ∀ f < 3, lawOk [1, 2, c, d, e, f] = true := by decide +kernel
theorem lo20 : ∀ c < 3, ∀ d < 3, ∀ e < 3, ∀ f < 3, lawOk [2, 0, c, d, e, f] = true := by decide +kernel
theorem lo21 : ∀ c < 3, ∀ d < 3, ∀ e < 3, ∀ f < 3, lawOk [2, 1, c, d, e, f] = true := by decide +kernel
theorem lo22 : ∀ c < 3, ∀ d < 3, ∀ e < 3, ∀ f < 3, lawOk [2, 2, c, d, e, f] = true := by decide +kernel
theorem law_ok (xs : List Int) : lawOk (hsF xs) = true := by
  have h : ∀ a < 3, ∀ b < 3, ∀ c < 3, ∀ d < 3, ∀ e < 3, ∀ f < 3, lawOk [a, b, c, d, e, f] = true := by
    intro a ha b hb
    have h1 : a = 0 ∨ a = 1 ∨ a = 2 := three_cases ha
    have h2 : b = 0 ∨ b = 1 ∨ b = 2 := three_cases hb
    rcases h1 with rfl | rfl | rfl <;> rcases h2 with rfl | rfl | rfl
    · exact lo00
    · exact lo01
    · exact lo02
    · exact lo10
    · exact lo11
    · exact lo12
    · exact lo20
    · exact lo21
    · exact lo22
  exact h _ (hgt_lt xs 0) _ (hgt_lt xs 1) _ (hgt_lt xs 2) _ (hgt_lt xs 3) _ (hgt_lt xs 4) _ (hgt_lt xs 5)
theorem idx_cast (i : Nat) : ∀ l : List Nat, (intsOf l).idxOf (i : Int) = l.idxOf i
  | [] => rfl
  | a :: l => by
    have ih := idx_cast i l
    show List.idxOf _ ((a : Int) :: intsOf l) = _
    rw [List.idxOf_cons, List.idxOf_cons, ih]
    have : ((a : Int) == (i : Int)) = (a == i) := by rw [Bool.eq_iff_iff, beq_iff_eq, beq_iff_eq]; omega
    rw [this]
theorem getD_cast (l : List Nat) (i : Nat) : (intsOf l).getD i 0 = ((l.getD i 0 : Nat) : Int) := by
  rw [List.getD_eq_getElem?_getD, List.getD_eq_getElem?_getD, List.getElem?_map]
  cases l[i]? <;> rfl
theorem above_cast {S : Nat} (hS : S < 6) (rk : List Nat) (i : Nat) : aboveB (S : Int) (intsOf rk) i = decide (rk.getD ((ringT S).getD i 0) 0 < rk.getD S 0) := by
  rw [aboveB, ring_lit S hS, getD_cast (ringT S) i, Int.toNat_natCast, Int.toNat_natCast, getD_cast, getD_cast]
  rw [Bool.eq_iff_iff, decide_eq_true_iff, decide_eq_true_iff]; omega
theorem countF_eq {S : Nat} (hS : S < 6) (rk : List Nat) : countF (S : Int) (intsOf rk) = countT S rk := by
  have h := turns_len (aboveB (S : Int) (intsOf rk))
  rw [above_cast hS, above_cast hS, above_cast hS, above_cast hS] at h
  show 1 - Int.fdiv (((List.range 4).filter (turnsP (S : Int) (intsOf rk))).length : Int) 2 = _
  have e : turnsP (S : Int) (intsOf rk) = fun i => aboveB (S : Int) (intsOf rk) i != aboveB (S : Int) (intsOf rk) ((i + 3) % 4) := rfl
  rw [e, h]
  rfl
end Mine
end
section
open PySem PySem.W PyProof.Rows PySem.Calls PySem.Spec
local macro_rules | `(tactic| kst_in) => `(tactic| ((try dsimp only); (try simp only [List.nil_append, List.cons_append]); kcj_in))
local macro_rules | `(tactic| walk_at "eval BoolOp") => `(tactic| (exfalso; omega))
local macro_rules | `(tactic| walk_at "subscriptTail Name Slice str ref") => `(tactic| ((with_reducible show wpAny _ _ (subscriptTail _ (Expr.Slice none (some (Expr.BoolOp _ _ _)) none _) _ _) _ _ _); (with_reducible rename Fr _ _ _ _ => F'); (with_reducible rename News _ _ _ _ => N'); refine slice_strN_nn_len (s := ⟨_, _, _, _, _⟩) F' N' ?_; intro _ _ _ _ _ _))
/-! part T3a -/
section
open PySem PySem.W PyProof.Rows PySem.Calls PySem.Spec
namespace Mine
set_option maxRecDepth 100000
set_option maxHeartbeats 8000000
set_option rowWalk.seconds 0
set_option linter.unusedVariables false
set_option linter.unusedSimpArgs false
theorem sub_succ {n k : Nat} (h : k < n + 1) : n + 1 - k = (n + 1 - (k + 1)) + 1 := by rw [Nat.sub_add_eq, Nat.sub_add_cancel (Nat.sub_pos_of_lt h)]
theorem pre_turn {a b : Str} {k : Nat} {r : Int} (h : preF a b (a.length + 1 - k) (k : Int) = r) (hlt : k < a.length)
    (h1 : ((Txt.slice a (some (k : Int)) none).length : Int) ≠ 0) (h2 : ((Txt.slice b (some (k : Int)) none).length : Int) ≠ 0) (h3 : (Txt.item a (k : Int) == Txt.item b (k : Int)) = true) :
    preF a b (a.length + 1 - (k + 1)) ((k + 1 : Nat) : Int) = r := by
  rw [sub_succ (Nat.lt_succ_of_lt hlt), preF, if_pos ⟨fun q => h1 (by rw [q]; rfl), fun q => h2 (by rw [q]; rfl), h3⟩] at h
  exact h
theorem pre_exit {a b : Str} {k : Nat} {r : Int} (h : preF a b (a.length + 1 - k) (k : Int) = r) (hk : k ≤ a.length)
    (hx : ((Txt.slice a (some (k : Int)) none).length : Int) = 0 ∨ ((Txt.slice b (some (k : Int)) none).length : Int) = 0 ∨ (Txt.item a (k : Int) == Txt.item b (k : Int)) = false) : r = (k : Int) := by
  rw [sub_succ (Nat.lt_succ_of_le hk), preF, if_neg (fun q => by rcases hx with hx | hx | hx; exact q.1 (Int.ofNat.inj hx); exact q.2.1 (Int.ofNat.inj hx); rw [hx] at q; cases q.2.2)] at h
  exact h.symm
theorem pre_lt {x : Str} {k : Nat} (hk : k ≤ x.length) (f : (0 ≤ (k : Int) → (k : Int) ≤ x.length → ((Txt.slice x (some (k : Int)) none).length : Int) = x.length - k) ∧ ((x.length : Int) ≤ k → ((Txt.slice x (some (k : Int)) none).length : Int) = 0)) (h : ((Txt.slice x (some (k : Int)) none).length : Int) ≠ 0) : k < x.length :=
  Nat.lt_of_le_of_ne hk fun e => h (f.2 (Int.ofNat_le.mpr (Nat.le_of_eq e.symm)))
theorem post_turn {a b : Str} {k : Nat} {r : Int} (h : postF a b (a.length + 1 - k) (-(k : Int)) = r) (hlt : k < a.length)
    (h1 : ((cut a (-(k : Int))).length : Int) ≠ 0) (h2 : ((cut b (-(k : Int))).length : Int) ≠ 0) (h3 : (Txt.item a (-(k : Int) - 1) == Txt.item b (-(k : Int) - 1)) = true) :
    postF a b (a.length + 1 - (k + 1)) (-(k : Int) - 1) = r := by
  rw [sub_succ (Nat.lt_succ_of_lt hlt), postF, if_pos ⟨fun q => h1 (by rw [q]; rfl), fun q => h2 (by rw [q]; rfl), h3⟩] at h
  exact h
theorem neg_succ (k : Nat) : -(k : Int) - 1 = -((k + 1 : Nat) : Int) := by omega
theorem postF_le (a b : Str) : ∀ (n : Nat) (k : Int), k ≤ 0 → postF a b n k ≤ 0
  | 0, k, h => h
  | n + 1, k, h => by
    rw [postF]
    split
    · exact postF_le a b n (k - 1) (by omega)
    · exact h
theorem post_exit {a b : Str} {k : Nat} {r : Int} (h : postF a b (a.length + 1 - k) (-(k : Int)) = r) (hk : k ≤ a.length)
    (hx : ((cut a (-(k : Int))).length : Int) = 0 ∨ ((cut b (-(k : Int))).length : Int) = 0 ∨ (Txt.item a (-(k : Int) - 1) == Txt.item b (-(k : Int) - 1)) = false) : r = -(k : Int) := by
  rw [sub_succ (Nat.lt_succ_of_le hk), postF, if_neg (fun q => by rcases hx with hx | hx | hx; exact q.1 (Int.ofNat.inj hx); exact q.2.1 (Int.ofNat.inj hx); rw [hx] at q; cases q.2.2)] at h
  exact h.symm
theorem inner_turn {bc a : Str} {k d res mn r1 r2 : Int} {row : List Int} {pre : List Int} {i : Int × Int × Int × List Int} (h : (d, res, mn, row) = pre.foldl (innerStep bc a) i) (hl : row.length = a.length) (e1 : r1 = min res (row.getD k.toNat 0)) (e2 : r2 = min (r1 + 2) (d + subst bc (Txt.item a k))) :
    (r2 < mn → (row.getD k.toNat 0, r2, r2, row.set k.toNat r2) = (pre ++ [k]).foldl (innerStep bc a) i ∧ (row.set k.toNat r2).length = a.length) ∧
    (¬ r2 < mn → (row.getD k.toNat 0, r2, mn, row.set k.toNat r2) = (pre ++ [k]).foldl (innerStep bc a) i ∧ (row.set k.toNat r2).length = a.length) := by
  subst e1
  rw [List.foldl_append, ← h]
  refine ⟨fun q => ⟨?_, by rw [List.length_set]; exact hl⟩, fun q => ⟨?_, by rw [List.length_set]; exact hl⟩⟩
  · show _ = innerStep bc a (d, res, mn, row) k
    simp only [innerStep, ← e2, if_pos q]
  · show _ = innerStep bc a (d, res, mn, row) k
    simp only [innerStep, ← e2, if_neg q]
theorem ints_get : ∀ (vs : List Value) (ns : List Int), vs.length = ns.length → (∀ (j : Nat) (v : Value), vs[j]? = some v → ∃ t, v = .int (ns.getD j 0) t) → IntsAre vs ns
  | [], [], _, _ => .nil
  | v :: r, n :: ns, e, h => by
    obtain ⟨t, ht⟩ := h 0 v rfl
    have : v = .int n t := by simpa using ht
    subst this
    exact .cons _ _ (ints_get r ns (by simpa using e) fun j v hj => by simpa using h (j + 1) v (by simpa using hj))
theorem list_step2 {prog : Program} {w : World} {A : Around} {E : Value → Shared → Prop} {s : Shared} {h₀ : Heap} {L r : Addr} {m : Str → Option Value} {news : List (Addr × Obj)} {t₀ u₀ v₀ : Tok} {n : Nat} {Q : Value → Shared → Prop}
    (hh : A.handled = none) (F : Fr h₀ L s.heap m) (N : News h₀ L s.heap news) (hr : IsRange s.heap r 2 (2 * ((n : Int) + 1)) 2 t₀ u₀ v₀) (hz : n ≤ 1000)
    (h : ∀ D us c h' tk, Fr h₀ L h' m → News h₀ L h' ((D, listOf (List.toArray us) c) :: news) → (∀ p ∈ news, p.1 < D) → IntsAre us ((List.range n).map fun (i : Nat) => ((2 : Int) + (i : Int) * 2 : Int)) → Q (.ref D) { s with heap := h', toks := tk }) :
    wpAny (model prog w) A (call (.type "list") [.ref r]) Q E s := by
  have hn : Builtin.Range.rangeSize 2 (2 * ((n : Int) + 1)) 2 = (n : Int) := by
    unfold Builtin.Range.rangeSize
    simp only [show (2 : Int) > 0 by decide, if_true]
    split <;> omega
  refine call_list_range hh hr (by
    unfold Builtin.Range.small
    rw [hn]
    have h2 : (2 : Int) > 0 := by decide
    generalize hk : (2 : Int) = k at *
    simp only [Builtin.Range.rangeFitsLong, Bool.and_eq_true, Bool.or_eq_true, decide_eq_true_eq, beq_iff_eq, h2, if_true]
    subst hk
    omega) hn (by omega) fun h' tk acc c hk hD hI => ?_
  have hD' : h'.get? s.heap.objs.size = some (listOf (List.toArray acc.toList) c) := by
    rw [Array.toArray_toList]
    exact hD
  refine h _ acc.toList c h' tk (F.keeps hk) (news_pushed F N hk hD' rfl) (fun p hp => Heap.lt_size (N p hp).1) (ints_get _ _ (by simp [hI.1]) fun j v hj => ?_)
  have hj' : acc[j]? = some v := by rw [← hj, Array.getElem?_toList]
  obtain ⟨t, rfl⟩ := hI.2 j v hj'
  have hlt : j < n := by rw [← hI.1]; exact (Array.getElem?_eq_some_iff.mp hj').1
  exact ⟨t, by simp [List.getD_eq_getElem?_getD, hlt]⟩
theorem less_succ {n k : Nat} (h : k < n) : n + 1 - (k + 1) < n + 1 - k := Nat.sub_lt_sub_left (Nat.lt_succ_of_lt h) (Nat.lt_succ_self k)
theorem low0 {x : Str} (h : ((Txt.slice x none none).length : Int) ≠ 0) : 0 < x.length := by
  rw [sl_all] at h; omega
theorem post_len {x : Str} {k : Nat} (h : -((k + 1 : Nat) : Int) < 0) (h2 : k + 1 ≤ x.length) : ((Txt.slice x none (some (-((k + 1 : Nat) : Int)))).length : Int) = x.length + -((k + 1 : Nat) : Int) := by
  rw [sl_neg x _ h]; omega
theorem lowk {x : Str} {n k : Nat} (s : (n : Int) = x.length + -(k : Int)) (h : (n : Int) ≠ 0) : k < x.length := by omega
theorem u2 (w : World) (L' : Addr) (news : List (Addr × Obj)) (a b : Str) (c : Int) (ta tb tc tp : Tok) (ha : a.length ≤ 40) (hb : b.length ≤ 40) : LvOk w L' (levDef 2) [(Str.ofString "a", .str a ta), (Str.ofString "b", .str b tb), (Str.ofString "max_cost", .int c tc), (Str.ofString "pre", .int 0 tp)] (news) (fun g s Q => ∀ (t : Tok) (u' : Str → Option Value) (h' : Heap) (tk' : Nat), Fr g L' h' (kstB u' [(Str.ofString "a", .str a ta), (Str.ofString "b", .str b tb), (Str.ofString "max_cost", .int c tc), (Str.ofString "pre", .int (preF a b (a.length + 1) 0) t)]) → News g L' h' (news) → Q .next { s with heap := h', toks := tk' }) := by
  dsimp only [LvOk]
  intro mean mg mb dp un gd cn cs L aa ccd cl otr base g s Q E u B X T hcs hdp hun F N hE done
  show wpAny _ (Around.deeper _ (envOf _ ⟨_, _, _, _, _⟩ _ _ _)) (exec (Stmt.While _ _ _ _) (envOf _ ⟨_, _, _, _, _⟩ _ _ _)) _ _ _
  revert X
  k_fill
  intro X
  (try dsimp only)
  generalize hr : preF a b (a.length + 1) 0 = r at done
  (with_unfolding_all refine my_while (σ := Nat × Tok) (fun _ => news) (fun (q : Nat × Tok) => [(Str.ofString "a", .str a ta), (Str.ofString "b", .str b tb), (Str.ofString "max_cost", .int c tc), (Str.ofString "pre", .int ((q.1 : Int)) q.2)]) (fun q => q.1 ≤ a.length ∧ preF a b (a.length + 1 - q.1) (q.1 : Int) = r) (fun q => a.length + 1 - q.1) (0, tp) F N (by kst_all) ⟨Nat.zero_le _, hr⟩ ?_ hE)
  rintro ⟨k, t⟩ u1 h1 tk1 ⟨k1, k2⟩ F1 N1
  (try dsimp only at k1 k2)
  (try dsimp only at F1)
  clear F N hE hr
  repeat' (first | (k_unfold; (try dsimp only)) | (k_end; wrow_close) | ((fail_if_success (first | (with_reducible show Q _ _) | (with_reducible show WPost _ _ _ _ _ _ _ _ _ _ _))); walk1) | (dsimp only; (fail_if_success (first | (with_reducible show Q _ _) | (with_reducible show WPost _ _ _ _ _ _ _ _ _ _ _))); walk1) | (leave1; (try dsimp only)) | fail "no step")
  · have hl := pre_lt k1 (by assumption) (by assumption)
    have q := pre_turn k2 hl (by assumption) (by assumption) (by assumption)
    exact w_end (k + 1, _) (by assumption) (by assumption) (by (try dsimp only); kst_all) (by kcj_in) ⟨hl, q⟩ (less_succ hl)
  · have e := pre_exit k2 k1 (.inr (.inr (by assumption)))
    rw [e] at done
    exact done _ _ _ _ (fr_see (by assumption) (by kst_all)) (by assumption)
  · have e := pre_exit k2 k1 (.inr (.inl (by assumption)))
    rw [e] at done
    exact done _ _ _ _ (fr_see (by assumption) (by kst_all)) (by assumption)
  · have e := pre_exit k2 k1 (.inl (by assumption))
    rw [e] at done
    exact done _ _ _ _ (fr_see (by assumption) (by kst_all)) (by assumption)
theorem u6 (w : World) (L' : Addr) (news : List (Addr × Obj)) (a b : Str) (c : Int) (ta tb tc tp : Tok) (ha : a.length ≤ 40) (hb : b.length ≤ 40) : LvOk w L' (levDef 6) [(Str.ofString "a", .str a ta), (Str.ofString "b", .str b tb), (Str.ofString "max_cost", .int c tc), (Str.ofString "post", .int 0 tp)] (news) (fun g s Q => ∀ (t : Tok) (u' : Str → Option Value) (h' : Heap) (tk' : Nat), Fr g L' h' (kstB u' [(Str.ofString "a", .str a ta), (Str.ofString "b", .str b tb), (Str.ofString "max_cost", .int c tc), (Str.ofString "post", .int (postF a b (a.length + 1) 0) t)]) → News g L' h' (news) → Q .next { s with heap := h', toks := tk' }) := by
  dsimp only [LvOk]
  intro mean mg mb dp un gd cn cs L aa ccd cl otr base g s Q E u B X T hcs hdp hun F N hE done
  show wpAny _ (Around.deeper _ (envOf _ ⟨_, _, _, _, _⟩ _ _ _)) (exec (Stmt.While _ _ _ _) (envOf _ ⟨_, _, _, _, _⟩ _ _ _)) _ _ _
  revert X
  k_fill
  intro X
  (try dsimp only)
  generalize hr : postF a b (a.length + 1) 0 = r at done
  (with_unfolding_all refine my_while (σ := Nat × Tok) (fun _ => news) (fun (q : Nat × Tok) => [(Str.ofString "a", .str a ta), (Str.ofString "b", .str b tb), (Str.ofString "max_cost", .int c tc), (Str.ofString "post", .int (-(q.1 : Int)) q.2)]) (fun q => q.1 ≤ a.length ∧ q.1 ≤ b.length ∧ postF a b (a.length + 1 - q.1) (-(q.1 : Int)) = r) (fun q => a.length + 1 - q.1) (0, tp) F N (by kst_all) ⟨Nat.zero_le _, Nat.zero_le _, hr⟩ ?_ hE)
  rintro ⟨k, t⟩ u1 h1 tk1 ⟨k1, k4, k2⟩ F1 N1
  (try dsimp only at k1 k2 k4)
  (try dsimp only at F1)
  clear F N hE hr
  cases k with
  | zero =>
    replace F1 : Fr g L' h1 (kstB u1 [(Str.ofString "a", .str a ta), (Str.ofString "b", .str b tb), (Str.ofString "max_cost", .int c tc), (Str.ofString "post", .int 0 t)]) := F1
    have sA := sl_all a
    have sB := sl_all b
    have cA : cut a (-((0 : Nat) : Int)) = Txt.slice a none none := rfl
    have cB : cut b (-((0 : Nat) : Int)) = Txt.slice b none none := rfl
    repeat' (first | (k_unfold; (try dsimp only)) | (k_end; wrow_close) | ((fail_if_success (first | (with_reducible show Q _ _) | (with_reducible show WPost _ _ _ _ _ _ _ _ _ _ _))); walk1) | (dsimp only; (fail_if_success (first | (with_reducible show Q _ _) | (with_reducible show WPost _ _ _ _ _ _ _ _ _ _ _))); walk1) | (leave1; (try dsimp only)) | fail "no step")
    · have l1 := low0 (x := a) (by assumption)
      have l2 := low0 (x := b) (by assumption)
      have q := post_turn k2 l1 (by rw [cA]; assumption) (by rw [cB]; assumption) (by assumption)
      exact w_end (0 + 1, _) (by assumption) (by assumption) (by (try dsimp only); (try rw [← neg_succ]); kst_all) (by kcj_in) ⟨(show 0 + 1 ≤ a.length from l1), (show 0 + 1 ≤ b.length from l2), by rw [← neg_succ]; exact q⟩ (less_succ l1)
    · have e := post_exit k2 k1 (.inr (.inr (by assumption)))
      rw [e] at done
      exact done _ _ _ _ (fr_see (by assumption) (by kst_all)) (by assumption)
    · have e := post_exit k2 k1 (.inr (.inl (by rw [cB]; assumption)))
      rw [e] at done
      exact done _ _ _ _ (fr_see (by assumption) (by kst_all)) (by assumption)
    · have e := post_exit k2 k1 (.inl (by rw [cA]; assumption))
      rw [e] at done
      exact done _ _ _ _ (fr_see (by assumption) (by kst_all)) (by assumption)
  | succ k =>
    have hk : -((k + 1 : Nat) : Int) < 0 := by omega
    have sA := post_len hk k1
    have sB := post_len hk k4
    have cA : cut a (-((k + 1 : Nat) : Int)) = Txt.slice a none (some (-((k + 1 : Nat) : Int))) := if_neg (Int.ne_of_lt hk)
    have cB : cut b (-((k + 1 : Nat) : Int)) = Txt.slice b none (some (-((k + 1 : Nat) : Int))) := if_neg (Int.ne_of_lt hk)
    repeat' (first | (k_unfold; (try dsimp only)) | (k_end; wrow_close) | ((fail_if_success (first | (with_reducible show Q _ _) | (with_reducible show WPost _ _ _ _ _ _ _ _ _ _ _))); walk1) | (dsimp only; (fail_if_success (first | (with_reducible show Q _ _) | (with_reducible show WPost _ _ _ _ _ _ _ _ _ _ _))); walk1) | (leave1; (try dsimp only)) | fail "no step")
    · have l1 := lowk sA (by assumption)
      have l2 := lowk sB (by assumption)
      have q := post_turn k2 l1 (by rw [cA]; assumption) (by rw [cB]; assumption) (by assumption)
      exact w_end ((k + 1) + 1, _) (by assumption) (by assumption) (by (try dsimp only); (try rw [← neg_succ]); kst_all) (by kcj_in) ⟨(show (k + 1) + 1 ≤ a.length from l1), (show (k + 1) + 1 ≤ b.length from l2), by rw [← neg_succ]; exact q⟩ (less_succ l1)
    · have e := post_exit k2 k1 (.inr (.inr (by assumption)))
      rw [e] at done
      exact done _ _ _ _ (fr_see (by assumption) (by kst_all)) (by assumption)
    · have e := post_exit k2 k1 (.inr (.inl (by rw [cB]; assumption)))
      rw [e] at done
      exact done _ _ _ _ (fr_see (by assumption) (by kst_all)) (by assumption)
    · have e := post_exit k2 k1 (.inl (by rw [cA]; assumption))
      rw [e] at done
      exact done _ _ _ _ (fr_see (by assumption) (by kst_all)) (by assumption)
end Mine
end
/-! part T3 -/
section
open PySem PySem.W PyProof.Rows PySem.Calls PySem.Spec
namespace Mine
set_option maxRecDepth 100000
set_option maxHeartbeats 8000000
set_option rowWalk.seconds 0
set_option linter.unusedVariables false
set_option linter.unusedSimpArgs false
structure LS where
  d : Int
  r : Int
  m : Int
  row : List Int
  vs : List Value
  td : Tok
  tr : Tok
  tm : Tok
/-- statement i of the body of the outer loop; of the inner one -/
def levOut (i : Nat) : Stmt := (match levDef 15 with | .For _ _ b _ _ => b | _ => []).getD i (.Pass ⟨0, 0, 0, 0⟩)
theorem ks_succ (i : Nat) : rangeKs 0 (i + 1) = rangeKs 0 i ++ [(i : Int)] := by
  simp [rangeKs, List.range_succ]
theorem vin (w : World) (L' : Addr) (news : List (Addr × Obj)) (a b bc : Str) (c kN : Int) (D : Addr) (cD : Nat) (ta tb tc tk0 tbc : Tok) (row0 : List Int) (q0 : LS) (ha : a.length ≤ 40) (hbc : bc.length = 1) (hne : ∀ p ∈ news, p.1 ≠ D) (i0 : IntsAre q0.vs q0.row) (l0 : q0.row.length = a.length) (f0 : (q0.d, q0.r, q0.m, q0.row) = (kN * 2, kN * 2, 9223372036854775807, row0)) : LvOk w L' (levOut 3) [(Str.ofString "a", .str a ta), (Str.ofString "b", .str b tb), (Str.ofString "max_cost", .int c tc), (Str.ofString "row", .ref D), (Str.ofString "bindex", .int kN tk0), (Str.ofString "bchar", .str bc tbc), (Str.ofString "distance", .int q0.d q0.td), (Str.ofString "result", .int q0.r q0.tr), (Str.ofString "minimum", .int q0.m q0.tm)] ((D, listOf q0.vs.toArray cD) :: news) (fun g s Q => ∀ (q' : LS) (u' : Str → Option Value) (h' : Heap) (tk' : Nat), (IntsAre q'.vs q'.row ∧ q'.row.length = a.length ∧ (q'.d, q'.r, q'.m, q'.row) = (rangeKs 0 a.length).foldl (innerStep bc a) (kN * 2, kN * 2, 9223372036854775807, row0)) → Fr g L' h' (kstB u' [(Str.ofString "a", .str a ta), (Str.ofString "b", .str b tb), (Str.ofString "max_cost", .int c tc), (Str.ofString "row", .ref D), (Str.ofString "bindex", .int kN tk0), (Str.ofString "bchar", .str bc tbc), (Str.ofString "distance", .int q'.d q'.td), (Str.ofString "result", .int q'.r q'.tr), (Str.ofString "minimum", .int q'.m q'.tm)]) → News g L' h' ((D, listOf q'.vs.toArray cD) :: news) → Q .next { s with heap := h', toks := tk' }) := by
  dsimp only [LvOk]
  intro mean mg mb dp un gd cn cs L aa ccd cl otr base g s Q E u B X T hcs hdp hun F N hE done
  show wpAny _ (Around.deeper _ (envOf _ ⟨_, _, _, _, _⟩ _ _ _)) (exec (Stmt.For _ _ _ _ _) (envOf _ ⟨_, _, _, _, _⟩ _ _ _)) _ _ _
  revert X
  k_fill
  intro X
  (try dsimp only)
  (with_unfolding_all refine For_invVF F rfl rfl ?_ (by intro _; rfl) hE)
  repeat' (first | (k_unfold; (try dsimp only)) | (k_end; wrow_close) | ((fail_if_success ((with_reducible show wpAny _ _ (pyIter _) _ _ _))); walk1) | (dsimp only; (fail_if_success ((with_reducible show wpAny _ _ (pyIter _) _ _ _))); walk1) | (leave1; (try dsimp only)) | fail "no step")
  rename Fr _ _ _ _ => F2
  rename News _ _ _ _ => N2
  rename IsRange _ _ _ _ _ _ _ _ => rgX
  (with_unfolding_all refine my_range (σ := LS) a.length (fun q => (D, listOf q.vs.toArray cD) :: news) (fun q => [(Str.ofString "a", .str a ta), (Str.ofString "b", .str b tb), (Str.ofString "max_cost", .int c tc), (Str.ofString "row", .ref D), (Str.ofString "bindex", .int kN tk0), (Str.ofString "bchar", .str bc tbc), (Str.ofString "distance", .int q.d q.td), (Str.ofString "result", .int q.r q.tr), (Str.ofString "minimum", .int q.m q.tm)]) (fun i q => IntsAre q.vs q.row ∧ q.row.length = a.length ∧ (q.d, q.r, q.m, q.row) = (rangeKs 0 i).foldl (innerStep bc a) (kN * 2, kN * 2, 9223372036854775807, row0)) q0 rfl rgX (by omega) (by omega) F2 (cb_drop N2 (by kcj_in)) (by kst_all) ⟨i0, l0, f0⟩ (by intro q; exact (by decide +kernel : ([Str.ofString "a", Str.ofString "b", Str.ofString "max_cost", Str.ofString "row", Str.ofString "bindex", Str.ofString "bchar", Str.ofString "distance", Str.ofString "result", Str.ofString "minimum"] : List Str).all (fun z => !(z == Str.ofString "index")) = true)) ?_ ?_)
  · rintro ⟨d, r, m, row, vs, td, tr, tm⟩ i t u9 hh tk own hi hoff ⟨j1, j2, j3⟩ F3 N3
    dsimp only at j1 j2 j3
    clear F2 N2 rgX done hE i0 l0 f0
    (try clear F)
    (try clear N)
    replace N3 : News g L' hh ((D, listOf vs.toArray cD) :: (news ++ own)) := N3
    have hne2 : ∀ p ∈ news ++ own, p.1 ≠ D := by
      intro p hp
      rcases List.mem_append.mp hp with h1 | h1
      · exact hne p h1
      · exact hoff p h1 D List.mem_cons_self
    clear hoff hne
    (try dsimp only at F3)
    (try simp only [List.cons_append, List.nil_append] at F3)
    repeat' (first | (k_unfold; (try dsimp only)) | (k_end; wrow_close) | ((fail_if_success ((with_reducible show wpAny _ _ (call (Value.ref 56) _ _) _ _ _))); walk1) | (dsimp only; (fail_if_success ((with_reducible show wpAny _ _ (call (Value.ref 56) _ _) _ _ _))); walk1) | (leave1; (try dsimp only)) | fail "no step")
    k_dflt (refine' sub_ok _ _ _ _ _ _ hbc (by omega)   _ _ _ _ _ _ _ _ _ _ _ _ _ _ _ _ _ _ _ _ ?zk1 ?zk2 ?zk3 ?zk4 ?zk5 ?zkK ?zkd ?zku ?zkR; (case zk1 => k_asm); (case zk2 => k_asm); (case zk3 => k_asm); (case zk4 => k_asm); (case zk5 => k_asm); (case zkK => first | exact rfl | assumption); (case zkd => ktr_room); (case zku => ktr_units))
    intro t7 h7 tk7 F7 N7
    (try dsimp only)
    (try k_fold)
    repeat' (first | (k_unfold; (try dsimp only)) | (k_end; wrow_close) | ((fail_if_success ((with_reducible show wpAny _ _ (subscriptTail _ _ (Value.ref _) _) _ _ _))); walk1) | (dsimp only; (fail_if_success ((with_reducible show wpAny _ _ (subscriptTail _ _ (Value.ref _) _) _ _ _))); walk1) | (leave1; (try dsimp only)) | fail "no step")
    refine item_int (ns := row) (news_list (vs := vs) (by assumption) List.mem_cons_self) j1 (by omega) (by omega) (by omega) ?_
    intro t1
    (try dsimp only)
    repeat' (first | (k_unfold; (try dsimp only)) | (k_end; wrow_close) | ((fail_if_success ((with_reducible show wpAny _ _ (call (Value.builtin "min") _ _) _ _ _))); walk1) | (dsimp only; (fail_if_success ((with_reducible show wpAny _ _ (call (Value.builtin "min") _ _) _ _ _))); walk1) | (leave1; (try dsimp only)) | fail "no step")
    refine min_mine rfl (by assumption) (by assumption) ?_
    intro r9 t9 h9 tk9 e9 F9 N9
    (try dsimp only)
    repeat' (first | (k_unfold; (try dsimp only)) | (k_end; wrow_close) | ((fail_if_success ((with_reducible show wpAny _ _ (call (Value.builtin "min") _ _) _ _ _))); walk1) | (dsimp only; (fail_if_success ((with_reducible show wpAny _ _ (call (Value.builtin "min") _ _) _ _ _))); walk1) | (leave1; (try dsimp only)) | fail "no step")
    refine min_mine rfl (by assumption) (by assumption) ?_
    intro r10 t10 h10 tk10 e10 F10 N10
    (try dsimp only)
    repeat' (first | (k_unfold; (try dsimp only)) | (k_end; wrow_close) | ((fail_if_success ((with_reducible show wpAny _ _ (setItem _ _ _) _ _ _))); walk1) | (dsimp only; (fail_if_success ((with_reducible show wpAny _ _ (setItem _ _ _) _ _ _))); walk1) | (leave1; (try dsimp only)) | fail "no step")
    rename Fr _ _ _ _ => F7
    rename News _ _ _ _ => N7
    refine ksa_set F7 N7 (Upd.head hne2) j1 (by omega) (by omega) (by omega) ?_
    intro h8 F8 N8 i8 _ _
    have it := inner_turn j3 j2 (by assumption) (by assumption)
    (try dsimp only)
    repeat' (first | (k_unfold; (try dsimp only)) | (k_end; wrow_close) | ((fail_if_success ((with_reducible show InvPostN _ _ _ _ _ _ _ _ _))); walk1) | (dsimp only; (fail_if_success ((with_reducible show InvPostN _ _ _ _ _ _ _ _ _))); walk1) | (leave1; (try dsimp only)) | fail "no step")
    · have q := it.1 (by assumption)
      exact my_end ⟨_, _, _, _, _, _, _, _⟩ (by assumption) (by assumption) (by (try dsimp only); kst_all) rfl (by kcj_in) (by kcj_in) ⟨i8, q.2, by rw [ks_succ]; exact q.1⟩
    · have q := it.2 (by assumption)
      exact my_end ⟨_, _, _, _, _, _, _, _⟩ (by assumption) (by assumption) (by (try dsimp only); kst_all) rfl (by kcj_in) (by kcj_in) ⟨i8, q.2, by rw [ks_succ]; exact q.1⟩
  · intro q' u9 hh9 tk9 hP F3 N3
    exact done _ _ _ _ hP F3 N3
theorem out_step {a b : Str} {c d res mn r0 r : Int} {k : Nat} {row row' : List Int} (ho : outer a b c (b.length - k) (k : Int) row r0 = r) (hk : k < b.length)
    (h : (d, res, mn, row') = (rangeKs 0 a.length).foldl (innerStep (Txt.item b (k : Int)) a) ((k : Int) * 2, (k : Int) * 2, 9223372036854775807, row)) :
    (¬ c < mn → outer a b c (b.length - (k + 1)) ((k + 1 : Nat) : Int) row' res = r) ∧ (c < mn → c + 1 = r) := by
  have e : b.length - k = (b.length - (k + 1)) + 1 := by omega
  rw [e, outer] at ho
  simp only [inner, ← h] at ho
  refine ⟨fun q => ?_, fun q => ?_⟩
  · rw [if_neg q] at ho
    exact ho
  · rw [if_pos q] at ho
    exact ho
theorem vout (w : World) (L' : Addr) (news : List (Addr × Obj)) (a b : Str) (c : Int) (D : Addr) (cD : Nat) (ta tb tc tr : Tok) (row0 : List Int) (vs0 : List Value) (ha : a.length ≤ 40) (hb : b.length ≤ 40) (hne : ∀ p ∈ news, p.1 ≠ D) (i0 : IntsAre vs0 row0) (l0 : row0.length = a.length) : LvOk w L' (levDef 15) [(Str.ofString "a", .str a ta), (Str.ofString "b", .str b tb), (Str.ofString "max_cost", .int c tc), (Str.ofString "row", .ref D), (Str.ofString "result", .int 0 tr)] ((D, listOf vs0.toArray cD) :: news) (fun g s Q => (∀ (t : Tok) (u' : Str → Option Value) (h' : Heap) (tk' : Nat), Fr g L' h' (kstB u' [(Str.ofString "result", .int (outer a b c b.length 0 row0 0) t)]) → News g L' h' news → Q .next { s with heap := h', toks := tk' }) ∧ (∀ (t : Tok) (u' : Str → Option Value) (h' : Heap) (tk' : Nat), c + 1 = outer a b c b.length 0 row0 0 → Fr g L' h' (kstB u' []) → News g L' h' news → Q (.ret (.int (c + 1) t)) { s with heap := h', toks := tk' })) := by
  dsimp only [LvOk]
  intro mean mg mb dp un gd cn cs L aa ccd cl otr base g s Q E u B X T hcs hdp hun F N hE done
  show wpAny _ (Around.deeper _ (envOf _ ⟨_, _, _, _, _⟩ _ _ _)) (exec (Stmt.For _ _ _ _ _) (envOf _ ⟨_, _, _, _, _⟩ _ _ _)) _ _ _
  revert X
  k_fill
  intro X
  (try dsimp only)
  obtain ⟨done, ret⟩ := done
  (with_unfolding_all refine For_invVF F rfl rfl ?_ (by intro _; rfl) hE)
  repeat' (first | (k_unfold; (try dsimp only)) | (k_end; wrow_close) | ((fail_if_success ((with_reducible show wpAny _ _ (pyIter _) _ _ _))); walk1) | (dsimp only; (fail_if_success ((with_reducible show wpAny _ _ (pyIter _) _ _ _))); walk1) | (leave1; (try dsimp only)) | fail "no step")
  rename Fr _ _ _ _ => F2
  rename News _ _ _ _ => N2
  rename IsRange _ _ _ _ _ _ _ _ => rgX
  (with_unfolding_all refine my_range (σ := List Int × List Value × Int × Tok) b.length (fun q => (D, listOf q.2.1.toArray cD) :: news) (fun q => [(Str.ofString "a", .str a ta), (Str.ofString "b", .str b tb), (Str.ofString "max_cost", .int c tc), (Str.ofString "row", .ref D), (Str.ofString "result", .int q.2.2.1 q.2.2.2)]) (fun i q => IntsAre q.2.1 q.1 ∧ q.1.length = a.length ∧ outer a b c (b.length - i) (i : Int) q.1 q.2.2.1 = outer a b c b.length 0 row0 0) (row0, vs0, 0, tr) rfl rgX (by omega) (by omega) F2 (cb_drop N2 (by kcj_in)) (by kst_all) ⟨i0, l0, rfl⟩ (by intro q; exact (by decide +kernel : ([Str.ofString "a", Str.ofString "b", Str.ofString "max_cost", Str.ofString "row", Str.ofString "result"] : List Str).all (fun z => !(z == Str.ofString "bindex")) = true)) ?_ ?_)
  · rintro ⟨row, vs, r, tr1⟩ i t u9 hh tk own hi hoff ⟨j1, j2, j3⟩ F3 N3
    dsimp only at j1 j2 j3
    clear F2 N2 rgX done i0 l0
    (try clear F)
    (try clear N)
    replace N3 : News g L' hh ((D, listOf vs.toArray cD) :: (news ++ own)) := N3
    have hne2 : ∀ p ∈ news ++ own, p.1 ≠ D := by
      intro p hp
      rcases List.mem_append.mp hp with h1 | h1
      · exact hne p h1
      · exact hoff p h1 D List.mem_cons_self
    clear hoff hne
    (try dsimp only at F3)
    (try simp only [List.cons_append, List.nil_append] at F3)
    repeat' (first | (k_unfold; (try dsimp only)) | (k_end; wrow_close) | ((fail_if_success ((with_reducible show wpAny _ _ (execs (Stmt.For _ _ _ _ _ :: _) _) _ _ _))); walk1) | (dsimp only; (fail_if_success ((with_reducible show wpAny _ _ (execs (Stmt.For _ _ _ _ _ :: _) _) _ _ _))); walk1) | (leave1; (try dsimp only)) | fail "no step")
    dsimp only
    rename Fr _ _ _ _ => F7
    rename News _ _ _ _ => N7
    refine wpAny_execs_cons (vin w L' (news ++ own) a b (Txt.item b (i : Int)) c i D cD ta tb tc t _ row ⟨_, _, _, row, vs, _, _, _⟩ ha (by omega) hne2 j1 j2 rfl mean mg mb dp un gd cn cs L aa ccd cl otr base g _ _ _ _ B X T hcs hdp hun (fr_see F7 (by (try dsimp only); kst_all)) N7 hE ?_)
    rintro ⟨d2, r2, m2, row2, vs2, td2, tr2, tm2⟩ u2 h2 tk2 ⟨g1, g2, g3⟩ F8 N8
    dsimp only at g1 g2 g3 F8 N8
    have stp := out_step j3 hi g3
    (try clear F7)
    (try clear N7)
    repeat' (first | (k_unfold; (try dsimp only)) | (k_end; wrow_close) | ((fail_if_success ((with_reducible show InvPostN _ _ _ _ _ _ _ _ _))); walk1) | (dsimp only; (fail_if_success ((with_reducible show InvPostN _ _ _ _ _ _ _ _ _))); walk1) | (leave1; (try dsimp only)) | fail "no step")
    · exact ret _ _ _ _ (stp.2 (by assumption)) (fr_see F8 (List.forall_mem_nil _)) (cb_drop N8 (by kcj_in))
    · exact my_end (row2, vs2, r2, _) (by assumption) (by assumption) (by (try dsimp only); kst_all) rfl (by kcj_in) (by kcj_in) ⟨g1, g2, stp.1 (by assumption)⟩
  · rintro ⟨row, vs, r, tr1⟩ u9 hh9 tk9 ⟨j1, j2, j3⟩ F3 N3
    dsimp only at j3
    rw [Nat.sub_self, outer] at j3
    rw [← j3] at done
    exact done _ _ _ _ (fr_see F3 (by kst_all)) (cb_drop N3 (fun p hp => List.mem_cons_of_mem _ hp))
theorem lev_ok (w : World) (a b : Str) (c : Int) (ta tb tc : Tok) (news : List (Addr × Obj)) (ha : a.length ≤ 40) (hb : b.length ≤ 40) : Claim 8 w 63 news [.str a ta, .str b tb, .int c tc] (RetV news (fun t => .int (lev a b c) t)) := by
  dsimp only [Claim, RetV]
  k_fill
  intros
  rename_i hret
  refine wpAny_call ?_
  k_dflt cell_enter
  rename Fr _ _ _ _ => F0
  obtain ⟨u0, F1⟩ := fr_hide [(Str.ofString "a", .str a ta), (Str.ofString "b", .str b tb), (Str.ofString "max_cost", .int c tc)] F0 (by kst_all)
  clear F0
  repeat' (first | (k_unfold; (try dsimp only)) | (k_end; wrow_close) | ((fail_if_success ((with_reducible show wpAny _ _ (execs (Stmt.While _ _ _ _ :: _) _) _ _ _))); walk1) | (dsimp only; (fail_if_success ((with_reducible show wpAny _ _ (execs (Stmt.While _ _ _ _ :: _) _) _ _ _))); walk1) | (leave1; (try dsimp only)) | fail "no step")
  · exact cb_retI hret (by rw [lev, if_pos (by assumption)]) (by assumption) (by assumption)
  (try dsimp only)
  refine wpAny_execs_cons (u2 w _ _ a b c ta tb tc _ ha hb _ _ _ _ _ _ _ _ _ _ _ _ _ _ _ _ _ _ _ (by assumption) (by assumption) (by assumption) (by assumption) (by assumption) (by assumption) (fr_see (by assumption) (by kst_all)) (by assumption) (by with_unfolding_all passes_own) ?_)
  intro t0 u0' h0 tk0 F0 N0
  (try dsimp only)
  (try k_fold)
  have eL : lev a b c = mid (Txt.slice a (some (preF a b (a.length + 1) 0)) none) (Txt.slice b (some (preF a b (a.length + 1) 0)) none) c := by rw [lev, if_neg (by simp [*])]
  rw [eL] at hret
  clear eL
  repeat' (first | (k_unfold; (try dsimp only)) | (k_end; wrow_close) | ((fail_if_success ((with_reducible show wpAny _ _ (execs (Stmt.While _ _ _ _ :: _) _) _ _ _))); walk1) | (dsimp only; (fail_if_success ((with_reducible show wpAny _ _ (execs (Stmt.While _ _ _ _ :: _) _) _ _ _))); walk1) | (leave1; (try dsimp only)) | fail "no step")
  (try dsimp only)
  have lA : (Txt.slice a (some (preF a b (a.length + 1) 0)) none).length ≤ 40 := by omega
  have lB : (Txt.slice b (some (preF a b (a.length + 1) 0)) none).length ≤ 40 := by omega
  generalize Txt.slice a (some (preF a b (a.length + 1) 0)) none = A at *
  generalize Txt.slice b (some (preF a b (a.length + 1) 0)) none = B at *
  refine wpAny_execs_cons (u6 w _ _ A B c _ _ _ _ lA lB _ _ _ _ _ _ _ _ _ _ _ _ _ _ _ _ _ _ _ (by assumption) (by assumption) (by assumption) (by assumption) (by assumption) (by assumption) (fr_see (by assumption) (by kst_all)) (by assumption) (by with_unfolding_all passes_own) ?_)
  intro t1 u1' h1' tk1' F1' N1'
  clear ha hb
  have hp : postF A B (A.length + 1) 0 ≤ 0 := postF_le _ _ _ _ (by omega)
  have eM : mid A B c = core (cut A (postF A B (A.length + 1) 0)) (cut B (postF A B (A.length + 1) 0)) c := rfl
  rw [eM] at hret
  clear eM
  generalize postF A B (A.length + 1) 0 = k at *
  (try dsimp only)
  (try k_fold)
  repeat' (first | (k_unfold; (try dsimp only)) | (k_end; wrow_close) | ((fail_if_success ((with_reducible show wpAny _ _ (exec (Stmt.Assign _ _ _) _) _ _ _))); walk1) | (dsimp only; (fail_if_success ((with_reducible show wpAny _ _ (exec (Stmt.Assign _ _ _) _) _ _ _))); walk1) | (leave1; (try dsimp only)) | fail "no step")
  refine exec_at (by assumption) (fun (t : Tok × Tok × Tok) => [(Str.ofString "a", .str (cut A k) t.1), (Str.ofString "b", .str B t.2.1), (Str.ofString "max_cost", .int c tc), (Str.ofString "post", .int k t.2.2)]) (fun _ => news) ?_ ?_
  · repeat' (first | (k_unfold; (try dsimp only)) | (k_end; wrow_close) | ((fail_if_success (fail "x")); walk1) | (dsimp only; (fail_if_success (fail "x")); walk1) | (leave1; (try dsimp only)) | fail "no step")
    all_goals first
      | exact OutAt.intro ⟨_, _, _⟩ (by assumption) (by assumption) (by rw [cut, if_pos (by assumption)]; kst_all) (by kcj_all)
      | exact OutAt.intro ⟨_, _, _⟩ (by assumption) (by assumption) (by rw [cut, if_neg (by assumption)]; kst_all) (by kcj_all)
  rintro ⟨t1, t2, t3⟩ u' h' tk' F N
  (try dsimp only)
  (try k_fold)
  repeat' (first | (k_unfold; (try dsimp only)) | (k_end; wrow_close) | ((fail_if_success ((with_reducible show wpAny _ _ (exec (Stmt.Assign _ _ _) _) _ _ _))); walk1) | (dsimp only; (fail_if_success ((with_reducible show wpAny _ _ (exec (Stmt.Assign _ _ _) _) _ _ _))); walk1) | (leave1; (try dsimp only)) | fail "no step")
  refine exec_at (by assumption) (fun (t : Tok × Tok) => [(Str.ofString "a", .str (cut A k) t.1), (Str.ofString "b", .str (cut B k) t.2), (Str.ofString "max_cost", .int c tc)]) (fun _ => news) ?_ ?_
  · repeat' (first | (k_unfold; (try dsimp only)) | (k_end; wrow_close) | ((fail_if_success (fail "x")); walk1) | (dsimp only; (fail_if_success (fail "x")); walk1) | (leave1; (try dsimp only)) | fail "no step")
    all_goals first
      | exact OutAt.intro ⟨_, _⟩ (by assumption) (by assumption) (by rw [cut, cut, if_pos (by assumption), if_pos (by assumption)]; kst_all) (by kcj_all)
      | exact OutAt.intro ⟨_, _⟩ (by assumption) (by assumption) (by rw [cut, cut, if_neg (by assumption), if_neg (by assumption)]; kst_all) (by kcj_all)
  rintro ⟨t1, t2⟩ u' h' tk' F N
  have lA' : (cut A k).length ≤ 40 := by have := cut_len A k hp; omega
  have lB' : (cut B k).length ≤ 40 := by have := cut_len B k hp; omega
  generalize cut A k = X at *
  generalize cut B k = Y at *
  (try dsimp only)
  (try k_fold)
  repeat' (first | (k_unfold; (try dsimp only)) | (k_end; wrow_close) | ((fail_if_success ((with_reducible show wpAny _ _ (exec (Stmt.If (Expr.Compare (Expr.Call _ _ _ _) [CmpOp.Lt] _ _) _ _ _) _) _ _ _))); walk1) | (dsimp only; (fail_if_success ((with_reducible show wpAny _ _ (exec (Stmt.If (Expr.Compare (Expr.Call _ _ _ _) [CmpOp.Lt] _ _) _ _ _) _) _ _ _))); walk1) | (leave1; (try dsimp only)) | fail "no step")
  rotate_left
  · exact cb_retI hret (by rw [core, if_pos (by omega)]) (by assumption) (by assumption)
  · exact cb_retI hret (by rw [core, if_pos (by omega)]) (by assumption) (by assumption)
  have eC : core X Y c = dp (if Y.length < X.length then Y else X) (if Y.length < X.length then X else Y) c := by
    rw [core, if_neg (by omega), if_neg (by omega)]; split <;> rfl
  rw [eC] at hret
  clear eC
  refine exec_at (by assumption) (fun (t : Tok × Tok) => [(Str.ofString "a", .str (if Y.length < X.length then Y else X) t.1), (Str.ofString "b", .str (if Y.length < X.length then X else Y) t.2), (Str.ofString "max_cost", .int c tc)]) (fun _ => news) ?_ ?_
  · repeat' (first | (k_unfold; (try dsimp only)) | (k_end; wrow_close) | ((fail_if_success (fail "x")); walk1) | (dsimp only; (fail_if_success (fail "x")); walk1) | (leave1; (try dsimp only)) | fail "no step")
    all_goals first
      | exact OutAt.intro ⟨_, _⟩ (by assumption) (by assumption) (by rw [if_pos (by omega), if_pos (by omega)]; kst_all) (by kcj_all)
      | exact OutAt.intro ⟨_, _⟩ (by assumption) (by assumption) (by rw [if_neg (by omega), if_neg (by omega)]; kst_all) (by kcj_all)
  rintro ⟨t1, t2⟩ u' h' tk' F N
  have l1 : (if Y.length < X.length then Y else X).length ≤ (if Y.length < X.length then X else Y).length ∧ (if Y.length < X.length then X else Y).length ≤ 40 ∧ 0 < (if Y.length < X.length then Y else X).length := by
    by_cases q : Y.length < X.length
    · rw [if_pos q, if_pos q]; omega
    · rw [if_neg q, if_neg q]; omega
  generalize (if Y.length < X.length then Y else X) = P at *
  generalize (if Y.length < X.length then X else Y) = R at *
  obtain ⟨l1, l2, l3⟩ := l1
  (try dsimp only)
  (try k_fold)
  repeat' (first | (k_unfold; (try dsimp only)) | (k_end; wrow_close) | ((fail_if_success ((with_reducible show wpAny _ _ (call (Value.type "list") _ _) _ _ _))); walk1) | (dsimp only; (fail_if_success ((with_reducible show wpAny _ _ (call (Value.type "list") _ _) _ _ _))); walk1) | (leave1; (try dsimp only)) | fail "no step")
  · exact cb_retI hret (by rw [dp, if_pos (by omega)]) (by assumption) (by assumption)
  have eD : dp P R c = outer P R c R.length 0 ((List.range P.length).map fun (i : Nat) => ((2 : Int) + (i : Int) * 2 : Int)) 0 := by rw [dp, if_neg (by omega)]
  rw [eD] at hret
  clear eD
  refine list_step2 rfl (by assumption) (by assumption) (by assumption) (by omega) ?_
  intro D us cc h'' tk'' F'' N'' l4 hI
  (try dsimp only)
  (try k_fold)
  repeat' (first | (k_unfold; (try dsimp only)) | (k_end; wrow_close) | ((fail_if_success ((with_reducible show wpAny _ _ (execs (Stmt.For _ _ _ _ _ :: _) _) _ _ _))); walk1) | (dsimp only; (fail_if_success ((with_reducible show wpAny _ _ (execs (Stmt.For _ _ _ _ _ :: _) _) _ _ _))); walk1) | (leave1; (try dsimp only)) | fail "no step")
  (try dsimp only)
  refine wpAny_execs_cons (vout w _ _ P R c D cc _ _ _ _ _ us (Nat.le_trans l1 l2) l2 (fun p hp => Nat.ne_of_lt (l4 p hp)) hI (by simp) _ _ _ _ _ _ _ _ _ _ _ _ _ _ _ _ _ _ _ (by assumption) (by assumption) (by assumption) (by assumption) (by assumption) (by assumption) (fr_see (by assumption) (by kst_all)) (by assumption) (by with_unfolding_all passes_own) ?_)
  refine ⟨?_, ?_⟩
  · intro t5 u5 h5 tk5 F5 N5
    (try dsimp only)
    (try k_fold)
    repeat' (first | (k_unfold; (try dsimp only)) | (k_end; wrow_close) | ((fail_if_success (fail "x")); walk1) | (dsimp only; (fail_if_success (fail "x")); walk1) | (leave1; (try dsimp only)) | fail "no step")
    exact cb_retI hret rfl (by assumption) (by assumption)
  · intro t5 u5 h5 tk5 e5 F5 N5
    (try dsimp only)
    (try k_fold)
    repeat' (first | (k_unfold; (try dsimp only)) | (k_end; wrow_close) | ((fail_if_success (fail "x")); walk1) | (dsimp only; (fail_if_success (fail "x")); walk1) | (leave1; (try dsimp only)) | fail "no step")
    exact cb_retI hret e5 (by assumption) (by assumption)
end Mine
end
/-! part S1 -/
section
open PySem PySem.W PyProof.Rows PySem.Calls PySem.Spec
namespace Mine
set_option maxRecDepth 100000
set_option maxHeartbeats 8000000
set_option rowWalk.seconds 0
set_option linter.unusedVariables false
set_option linter.unusedSimpArgs false
theorem b0 (w : World) (L : Addr) (R : List (Addr × Obj)) (aS aN aW : Addr) (k : Nat) (t : Tok) (us : List Value) (xs : List Int) (cN : Nat) (hk : k < 6) (hx : IntsAre us xs) (hl : xs.length = 6) (hN : (aN, listOf us.toArray cN) ∈ R) : StOk w L (inSt 3 0) [(Str.ofString "script", .ref aS), (Str.ofString "numbers", .ref aN), (Str.ofString "wheel", .ref aW), (Str.ofString "k", .int (k : Int) t)] (R) (fun h₀ s Q => ∀ (tx : Tok) (u' : Str → Option Value) (h' : Heap) (tk' : Nat), Fr h₀ L h' (kstB u' [(Str.ofString "script", .ref aS), (Str.ofString "numbers", .ref aN), (Str.ofString "wheel", .ref aW), (Str.ofString "k", .int (k : Int) t), (Str.ofString "x", .int (xs.getD k 0) tx)]) → News h₀ L h' (R) → Q .next { s with heap := h', toks := tk' }) := by
  dsimp only [StOk]
  intro mean mg mb fa cd h₀ s Q E u B X T F N done
  have NB := booked X
  show wpAny _ (callerA.deeper (envOfC _ ⟨_, _, _, _, _⟩ _ _ _)) (exec (Stmt.Assign _ _ _) (envOfC _ ⟨_, _, _, _, _⟩ _ _ _)) _ _ _
  revert X
  k_fill
  intro X
  dsimp only
  repeat' (first | (k_unfold; (try dsimp only)) | (k_end; wrow_close) | ((fail_if_success ((with_reducible show wpAny _ _ (subscriptTail _ _ _ _) _ _ _))); walk1) | (dsimp only; (fail_if_success ((with_reducible show wpAny _ _ (subscriptTail _ _ _ _) _ _ _))); walk1) | (leave1; (try dsimp only)) | fail "no step")
  refine item_int (ns := xs) (news_list N (vs := us) hN) hx (by omega) (by omega) (by omega) ?_
  intro tx
  simp only [Int.toNat_natCast]
  (try dsimp only)
  repeat' (first | (k_unfold; (try dsimp only)) | (k_end; wrow_close) | ((fail_if_success ((with_reducible show Q _ _))); walk1) | (dsimp only; (fail_if_success ((with_reducible show Q _ _))); walk1) | (leave1; (try dsimp only)) | fail "no step")
  exact done _ _ _ _  (fr_see (by assumption) (by kst_all)) (by assumption)
theorem b1 (w : World) (L : Addr) (R : List (Addr × Obj)) (aS aN aW : Addr) (k : Nat) (t : Tok) (x : Int) (tx : Tok) (wv : List Value) (cW : Nat) (bs : Nat → Addr) (wvs : Nat → List Value) (cc : Nat → Nat) (hk : k < 6) (hW : (aW, listOf wv.toArray cW) ∈ R) (hwv : ∀ i, i < 6 → wv[i]? = some (.ref (bs i))) (hrow : ∀ i, i < 6 → (bs i, listOf (wvs i).toArray (cc i)) ∈ R) (hri : ∀ i, i < 6 → IntsAre (wvs i) (wheelM.getD i [])) : StOk w L (inSt 3 1) [(Str.ofString "script", .ref aS), (Str.ofString "numbers", .ref aN), (Str.ofString "wheel", .ref aW), (Str.ofString "k", .int (k : Int) t), (Str.ofString "x", .int x tx)] (R) (fun h₀ s Q => ∀ (j : Nat) (tp : Tok) (u' : Str → Option Value) (h' : Heap) (tk' : Nat), j < (wheelM.getD k []).length → tk' ≠ 0 → Fr h₀ L h' (kstB u' [(Str.ofString "script", .ref aS), (Str.ofString "numbers", .ref aN), (Str.ofString "wheel", .ref aW), (Str.ofString "x", .int x tx), (Str.ofString "place", .int (plc k j) tp)]) → News h₀ L h' (R) → Q .next { s with heap := h', toks := tk' }) := by
  dsimp only [StOk]
  intro mean mg mb fa cd h₀ s Q E u B X T F N done
  have NB := booked X
  show wpAny _ (callerA.deeper (envOfC _ ⟨_, _, _, _, _⟩ _ _ _)) (exec (Stmt.Assign _ _ _) (envOfC _ ⟨_, _, _, _, _⟩ _ _ _)) _ _ _
  revert X
  k_fill
  intro X
  dsimp only
  have hlen : 2 ≤ (wheelM.getD k []).length ∧ (wheelM.getD k []).length ≤ 3 := by
    have : k = 0 ∨ k = 1 ∨ k = 2 ∨ k = 3 ∨ k = 4 ∨ k = 5 := six_cases hk
    rcases this with h | h | h | h | h | h <;> rw [h] <;> decide
  repeat' (first | (k_unfold; (try dsimp only)) | (k_end; wrow_close) | ((fail_if_success ((with_reducible show wpAny _ _ (subscriptTail _ _ _ _) _ _ _))); walk1) | (dsimp only; (fail_if_success ((with_reducible show wpAny _ _ (subscriptTail _ _ _ _) _ _ _))); walk1) | (leave1; (try dsimp only)) | fail "no step")
  refine item_val (news_list N hW) (by omega) (by omega) (hwv k hk) ?_
  (try dsimp only)
  repeat' (first | (k_unfold; (try dsimp only)) | (k_end; wrow_close) | ((fail_if_success ((with_reducible show wpAny _ _ (subscriptTail _ _ _ _) _ _ _))); walk1) | (dsimp only; (fail_if_success ((with_reducible show wpAny _ _ (subscriptTail _ _ _ _) _ _ _))); walk1) | (leave1; (try dsimp only)) | fail "no step")
  refine item_val (news_list N hW) (by omega) (by omega) (hwv k hk) ?_
  (try dsimp only)
  repeat' (first | (k_unfold; (try dsimp only)) | (k_end; wrow_close) | ((fail_if_success ((with_reducible show wpAny _ _ (call (Value.builtin "len") _ _) _ _ _))); walk1) | (dsimp only; (fail_if_success ((with_reducible show wpAny _ _ (call (Value.builtin "len") _ _) _ _ _))); walk1) | (leave1; (try dsimp only)) | fail "no step")
  refine kst_len (us := wvs k) (c := cc k) N (hrow k hk) (hri k hk).length (by omega) ?_
  (try dsimp only)
  repeat' (first | (k_unfold; (try dsimp only)) | (k_end; wrow_close) | ((fail_if_success ((with_reducible show wpAny _ _ (subscriptTail _ _ _ _) _ _ _))); walk1) | (dsimp only; (fail_if_success ((with_reducible show wpAny _ _ (subscriptTail _ _ _ _) _ _ _))); walk1) | (leave1; (try dsimp only)) | fail "no step")
  have hjb : 0 ≤ (x.fdiv 3).fmod ((wheelM.getD k []).length : Int) ∧ (x.fdiv 3).fmod ((wheelM.getD k []).length : Int) < ((wheelM.getD k []).length : Int) := by
    rw [Int.fmod_eq_emod_of_nonneg _ (by omega)]
    exact ⟨Int.emod_nonneg _ (by omega), Int.emod_lt_of_pos _ (by omega)⟩
  refine item_int (ns := wheelM.getD k []) (news_list N (hrow k hk)) (hri k hk) hjb.1 hjb.2 (by omega) ?_
  intro tp
  obtain ⟨j, hj⟩ : ∃ j : Nat, ((x.fdiv 3).fmod ((wheelM.getD k []).length : Int)).toNat = j := ⟨_, rfl⟩
  have hjl : j < (wheelM.getD k []).length := by omega
  rw [hj, show (wheelM.getD k []).getD j 0 = plc k j from rfl]
  clear hj hjb
  (try dsimp only)
  repeat' (first | (k_unfold; (try dsimp only)) | (k_end; wrow_close) | ((fail_if_success ((with_reducible show Q _ _))); walk1) | (dsimp only; (fail_if_success ((with_reducible show Q _ _))); walk1) | (leave1; (try dsimp only)) | fail "no step")
  refine done _ _ _ _ _ hjl (Nat.succ_ne_zero _) (fr_see (by assumption) (by kst_all)) (by assumption)
theorem b2 (w : World) (L : Addr) (R : List (Addr × Obj)) (aS aN aW : Addr) (k j : Nat) (t : Tok) (x : Int) (tx tp : Tok) : StOk w L (inSt 3 2) [(Str.ofString "script", .ref aS), (Str.ofString "numbers", .ref aN), (Str.ofString "wheel", .ref aW), (Str.ofString "x", .int x tx), (Str.ofString "place", .int (plc k j) tp)] (R) (fun h₀ s Q => s.toks ≠ 0 ∧ ∀ (c : Nat) (ts : Tok) (u' : Str → Option Value) (h' : Heap) (tk' : Nat), c < 2 → ts ≠ 0 → Fr h₀ L h' (kstB u' [(Str.ofString "script", .ref aS), (Str.ofString "numbers", .ref aN), (Str.ofString "wheel", .ref aW), (Str.ofString "x", .int x tx), (Str.ofString "place", .int (plc k j) tp), (Str.ofString "share", .float (shr c) ts)]) → News h₀ L h' (R) → Q .next { s with heap := h', toks := tk' }) := by
  dsimp only [StOk]
  intro mean mg mb fa cd h₀ s Q E u B X T F N done
  have NB := booked X
  show wpAny _ (callerA.deeper (envOfC _ ⟨_, _, _, _, _⟩ _ _ _)) (exec (Stmt.Assign _ _ _) (envOfC _ ⟨_, _, _, _, _⟩ _ _ _)) _ _ _
  revert X
  k_fill
  intro X
  dsimp only
  obtain ⟨hz, done⟩ := done
  repeat' (first | (k_unfold; (try dsimp only)) | (k_end; wrow_close) | ((fail_if_success ((with_reducible show wpAny _ _ (subscriptTail _ _ _ _) _ _ _))); walk1) | (dsimp only; (fail_if_success ((with_reducible show wpAny _ _ (subscriptTail _ _ _ _) _ _ _))); walk1) | (leave1; (try dsimp only)) | fail "no step")
  rename News _ _ _ _ => N5
  have hcb : 0 ≤ (x.fdiv 9).fmod 2 ∧ (x.fdiv 9).fmod 2 < 2 := by rw [Int.fmod_eq_emod_of_nonneg _ (by decide)]; omega
  obtain ⟨c, hc⟩ : ∃ c : Nat, (x.fdiv 9).fmod 2 = (c : Int) := ⟨((x.fdiv 9).fmod 2).toNat, by omega⟩
  have hcl : c < 2 := by omega
  rw [hc]
  clear hc hcb
  refine item_share (news_list N5 List.mem_cons_self) hcl (by assumption) (Nat.succ_ne_zero _) ?_
  intro ts hts
  (try dsimp only)
  repeat' (first | (k_unfold; (try dsimp only)) | (k_end; wrow_close) | ((fail_if_success ((with_reducible show Q _ _))); walk1) | (dsimp only; (fail_if_success ((with_reducible show Q _ _))); walk1) | (leave1; (try dsimp only)) | fail "no step")
  refine done _ _ _ _ _ hcl hts (fr_see (by assumption) (by kst_all)) (cb_drop (by assumption) (by kcj_in))
theorem b3 (w : World) (L : Addr) (R : List (Addr × Obj)) (aS aN aW : Addr) (k j c h : Nat) (t : Tok) (x : Int) (tx tp ts : Tok) (hx3 : x.fmod 3 = (h : Int)) (hh : h < 3) : StOk w L (inSt 3 3) [(Str.ofString "script", .ref aS), (Str.ofString "numbers", .ref aN), (Str.ofString "wheel", .ref aW), (Str.ofString "x", .int x tx), (Str.ofString "place", .int (plc k j) tp), (Str.ofString "share", .float (shr c) ts)] (R) (fun h₀ s Q => ∀ (tv : Tok) (u' : Str → Option Value) (h' : Heap) (tk' : Nat), tv ≠ 0 → Fr h₀ L h' (kstB u' [(Str.ofString "script", .ref aS), (Str.ofString "numbers", .ref aN), (Str.ofString "wheel", .ref aW), (Str.ofString "x", .int x tx), (Str.ofString "place", .int (plc k j) tp), (Str.ofString "share", .float (shr c) ts), (Str.ofString "value", .float (vF h) tv)]) → News h₀ L h' (R) → Q .next { s with heap := h', toks := tk' }) := by
  dsimp only [StOk]
  intro mean mg mb fa cd h₀ s Q E u B X T F N done
  have NB := booked X
  show wpAny _ (callerA.deeper (envOfC _ ⟨_, _, _, _, _⟩ _ _ _)) (exec (Stmt.Assign _ _ _) (envOfC _ ⟨_, _, _, _, _⟩ _ _ _)) _ _ _
  revert X
  k_fill
  intro X
  dsimp only
  repeat' (first | (k_unfold; (try dsimp only)) | (k_end; wrow_close) | ((fail_if_success ((with_reducible show wpAny _ _ (binaryOp .Div (Value.int _ _) (Value.int _ _)) _ _ _))); walk1) | (dsimp only; (fail_if_success ((with_reducible show wpAny _ _ (binaryOp .Div (Value.int _ _) (Value.int _ _)) _ _ _))); walk1) | (leave1; (try dsimp only)) | fail "no step")
  rw [hx3]
  refine div_small rfl (by omega) (by decide) ?_
  (try dsimp only)
  repeat' (first | (k_unfold; (try dsimp only)) | (k_end; wrow_close) | ((fail_if_success ((with_reducible show Q _ _))); walk1) | (dsimp only; (fail_if_success ((with_reducible show Q _ _))); walk1) | (leave1; (try dsimp only)) | fail "no step")
  refine done _ _ _ _ (Nat.succ_ne_zero _) (fr_see (by assumption) (by kst_all)) (by assumption)
theorem b4 (w : World) (L : Addr) (R : List (Addr × Obj)) (aS aN aW : Addr) (k j c h : Nat) (t : Tok) (x : Int) (tx tp ts tv : Tok) (PP : Paint k j c h) (hk : k < 6) (hj : j < 3) (hv : tv ≠ 0) : StOk w L (inSt 3 4) [(Str.ofString "script", .ref aS), (Str.ofString "numbers", .ref aN), (Str.ofString "wheel", .ref aW), (Str.ofString "x", .int x tx), (Str.ofString "place", .int (plc k j) tp), (Str.ofString "share", .float (shr c) ts), (Str.ofString "value", .float (vF h) tv)] (R) (fun h₀ s Q => ∀ (tr : Tok) (tg : Tok) (tb : Tok) (u' : Str → Option Value) (h' : Heap) (tk' : Nat), tr ≠ 0 → tg ≠ 0 → tb ≠ 0 → Fr h₀ L h' (kstB u' [(Str.ofString "script", .ref aS), (Str.ofString "numbers", .ref aN), (Str.ofString "wheel", .ref aW), (Str.ofString "x", .int x tx), (Str.ofString "place", .int (plc k j) tp), (Str.ofString "share", .float (shr c) ts), (Str.ofString "value", .float (vF h) tv), (Str.ofString "red", .float (fr k j c h) tr), (Str.ofString "green", .float (fg k j c h) tg), (Str.ofString "blue", .float (fb k j c h) tb)]) → News h₀ L h' (R) → Q .next { s with heap := h', toks := tk' }) := by
  dsimp only [StOk]
  intro mean mg mb fa cd h₀ s Q E u B X T F N done
  have NB := booked X
  show wpAny _ (callerA.deeper (envOfC _ ⟨_, _, _, _, _⟩ _ _ _)) (exec (Stmt.Assign _ _ _) (envOfC _ ⟨_, _, _, _, _⟩ _ _ _)) _ _ _
  revert X
  k_fill
  intro X
  dsimp only
  have hpl := plc_le (k := k) (j := j) hk hj
  repeat' (first | (k_unfold; (try dsimp only)) | (k_end; wrow_close) | ((fail_if_success ((with_reducible show wpAny _ _ (binaryOp .Div (Value.int _ _) (Value.int _ _)) _ _ _))); walk1) | (dsimp only; (fail_if_success ((with_reducible show wpAny _ _ (binaryOp .Div (Value.int _ _) (Value.int _ _)) _ _ _))); walk1) | (leave1; (try dsimp only)) | fail "no step")
  refine div_small rfl hpl (by decide) ?_
  (try dsimp only)
  repeat' (first | (k_unfold; (try dsimp only)) | (k_end; wrow_close) | ((fail_if_success ((with_reducible show wpAny _ _ (call (Value.ref 49) _ _) _ _ _))); walk1) | (dsimp only; (fail_if_success ((with_reducible show wpAny _ _ (call (Value.ref 49) _ _) _ _ _))); walk1) | (leave1; (try dsimp only)) | fail "no step")
  change wpAny _ _ (call (Value.ref 49) [.float (hF k j) _, .float (shr c) _, .float (vF h) _]) _ _ _
  k_dflt (refine' h2r_law _ _ _ _ _ PP _ _ _ hv _   _ _ _ _ _ _ _ _ _ _ _ _ _ _ _ _ _ _ _ _ ?zk1 ?zk2 ?zk3 ?zk4 ?zk5 ?zkK ?zkd ?zku ?zkR; (case zk1 => k_asm); (case zk2 => k_asm); (case zk3 => k_asm); (case zk4 => k_asm); (case zk5 => k_asm); (case zkK => first | exact rfl | assumption); (case zkd => ktr_room); (case zku => ktr_units))
  intro D1 tr tg tb c1 h1 tk1 F7 N7 l7 hr hg hb
  (try dsimp only)
  (try k_fold)
  repeat' (first | (k_unfold; (try dsimp only)) | (k_end; wrow_close) | ((fail_if_success ((with_reducible show Q _ _))); walk1) | (dsimp only; (fail_if_success ((with_reducible show Q _ _))); walk1) | (leave1; (try dsimp only)) | fail "no step")
  refine done _ _ _ _ _ _ hr hg hb (fr_see (by assumption) (by kst_all)) (cb_drop (by assumption) (by kcj_in))
theorem b5 (w : World) (L : Addr) (R : List (Addr × Obj)) (aS aN aW : Addr) (k j c h : Nat) (t : Tok) (x : Int) (tx tp ts tv : Tok) (PP : Paint k j c h) (tr tg tb : Tok) (hr : tr ≠ 0) (hg : tg ≠ 0) (hb : tb ≠ 0) : StOk w L (inSt 3 5) [(Str.ofString "script", .ref aS), (Str.ofString "numbers", .ref aN), (Str.ofString "wheel", .ref aW), (Str.ofString "x", .int x tx), (Str.ofString "place", .int (plc k j) tp), (Str.ofString "share", .float (shr c) ts), (Str.ofString "value", .float (vF h) tv), (Str.ofString "red", .float (fr k j c h) tr), (Str.ofString "green", .float (fg k j c h) tg), (Str.ofString "blue", .float (fb k j c h) tb)] (R) (fun h₀ s Q => ∀ (D : Addr) (ta tb2 tc : Tok) (cD : Nat) (u' : Str → Option Value) (h' : Heap) (tk' : Nat), ta ≠ 0 → tb2 ≠ 0 → tc ≠ 0 → (∀ p ∈ R, p.1 < D) → Fr h₀ L h' (kstB u' [(Str.ofString "script", .ref aS), (Str.ofString "numbers", .ref aN), (Str.ofString "wheel", .ref aW), (Str.ofString "x", .int x tx), (Str.ofString "place", .int (plc k j) tp), (Str.ofString "share", .float (shr c) ts), (Str.ofString "value", .float (vF h) tv), (Str.ofString "red", .float (fr k j c h) tr), (Str.ofString "green", .float (fg k j c h) tg), (Str.ofString "blue", .float (fb k j c h) tb), (Str.ofString "told", .ref D)]) → News h₀ L h' ((D, tup3 (.float (told0 k j c h) ta) (.float (told1 k j c h) tb2) (.float (fmx3 k j c h) tc) cD) :: R) → Q .next { s with heap := h', toks := tk' }) := by
  dsimp only [StOk]
  intro mean mg mb fa cd h₀ s Q E u B X T F N done
  have NB := booked X
  show wpAny _ (callerA.deeper (envOfC _ ⟨_, _, _, _, _⟩ _ _ _)) (exec (Stmt.Assign _ _ _) (envOfC _ ⟨_, _, _, _, _⟩ _ _ _)) _ _ _
  revert X
  k_fill
  intro X
  dsimp only
  repeat' (first | (k_unfold; (try dsimp only)) | (k_end; wrow_close) | ((fail_if_success ((with_reducible show wpAny _ _ (call (Value.ref 42) _ _) _ _ _))); walk1) | (dsimp only; (fail_if_success ((with_reducible show wpAny _ _ (call (Value.ref 42) _ _) _ _ _))); walk1) | (leave1; (try dsimp only)) | fail "no step")
  k_dflt (refine' r2h_law _ _ _ _ _ PP _ _ _ hr hg hb _   _ _ _ _ _ _ _ _ _ _ _ _ _ _ _ _ _ _ _ _ ?zk1 ?zk2 ?zk3 ?zk4 ?zk5 ?zkK ?zkd ?zku ?zkR; (case zk1 => k_asm); (case zk2 => k_asm); (case zk3 => k_asm); (case zk4 => k_asm); (case zk5 => k_asm); (case zkK => first | exact rfl | assumption); (case zkd => ktr_room); (case zku => ktr_units))
  intro D2 ta tb2 tc c2 h2 tk2 F9 N9 l9 hta htb htc
  (try dsimp only)
  (try k_fold)
  repeat' (first | (k_unfold; (try dsimp only)) | (k_end; wrow_close) | ((fail_if_success ((with_reducible show Q _ _))); walk1) | (dsimp only; (fail_if_success ((with_reducible show Q _ _))); walk1) | (leave1; (try dsimp only)) | fail "no step")
  refine done _ _ _ _ _ _ _ _ hta htb htc l9 (fr_see (by assumption) (by kst_all)) (by assumption)
end Mine
end
/-! part S2 -/
section
open PySem PySem.W PyProof.Rows PySem.Calls PySem.Spec
namespace Mine
set_option maxRecDepth 100000
set_option maxHeartbeats 8000000
set_option rowWalk.seconds 0
set_option linter.unusedVariables false
set_option linter.unusedSimpArgs false
theorem eqAt_int {A : Around} {s : Shared} (a : Int) (t u : Tok) : SeqAt.EqAt A s (.int a t) (.int a u) true := by
  have := SeqAt.EqAt.int_int (A := A) (s := s) a t a u
  rwa [beq_self_eq_true] at this
theorem b6 (w : World) (L : Addr) (R : List (Addr × Obj)) (aS aN aW : Addr) (k j c h : Nat) (t : Tok) (x : Int) (tx tp ts tv tr tg tb : Tok) (D : Addr) (ta tb2 tc : Tok) (cD : Nat) (PP : Paint k j c h) (z1 : ts ≠ 0) (z2 : tv ≠ 0) (z3 : tb2 ≠ 0) (z4 : tc ≠ 0) : StOk w L (inSt 3 6) [(Str.ofString "script", .ref aS), (Str.ofString "numbers", .ref aN), (Str.ofString "wheel", .ref aW), (Str.ofString "x", .int x tx), (Str.ofString "place", .int (plc k j) tp), (Str.ofString "share", .float (shr c) ts), (Str.ofString "value", .float (vF h) tv), (Str.ofString "red", .float (fr k j c h) tr), (Str.ofString "green", .float (fg k j c h) tg), (Str.ofString "blue", .float (fb k j c h) tb), (Str.ofString "told", .ref D)] ((D, tup3 (.float (told0 k j c h) ta) (.float (told1 k j c h) tb2) (.float (fmx3 k j c h) tc) cD) :: R) (fun h₀ s Q => ∀ (u' : Str → Option Value) (h' : Heap) (tk' : Nat), Fr h₀ L h' (kstB u' [(Str.ofString "script", .ref aS), (Str.ofString "numbers", .ref aN), (Str.ofString "wheel", .ref aW), (Str.ofString "x", .int x tx), (Str.ofString "share", .float (shr c) ts), (Str.ofString "value", .float (vF h) tv), (Str.ofString "red", .float (fr k j c h) tr), (Str.ofString "green", .float (fg k j c h) tg), (Str.ofString "blue", .float (fb k j c h) tb), (Str.ofString "told", .ref D)]) → News h₀ L h' ((D, tup3 (.float (told0 k j c h) ta) (.float (told1 k j c h) tb2) (.float (fmx3 k j c h) tc) cD) :: R) → Q .next { s with heap := h', toks := tk' }) := by
  dsimp only [StOk]
  intro mean mg mb fa cd h₀ s Q E u B X T F N done
  have NB := booked X
  show wpAny _ (callerA.deeper (envOfC _ ⟨_, _, _, _, _⟩ _ _ _)) (exec (Stmt.If _ _ _ _) (envOfC _ ⟨_, _, _, _, _⟩ _ _ _)) _ _ _
  revert X
  k_fill
  intro X
  dsimp only
  repeat' (first | (k_unfold; (try dsimp only)) | (k_end; wrow_close) | ((fail_if_success ((with_reducible show wpAny _ _ (binaryOp .Mult (Value.float _ _) (Value.int _ _)) _ _ _))); walk1) | (dsimp only; (fail_if_success ((with_reducible show wpAny _ _ (binaryOp .Mult (Value.float _ _) (Value.int _ _)) _ _ _))); walk1) | (leave1; (try dsimp only)) | fail "no step")
  refine mul_fin (by decide +kernel) ?_
  (try dsimp only)
  repeat' (first | (k_unfold; (try dsimp only)) | (k_end; wrow_close) | ((fail_if_success ((with_reducible show wpAny _ _ (call (Value.type "int") [Value.float _ _]) _ _ _))); walk1) | (dsimp only; (fail_if_success ((with_reducible show wpAny _ _ (call (Value.type "int") [Value.float _ _]) _ _ _))); walk1) | (leave1; (try dsimp only)) | fail "no step")
  refine int_fin rfl PP.c1 ?_
  (try dsimp only)
  repeat' (first | (k_unfold; (try dsimp only)) | (k_end; wrow_close) | ((fail_if_success ((with_reducible show wpAny _ _ (binaryOp .Mod _ _) _ _ _))); walk1) | (dsimp only; (fail_if_success ((with_reducible show wpAny _ _ (binaryOp .Mod _ _) _ _ _))); walk1) | (leave1; (try dsimp only)) | fail "no step")
  refine mod_nz (by decide) PP.c2 ?_
  (try dsimp only)
  repeat' (first | (k_unfold; (try dsimp only)) | (k_end; wrow_close) | ((fail_if_success ((with_reducible show wpAny _ _ (compareOp _ _ _) _ _ _))); walk1) | (dsimp only; (fail_if_success ((with_reducible show wpAny _ _ (compareOp _ _ _) _ _ _))); walk1) | (leave1; (try dsimp only)) | fail "no step")
  rename News _ _ _ _ => N9
  rename Fr _ _ _ _ => F9
  have hb9 := booked_keep NB F9.keep
  refine ne3 (news_list N9 (vs := [_, _, _]) (by k_mem)) (news_list N9 (vs := [_, _, _]) List.mem_cons_self) (by ktr_units) (eqAt_int _ _ _) (eqAt_float z3 z1 hb9 PP.c3) (eqAt_float z4 z2 hb9 PP.c4) ?_
  (try dsimp only)
  repeat' (first | (k_unfold; (try dsimp only)) | (k_end; wrow_close) | ((fail_if_success ((with_reducible show Q _ _))); walk1) | (dsimp only; (fail_if_success ((with_reducible show Q _ _))); walk1) | (leave1; (try dsimp only)) | fail "no step")
  refine done _ _ _ (fr_see (by assumption) (by kst_all)) (cb_drop (by assumption) (by kcj_in))
theorem b7 (w : World) (L : Addr) (R : List (Addr × Obj)) (aS aN aW : Addr) (k j c h : Nat) (t : Tok) (x : Int) (tx tp ts tv tr tg tb : Tok) (D : Addr) (ta tb2 tc : Tok) (cD : Nat) (PP : Paint k j c h) : StOk w L (inSt 3 7) [(Str.ofString "script", .ref aS), (Str.ofString "numbers", .ref aN), (Str.ofString "wheel", .ref aW), (Str.ofString "x", .int x tx), (Str.ofString "share", .float (shr c) ts), (Str.ofString "value", .float (vF h) tv), (Str.ofString "red", .float (fr k j c h) tr), (Str.ofString "green", .float (fg k j c h) tg), (Str.ofString "blue", .float (fb k j c h) tb), (Str.ofString "told", .ref D)] (R) (fun h₀ s Q => ∀ (tu tl tq : Tok) (u' : Str → Option Value) (h' : Heap) (tk' : Nat), tu ≠ 0 → tl ≠ 0 → Fr h₀ L h' (kstB u' [(Str.ofString "script", .ref aS), (Str.ofString "numbers", .ref aN), (Str.ofString "wheel", .ref aW), (Str.ofString "x", .int x tx), (Str.ofString "share", .float (shr c) ts), (Str.ofString "value", .float (vF h) tv), (Str.ofString "red", .float (fr k j c h) tr), (Str.ofString "green", .float (fg k j c h) tg), (Str.ofString "blue", .float (fb k j c h) tb), (Str.ofString "told", .ref D), (Str.ofString "hue", .float (told0 k j c h) tu), (Str.ofString "light", .float (lightF k j c h) tl), (Str.ofString "purity", .float (purF k j c h) tq)]) → News h₀ L h' (R) → Q .next { s with heap := h', toks := tk' }) := by
  dsimp only [StOk]
  intro mean mg mb fa cd h₀ s Q E u B X T F N done
  have NB := booked X
  show wpAny _ (callerA.deeper (envOfC _ ⟨_, _, _, _, _⟩ _ _ _)) (exec (Stmt.Assign _ _ _) (envOfC _ ⟨_, _, _, _, _⟩ _ _ _)) _ _ _
  revert X
  k_fill
  intro X
  dsimp only
  repeat' (first | (k_unfold; (try dsimp only)) | (k_end; wrow_close) | ((fail_if_success ((with_reducible show wpAny _ _ (call (Value.ref 35) _ _) _ _ _))); walk1) | (dsimp only; (fail_if_success ((with_reducible show wpAny _ _ (call (Value.ref 35) _ _) _ _ _))); walk1) | (leave1; (try dsimp only)) | fail "no step")
  k_dflt (refine' r2l_law _ _ _ _ _ PP _ _ _ _   _ _ _ _ _ _ _ _ _ _ _ _ _ _ _ _ _ _ _ _ ?zk1 ?zk2 ?zk3 ?zk4 ?zk5 ?zkK ?zkd ?zku ?zkR; (case zk1 => k_asm); (case zk2 => k_asm); (case zk3 => k_asm); (case zk4 => k_asm); (case zk5 => k_asm); (case zkK => first | exact rfl | assumption); (case zkd => ktr_room); (case zku => ktr_units))
  intro D2 tu tl tq c2 h2 tk2 F9 N9 l9 hta htb htc
  (try dsimp only)
  (try k_fold)
  repeat' (first | (k_unfold; (try dsimp only)) | (k_end; wrow_close) | ((fail_if_success ((with_reducible show Q _ _))); walk1) | (dsimp only; (fail_if_success ((with_reducible show Q _ _))); walk1) | (leave1; (try dsimp only)) | fail "no step")
  refine done _ _ _ _ _ _ hta htb (fr_see (by assumption) (by kst_all)) (cb_drop (by assumption) (by kcj_in))
theorem b8 (w : World) (L : Addr) (R : List (Addr × Obj)) (aS aN aW : Addr) (k j c h : Nat) (t : Tok) (x : Int) (tx tp ts tv tr tg tb : Tok) (D : Addr) (ta tb2 tc : Tok) (cD : Nat) (PP : Paint k j c h) (tu tl tq : Tok) (hc : c < 2) (hx3 : x.fmod 3 = (h : Int)) : StOk w L (inSt 3 8) [(Str.ofString "script", .ref aS), (Str.ofString "numbers", .ref aN), (Str.ofString "wheel", .ref aW), (Str.ofString "x", .int x tx), (Str.ofString "share", .float (shr c) ts), (Str.ofString "value", .float (vF h) tv), (Str.ofString "red", .float (fr k j c h) tr), (Str.ofString "green", .float (fg k j c h) tg), (Str.ofString "blue", .float (fb k j c h) tb), (Str.ofString "told", .ref D), (Str.ofString "hue", .float (told0 k j c h) tu), (Str.ofString "light", .float (lightF k j c h) tl), (Str.ofString "purity", .float (purF k j c h) tq)] (R) (fun h₀ s Q => ∀ (td : Tok) (u' : Str → Option Value) (h' : Heap) (tk' : Nat), Fr h₀ L h' (kstB u' [(Str.ofString "script", .ref aS), (Str.ofString "numbers", .ref aN), (Str.ofString "wheel", .ref aW), (Str.ofString "x", .int x tx), (Str.ofString "share", .float (shr c) ts), (Str.ofString "value", .float (vF h) tv), (Str.ofString "red", .float (fr k j c h) tr), (Str.ofString "green", .float (fg k j c h) tg), (Str.ofString "blue", .float (fb k j c h) tb), (Str.ofString "told", .ref D), (Str.ofString "hue", .float (told0 k j c h) tu), (Str.ofString "light", .float (lightF k j c h) tl), (Str.ofString "purity", .float (purF k j c h) tq), (Str.ofString "due", .int (dueF c h) td)]) → News h₀ L h' (R) → Q .next { s with heap := h', toks := tk' }) := by
  dsimp only [StOk]
  intro mean mg mb fa cd h₀ s Q E u B X T F N done
  have NB := booked X
  show wpAny _ (callerA.deeper (envOfC _ ⟨_, _, _, _, _⟩ _ _ _)) (exec (Stmt.Assign _ _ _) (envOfC _ ⟨_, _, _, _, _⟩ _ _ _)) _ _ _
  revert X
  k_fill
  intro X
  dsimp only
  have c01 : c = 0 ∨ c = 1 := by omega
  have g0 : (Float64.cmp (shr 0) 4607182418800017408 == some .eq) = true := by decide +kernel
  have g1 : (Float64.cmp (shr 1) 4607182418800017408 == some .eq) = false := by decide +kernel
  repeat' (first | (k_unfold; (try dsimp only)) | (k_end; wrow_close) | ((fail_if_success ((with_reducible show Q _ _))); walk1) | (dsimp only; (fail_if_success ((with_reducible show Q _ _))); walk1) | (leave1; (try dsimp only)) | fail "no step")
  · have e : dueF c h = 21 := by
      rcases c01 with rfl | rfl
      · rfl
      · rename (_ = true) => q; rw [g1] at q; cases q
    exact done _ _ _ _ (fr_see (by assumption) (by rw [e]; kst_all)) (by assumption)
  · have e : dueF c h = 9 := by
      rcases c01 with rfl | rfl
      · rename (_ = false) => q; rw [g0] at q; cases q
      · unfold dueF; rw [if_neg (by decide), if_pos (by omega)]
    exact done _ _ _ _ (fr_see (by assumption) (by rw [e]; kst_all)) (by assumption)
  · have e : dueF c h = 7 := by
      rcases c01 with rfl | rfl
      · rename (_ = false) => q; rw [g0] at q; cases q
      · unfold dueF; rw [if_neg (by decide), if_neg (by omega)]
    exact done _ _ _ _ (fr_see (by assumption) (by rw [e]; kst_all)) (by assumption)
theorem b9 (w : World) (L : Addr) (R : List (Addr × Obj)) (aS aN aW : Addr) (k j c h : Nat) (t : Tok) (x : Int) (tx tp ts tv tr tg tb : Tok) (D : Addr) (ta tb2 tc : Tok) (cD : Nat) (PP : Paint k j c h) (tu tl tq : Tok) (td : Tok) (z1 : ta ≠ 0) (z2 : tu ≠ 0) (z3 : tl ≠ 0) : StOk w L (inSt 3 9) [(Str.ofString "script", .ref aS), (Str.ofString "numbers", .ref aN), (Str.ofString "wheel", .ref aW), (Str.ofString "x", .int x tx), (Str.ofString "share", .float (shr c) ts), (Str.ofString "value", .float (vF h) tv), (Str.ofString "red", .float (fr k j c h) tr), (Str.ofString "green", .float (fg k j c h) tg), (Str.ofString "blue", .float (fb k j c h) tb), (Str.ofString "told", .ref D), (Str.ofString "hue", .float (told0 k j c h) tu), (Str.ofString "light", .float (lightF k j c h) tl), (Str.ofString "purity", .float (purF k j c h) tq), (Str.ofString "due", .int (dueF c h) td)] ((D, tup3 (.float (told0 k j c h) ta) (.float (told1 k j c h) tb2) (.float (fmx3 k j c h) tc) cD) :: R) (fun h₀ s Q => ∀ (u' : Str → Option Value) (h' : Heap) (tk' : Nat), Fr h₀ L h' (kstB u' [(Str.ofString "script", .ref aS), (Str.ofString "numbers", .ref aN), (Str.ofString "wheel", .ref aW), (Str.ofString "x", .int x tx), (Str.ofString "red", .float (fr k j c h) tr), (Str.ofString "green", .float (fg k j c h) tg), (Str.ofString "blue", .float (fb k j c h) tb), (Str.ofString "told", .ref D), (Str.ofString "light", .float (lightF k j c h) tl)]) → News h₀ L h' ((D, tup3 (.float (told0 k j c h) ta) (.float (told1 k j c h) tb2) (.float (fmx3 k j c h) tc) cD) :: R) → Q .next { s with heap := h', toks := tk' }) := by
  dsimp only [StOk]
  intro mean mg mb fa cd h₀ s Q E u B X T F N done
  have NB := booked X
  show wpAny _ (callerA.deeper (envOfC _ ⟨_, _, _, _, _⟩ _ _ _)) (exec (Stmt.If _ _ _ _) (envOfC _ ⟨_, _, _, _, _⟩ _ _ _)) _ _ _
  revert X
  k_fill
  intro X
  dsimp only
  repeat' (first | (k_unfold; (try dsimp only)) | (k_end; wrow_close) | ((fail_if_success ((with_reducible show wpAny _ _ (binaryOp .Mult (Value.float _ _) (Value.int _ _)) _ _ _))); walk1) | (dsimp only; (fail_if_success ((with_reducible show wpAny _ _ (binaryOp .Mult (Value.float _ _) (Value.int _ _)) _ _ _))); walk1) | (leave1; (try dsimp only)) | fail "no step")
  refine mul_fin (by decide +kernel) ?_
  (try dsimp only)
  repeat' (first | (k_unfold; (try dsimp only)) | (k_end; wrow_close) | ((fail_if_success ((with_reducible show wpAny _ _ (call (Value.type "int") [Value.float _ _]) _ _ _))); walk1) | (dsimp only; (fail_if_success ((with_reducible show wpAny _ _ (call (Value.type "int") [Value.float _ _]) _ _ _))); walk1) | (leave1; (try dsimp only)) | fail "no step")
  refine int_fin rfl PP.d1 ?_
  (try dsimp only)
  rw [PP.d2]
  repeat' (first | (k_unfold; (try dsimp only)) | (k_end; wrow_close) | ((fail_if_success ((with_reducible show wpAny _ _ (compareOp _ _ _) _ _ _))); walk1) | (dsimp only; (fail_if_success ((with_reducible show wpAny _ _ (compareOp _ _ _) _ _ _))); walk1) | (leave1; (try dsimp only)) | fail "no step")
  rename News _ _ _ _ => N9
  rename Fr _ _ _ _ => F9
  have hb9 := booked_keep NB F9.keep
  refine ne3 (news_list N9 (vs := [_, _, _]) (by k_mem)) (news_list N9 (vs := [_, _, _]) List.mem_cons_self) (by ktr_units) (eqAt_float z2 z1 hb9 PP.c5) (eqAt_float z3 (Nat.succ_ne_zero _) hb9 PP.c6) (eqAt_int _ _ _) ?_
  (try dsimp only)
  repeat' (first | (k_unfold; (try dsimp only)) | (k_end; wrow_close) | ((fail_if_success ((with_reducible show Q _ _))); walk1) | (dsimp only; (fail_if_success ((with_reducible show Q _ _))); walk1) | (leave1; (try dsimp only)) | fail "no step")
  refine done _ _ _ (fr_see (by assumption) (by kst_all)) (cb_drop (by assumption) (by kcj_in))
theorem b10 (w : World) (L : Addr) (R : List (Addr × Obj)) (aS aN aW : Addr) (k j c h : Nat) (t : Tok) (x : Int) (tx tp ts tv tr tg tb : Tok) (D : Addr) (ta tb2 tc : Tok) (cD : Nat) (PP : Paint k j c h) (tu tl tq : Tok) (td : Tok) : StOk w L (inSt 3 10) [(Str.ofString "script", .ref aS), (Str.ofString "numbers", .ref aN), (Str.ofString "wheel", .ref aW), (Str.ofString "x", .int x tx), (Str.ofString "red", .float (fr k j c h) tr), (Str.ofString "green", .float (fg k j c h) tg), (Str.ofString "blue", .float (fb k j c h) tb), (Str.ofString "told", .ref D), (Str.ofString "light", .float (lightF k j c h) tl)] (R) (fun h₀ s Q => ∀ (tw : Tok) (u' : Str → Option Value) (h' : Heap) (tk' : Nat), Fr h₀ L h' (kstB u' [(Str.ofString "script", .ref aS), (Str.ofString "numbers", .ref aN), (Str.ofString "wheel", .ref aW), (Str.ofString "x", .int x tx), (Str.ofString "told", .ref D), (Str.ofString "word", .str (wordF k) tw)]) → News h₀ L h' (R) → Q .next { s with heap := h', toks := tk' }) := by
  dsimp only [StOk]
  intro mean mg mb fa cd h₀ s Q E u B X T F N done
  have NB := booked X
  show wpAny _ (callerA.deeper (envOfC _ ⟨_, _, _, _, _⟩ _ _ _)) (exec (Stmt.Assign _ _ _) (envOfC _ ⟨_, _, _, _, _⟩ _ _ _)) _ _ _
  revert X
  k_fill
  intro X
  dsimp only
  have e1 := PP.e1
  have e2 := PP.e2
  have e3 := PP.e3
  repeat' (first | (k_unfold; (try dsimp only)) | (k_end; wrow_close) | ((fail_if_success ((with_reducible show Q _ _))); walk1) | (dsimp only; (fail_if_success ((with_reducible show Q _ _))); walk1) | (leave1; (try dsimp only)) | fail "no step")
  · have q1 : upR k = true := by rw [← e1]; assumption
    have q2 : upG k = true := by rw [← e2]; assumption
    have q3 : upB k = true := by rw [← e3]; assumption
    have q : wordF k = Str.ofString "RGB" := by rw [wordF, q1, q2, q3]; decide +kernel
    exact done _ _ _ _ (fr_see (by assumption) (by rw [q]; kst_all)) (by assumption)
  · have q1 : upR k = true := by rw [← e1]; assumption
    have q2 : upG k = true := by rw [← e2]; assumption
    have q3 : upB k = false := by rw [← e3]; assumption
    have q : wordF k = Str.ofString "RGb" := by rw [wordF, q1, q2, q3]; decide +kernel
    exact done _ _ _ _ (fr_see (by assumption) (by rw [q]; kst_all)) (by assumption)
  · have q1 : upR k = true := by rw [← e1]; assumption
    have q2 : upG k = false := by rw [← e2]; assumption
    have q3 : upB k = true := by rw [← e3]; assumption
    have q : wordF k = Str.ofString "RgB" := by rw [wordF, q1, q2, q3]; decide +kernel
    exact done _ _ _ _ (fr_see (by assumption) (by rw [q]; kst_all)) (by assumption)
  · have q1 : upR k = true := by rw [← e1]; assumption
    have q2 : upG k = false := by rw [← e2]; assumption
    have q3 : upB k = false := by rw [← e3]; assumption
    have q : wordF k = Str.ofString "Rgb" := by rw [wordF, q1, q2, q3]; decide +kernel
    exact done _ _ _ _ (fr_see (by assumption) (by rw [q]; kst_all)) (by assumption)
  · have q1 : upR k = false := by rw [← e1]; assumption
    have q2 : upG k = true := by rw [← e2]; assumption
    have q3 : upB k = true := by rw [← e3]; assumption
    have q : wordF k = Str.ofString "rGB" := by rw [wordF, q1, q2, q3]; decide +kernel
    exact done _ _ _ _ (fr_see (by assumption) (by rw [q]; kst_all)) (by assumption)
  · have q1 : upR k = false := by rw [← e1]; assumption
    have q2 : upG k = true := by rw [← e2]; assumption
    have q3 : upB k = false := by rw [← e3]; assumption
    have q : wordF k = Str.ofString "rGb" := by rw [wordF, q1, q2, q3]; decide +kernel
    exact done _ _ _ _ (fr_see (by assumption) (by rw [q]; kst_all)) (by assumption)
  · have q1 : upR k = false := by rw [← e1]; assumption
    have q2 : upG k = false := by rw [← e2]; assumption
    have q3 : upB k = true := by rw [← e3]; assumption
    have q : wordF k = Str.ofString "rgB" := by rw [wordF, q1, q2, q3]; decide +kernel
    exact done _ _ _ _ (fr_see (by assumption) (by rw [q]; kst_all)) (by assumption)
  · have q1 : upR k = false := by rw [← e1]; assumption
    have q2 : upG k = false := by rw [← e2]; assumption
    have q3 : upB k = false := by rw [← e3]; assumption
    have q : wordF k = Str.ofString "rgb" := by rw [wordF, q1, q2, q3]; decide +kernel
    exact done _ _ _ _ (fr_see (by assumption) (by rw [q]; kst_all)) (by assumption)
end Mine
end
/-! part S3 -/
section
open PySem PySem.W PyProof.Rows PySem.Calls PySem.Spec
namespace Mine
set_option maxRecDepth 100000
set_option maxHeartbeats 8000000
set_option rowWalk.seconds 0
set_option linter.unusedVariables false
set_option linter.unusedSimpArgs false
theorem mul_len {h : Nat} (hh : h < 3) : (Txt.mul (Str.ofString "amp;") (h : Int)).length ≤ 8 := by
  have : ∀ h < 3, (Txt.mul (Str.ofString "amp;") ((h : Nat) : Int)).length ≤ 8 := by decide +kernel
  exact this h hh
theorem esc_small : ∀ g < 6, ∀ i < 4, (escN i (signS (g : Nat))).length ≤ 20 := by decide +kernel
theorem escLen {g : Int} {i : Nat} (h0 : 0 ≤ g) (h1 : g < 6) (hi : i < 4) : (escN i (signS g)).length ≤ 20 := by
  obtain ⟨n, rfl⟩ : ∃ n : Nat, g = (n : Int) := ⟨g.toNat, by omega⟩
  exact esc_small n (by omega) i hi
theorem b11 (w : World) (L : Addr) (R : List (Addr × Obj)) (aS aN aW : Addr) (k j c h : Nat) (t : Tok) (x : Int) (tx tp ts tv tr tg tb : Tok) (D : Addr) (ta tb2 tc : Tok) (cD : Nat) (PP : Paint k j c h) (tu tl tq td tw : Tok) (g : Int) (hg0 : 0 ≤ g) (hg6 : g < 6) (hh : h < 3) (sv : List Value) (ns : List Int) (hsv : IntsAre sv ns) (hns : ns.length ≤ 63) (hg : ns.sum.fmod 6 = g) : StOk w L (inSt 3 11) [(Str.ofString "script", .ref aS), (Str.ofString "numbers", .ref aN), (Str.ofString "wheel", .ref aW), (Str.ofString "x", .int x tx), (Str.ofString "told", .ref D), (Str.ofString "word", .str (wordF k) tw)] (R) (fun h₀ s Q => h₀.IsList aS sv.toArray ∧ ∀ (tr2 : Tok) (u' : Str → Option Value) (h' : Heap) (tk' : Nat), Fr h₀ L h' (kstB u' [(Str.ofString "script", .ref aS), (Str.ofString "numbers", .ref aN), (Str.ofString "wheel", .ref aW), (Str.ofString "x", .int x tx), (Str.ofString "told", .ref D), (Str.ofString "word", .str (wordF k) tw), (Str.ofString "written", .str (signS g) tr2)]) → News h₀ L h' (R) → Q .next { s with heap := h', toks := tk' }) := by
  dsimp only [StOk]
  intro mean mg mb fa cd h₀ s Q E u B X T F N done
  have NB := booked X
  show wpAny _ (callerA.deeper (envOfC _ ⟨_, _, _, _, _⟩ _ _ _)) (exec (Stmt.Assign _ _ _) (envOfC _ ⟨_, _, _, _, _⟩ _ _ _)) _ _ _
  revert X
  k_fill
  intro X
  dsimp only
  obtain ⟨hS, done⟩ := done
  have es : signS g = Txt.item (Str.ofString "&<\"\t\n\r") g := rfl
  rw [es] at done
  repeat' (first | (k_unfold; (try dsimp only)) | (k_end; wrow_close) | ((fail_if_success ((with_reducible show wpAny _ _ (subscriptTail _ _ _ _) _ _ _))); walk1) | (dsimp only; (fail_if_success ((with_reducible show wpAny _ _ (subscriptTail _ _ _ _) _ _ _))); walk1) | (leave1; (try dsimp only)) | fail "no step")
  rw [hg]
  repeat' (first | (k_unfold; (try dsimp only)) | (k_end; wrow_close) | ((fail_if_success ((with_reducible show Q _ _))); walk1) | (dsimp only; (fail_if_success ((with_reducible show Q _ _))); walk1) | (leave1; (try dsimp only)) | fail "no step")
  refine done _ _ _ _ (fr_see (by assumption) (by kst_all)) (by assumption)
theorem b12 (w : World) (L : Addr) (R : List (Addr × Obj)) (aS aN aW : Addr) (k j c h : Nat) (t : Tok) (x : Int) (tx tp ts tv tr tg tb : Tok) (D : Addr) (ta tb2 tc : Tok) (cD : Nat) (PP : Paint k j c h) (tu tl tq td tw : Tok) (g : Int) (hg0 : 0 ≤ g) (hg6 : g < 6) (hh : h < 3) (tr2 : Tok) : StOkE w L (inSt 3 12) [(Str.ofString "script", .ref aS), (Str.ofString "numbers", .ref aN), (Str.ofString "wheel", .ref aW), (Str.ofString "x", .int x tx), (Str.ofString "told", .ref D), (Str.ofString "word", .str (wordF k) tw), (Str.ofString "written", .str (signS g) tr2)] ((D, tup3 (.float (told0 k j c h) ta) (.float (told1 k j c h) tb2) (.float (fmx3 k j c h) tc) cD) :: R) (fun h₀ s Q => ∀ (tr3 : Tok) (u' : Str → Option Value) (h' : Heap) (tk' : Nat), Fr h₀ L h' (kstB u' [(Str.ofString "script", .ref aS), (Str.ofString "numbers", .ref aN), (Str.ofString "wheel", .ref aW), (Str.ofString "x", .int x tx), (Str.ofString "word", .str (wordF k) tw), (Str.ofString "written", .str (escN (h + 1) (signS g)) tr3)]) → News h₀ L h' ((D, tup3 (.float (told0 k j c h) ta) (.float (told1 k j c h) tb2) (.float (fmx3 k j c h) tc) cD) :: R) → Q .next { s with heap := h', toks := tk' }) := by
  dsimp only [StOkE]
  intro mean mg mb fa cd h₀ s Q E u B X T F N hE done
  have NB := booked X
  show wpAny _ (callerA.deeper (envOfC _ ⟨_, _, _, _, _⟩ _ _ _)) (exec (Stmt.For _ _ _ _ _) (envOfC _ ⟨_, _, _, _, _⟩ _ _ _)) _ _ _
  revert X
  k_fill
  intro X
  dsimp only
  (with_unfolding_all refine For_invVF F rfl rfl ?_ (by intro _; rfl) hE)
  repeat' (first | (k_unfold; (try dsimp only)) | (k_end; wrow_close) | ((fail_if_success ((with_reducible show wpAny _ _ (binaryOp .Mult (Value.float _ _) (Value.int _ _)) _ _ _))); walk1) | (dsimp only; (fail_if_success ((with_reducible show wpAny _ _ (binaryOp .Mult (Value.float _ _) (Value.int _ _)) _ _ _))); walk1) | (leave1; (try dsimp only)) | fail "no step")
  refine mul_fin (by decide +kernel) ?_
  (try dsimp only)
  repeat' (first | (k_unfold; (try dsimp only)) | (k_end; wrow_close) | ((fail_if_success ((with_reducible show wpAny _ _ (call (Value.type "int") [Value.float _ _]) _ _ _))); walk1) | (dsimp only; (fail_if_success ((with_reducible show wpAny _ _ (call (Value.type "int") [Value.float _ _]) _ _ _))); walk1) | (leave1; (try dsimp only)) | fail "no step")
  refine int_fin rfl PP.f1 ?_
  (try dsimp only)
  rw [PP.f2]
  repeat' (first | (k_unfold; (try dsimp only)) | (k_end; wrow_close) | ((fail_if_success ((with_reducible show wpAny _ _ (pyIter _) _ _ _))); walk1) | (dsimp only; (fail_if_success ((with_reducible show wpAny _ _ (pyIter _) _ _ _))); walk1) | (leave1; (try dsimp only)) | fail "no step")
  rename Fr _ _ _ _ => F2
  rename News _ _ _ _ => N2
  rename IsRange _ _ _ _ _ _ _ _ => rgX
  (with_unfolding_all refine my_range (h + 1) (fun _ => (D, tup3 (.float (told0 k j c h) ta) (.float (told1 k j c h) tb2) (.float (fmx3 k j c h) tc) cD) :: R) (fun (q : Nat × Tok) => [(Str.ofString "script", .ref aS), (Str.ofString "numbers", .ref aN), (Str.ofString "wheel", .ref aW), (Str.ofString "x", .int x tx), (Str.ofString "told", .ref D), (Str.ofString "word", .str (wordF k) tw), (Str.ofString "written", .str (escN q.1 (signS g)) q.2)]) (fun i q => q.1 = i) (0, tr2) rfl rgX (by omega) (by omega) F2 (cb_drop N2 (by kcj_in)) (by kst_all) rfl (by intro q; exact (by decide +kernel : ([Str.ofString "script", Str.ofString "numbers", Str.ofString "wheel", Str.ofString "x", Str.ofString "told", Str.ofString "word", Str.ofString "written"] : List Str).all (fun z => !(z == Str.ofString "turn")) = true)) ?_ ?_)
  · rintro ⟨i', tk0⟩ i t9 u9 hh9 tk9 own hi hoff e F3 N3
    dsimp only at e
    subst e
    clear F2 N2 rgX done hE
    have hlen := escLen (i := i') hg0 hg6 (by omega)
    dsimp only at F3
    simp only [List.cons_append, List.nil_append] at F3
    replace N3 : News h₀ L hh9 ((((D, tup3 (.float (told0 k j c h) ta) (.float (told1 k j c h) tb2) (.float (fmx3 k j c h) tc) cD) :: R)) ++ own) := N3
    simp only [List.cons_append] at N3
    repeat' (first | (k_unfold; (try dsimp only)) | (k_end; wrow_close) | ((fail_if_success ((with_reducible show wpAny _ _ (call (Value.ref 28) _ _) _ _ _))); walk1) | (dsimp only; (fail_if_success ((with_reducible show wpAny _ _ (call (Value.ref 28) _ _) _ _ _))); walk1) | (leave1; (try dsimp only)) | fail "no step")
    k_dflt (refine' esc_ok _ _ _ _ hlen   _ _ _ _ _ _ _ _ _ _ _ _ _ _ _ _ _ _ _ _ ?zk1 ?zk2 ?zk3 ?zk4 ?zk5 ?zkK ?zkd ?zku ?zkR; (case zk1 => k_asm); (case zk2 => k_asm); (case zk3 => k_asm); (case zk4 => k_asm); (case zk5 => k_asm); (case zkK => first | exact rfl | assumption); (case zkd => ktr_room); (case zku => ktr_units))
    intro t7 h7 tk7 F7 N7
    (try dsimp only)
    (try k_fold)
    repeat' (first | (k_unfold; (try dsimp only)) | (k_end; wrow_close) | ((fail_if_success ((with_reducible show InvPostN _ _ _ _ _ _ _ _ _))); walk1) | (dsimp only; (fail_if_success ((with_reducible show InvPostN _ _ _ _ _ _ _ _ _))); walk1) | (leave1; (try dsimp only)) | fail "no step")
    exact my_end (i' + 1, t7) (by assumption) (by assumption) (by dsimp only [escN]; kst_all) rfl (by kcj_in) (by kcj_in) rfl
  · rintro ⟨i', tk0⟩ u9 hh9 tk9 e F3 N3
    dsimp only at e
    subst e
    exact done _ _ _ _ (fr_see F3 (by kst_all)) N3
theorem b13 (w : World) (L : Addr) (R : List (Addr × Obj)) (aS aN aW : Addr) (k j c h : Nat) (t : Tok) (x : Int) (tx tp ts tv tr tg tb : Tok) (D : Addr) (ta tb2 tc : Tok) (cD : Nat) (PP : Paint k j c h) (tu tl tq td tw : Tok) (g : Int) (hg0 : 0 ≤ g) (hg6 : g < 6) (hh : h < 3) (hx3 : x.fmod 3 = (h : Int)) (tr2 : Tok) (sv : List Value) (ns : List Int) (hsv : IntsAre sv ns) (hns : ns.length ≤ 63) (hg : ns.sum.fmod 6 = g) : StOk w L (inSt 3 13) [(Str.ofString "script", .ref aS), (Str.ofString "numbers", .ref aN), (Str.ofString "wheel", .ref aW), (Str.ofString "x", .int x tx), (Str.ofString "word", .str (wordF k) tw), (Str.ofString "written", .str (escN (h + 1) (signS g)) tr2)] (R) (fun h₀ s Q => h₀.IsList aS sv.toArray ∧ ∀ (u' : Str → Option Value) (h' : Heap) (tk' : Nat), Fr h₀ L h' (kstB u' [(Str.ofString "script", .ref aS), (Str.ofString "numbers", .ref aN), (Str.ofString "wheel", .ref aW), (Str.ofString "word", .str (wordF k) tw), (Str.ofString "written", .str (escN (h + 1) (signS g)) tr2)]) → News h₀ L h' (R) → Q .next { s with heap := h', toks := tk' }) := by
  dsimp only [StOk]
  intro mean mg mb fa cd h₀ s Q E u B X T F N done
  have NB := booked X
  show wpAny _ (callerA.deeper (envOfC _ ⟨_, _, _, _, _⟩ _ _ _)) (exec (Stmt.If _ _ _ _) (envOfC _ ⟨_, _, _, _, _⟩ _ _ _)) _ _ _
  revert X
  k_fill
  intro X
  dsimp only
  obtain ⟨hS, done⟩ := done
  have hcase : (h = 0 ∧ x.fmod 3 = 0) ∨ (h = 1 ∧ x.fmod 3 = 1) ∨ (h = 2 ∧ x.fmod 3 = 2) := by omega
  repeat' (first | (k_unfold; (try dsimp only)) | (k_end; wrow_close) | ((fail_if_success ((with_reducible show wpAny _ _ (binaryOp .Mult (Value.str _ _) (Value.int _ _)) _ _ _))); walk1) | (dsimp only; (fail_if_success ((with_reducible show wpAny _ _ (binaryOp .Mult (Value.str _ _) (Value.int _ _)) _ _ _))); walk1) | (leave1; (try dsimp only)) | fail "no step")
  clear hcase
  rw [hx3]
  have hml := mul_len hh
  all_goals repeat' (first | (k_unfold; (try dsimp only)) | (k_end; wrow_close) | ((fail_if_success ((with_reducible show wpAny _ _ (subscriptTail _ _ _ _) _ _ _))); walk1) | (dsimp only; (fail_if_success ((with_reducible show wpAny _ _ (subscriptTail _ _ _ _) _ _ _))); walk1) | (leave1; (try dsimp only)) | fail "no step")
  all_goals rw [hg]
  all_goals (refine item_str (ss := names6) (news_list (by assumption) List.mem_cons_self) (by unfold names6; repeat constructor) hg0 (by unfold names6; simp; omega) (by omega) ?_)
  all_goals (intro t8; (try dsimp only))
  all_goals (have hln := names6_len hg0 hg6)
  all_goals repeat' (first | (k_unfold; (try dsimp only)) | (k_end; wrow_close) | ((fail_if_success ((with_reducible show wpAny _ _ (compareOp _ _ _) _ _ _))); walk1) | (dsimp only; (fail_if_success ((with_reducible show wpAny _ _ (compareOp _ _ _) _ _ _))); walk1) | (leave1; (try dsimp only)) | fail "no step")
  all_goals (have hEQ := lit13 hh hg0 hg6)
  all_goals repeat' (first | (k_unfold; (try dsimp only)) | (k_end; wrow_close) | ((fail_if_success ((with_reducible show Q _ _))); walk1) | (dsimp only; (fail_if_success ((with_reducible show Q _ _))); walk1) | (leave1; (try dsimp only)) | fail "no step")
  all_goals first
    | exact done _ _ _ (fr_see (by assumption) (by kst_all)) (cb_drop (by assumption) (by kcj_in))
    | (exfalso; rename ((_ != _) = true) => q; exact absurd hEQ (bne_iff_ne.mp q))
end Mine
end
/-! part S4 -/
section
open PySem PySem.W PyProof.Rows PySem.Calls PySem.Spec
namespace Mine
set_option maxRecDepth 100000
set_option maxHeartbeats 8000000
set_option rowWalk.seconds 0
set_option linter.unusedVariables false
set_option linter.unusedSimpArgs false
local macro_rules | `(tactic| k_all) => `(tactic| assumption)
theorem push_list {vs : List Value} {v : Value} : (vs ++ [v]).toArray = vs.toArray.push v := by simp
theorem word_len {k : Nat} (hk : k < 6) : (wordF k).length = 3 := by
  have : ∀ k < 6, (wordF k).length = 3 := by decide +kernel
  exact this k hk
theorem b14 (w : World) (L : Addr) (R : List (Addr × Obj)) (aS aN aW : Addr) (k j c h : Nat) (t : Tok) (x : Int) (tx tp ts tv tr tg tb : Tok) (D : Addr) (ta tb2 tc : Tok) (cD : Nat) (PP : Paint k j c h) (tu tl tq td tw : Tok) (g : Int) (hg0 : 0 ≤ g) (hg6 : g < 6) (hh : h < 3) (tr2 : Tok) (hk : k < 6) (aT : Addr) (tv2 : List Value) (ct : Nat) (oO oT : Obj) (hT : oT.data = .cell (some (.ref aT))) (hne : ∀ p ∈ (L + 1 + 1, oO) :: (L + 1, oT) :: R, p.1 ≠ aT) (htl : tv2.length ≤ 6) : StOk w L (inSt 3 14) [(Str.ofString "script", .ref aS), (Str.ofString "numbers", .ref aN), (Str.ofString "wheel", .ref aW), (Str.ofString "word", .str (wordF k) tw), (Str.ofString "written", .str (escN (h + 1) (signS g)) tr2)] ((aT, listOf tv2.toArray ct) :: (L + 1 + 1, oO) :: (L + 1, oT) :: R) (fun h₀ s Q => ∀ (tz : Tok) (ct2 : Nat) (u' : Str → Option Value) (h' : Heap) (tk' : Nat), Fr h₀ L h' (kstB u' [(Str.ofString "script", .ref aS), (Str.ofString "numbers", .ref aN), (Str.ofString "wheel", .ref aW)]) → News h₀ L h' ((aT, listOf (tv2 ++ [Value.str (wordF k ++ escN (h + 1) (signS g)) tz]).toArray ct2) :: (L + 1 + 1, oO) :: (L + 1, oT) :: R) → Q .next { s with heap := h', toks := tk' }) := by
  dsimp only [StOk]
  intro mean mg mb fa cd h₀ s Q E u B X T F N done
  have NB := booked X
  show wpAny _ (callerA.deeper (envOfC _ ⟨_, _, _, _, _⟩ _ _ _)) (exec (Stmt.Expr _ _) (envOfC _ ⟨_, _, _, _, _⟩ _ _ _)) _ _ _
  revert X
  k_fill
  intro X
  dsimp only
  have hl1 := escLen (i := h + 1) hg0 hg6 (by omega)
  have hl2 := word_len hk
  repeat' (first | (k_unfold; (try dsimp only)) | (k_end; wrow_close) | ((fail_if_success ((with_reducible show Q _ _))); walk1) | (dsimp only; (fail_if_success ((with_reducible show Q _ _))); walk1) | (leave1; (try dsimp only)) | fail "no step")
  simp only [push_list] at done
  exact done _ _ _ _ _ (fr_see (by assumption) (by kst_all)) (by assumption)
end Mine
end
/-! part S5 -/
section
open PySem PySem.W PyProof.Rows PySem.Calls PySem.Spec
namespace Mine
set_option maxRecDepth 100000
set_option maxHeartbeats 8000000
set_option rowWalk.seconds 0
set_option linter.unusedVariables false
set_option linter.unusedSimpArgs false
theorem StrsAre.snoc {vs : List Value} {ss : List Str} (h : StrsAre vs ss) (z : Str) (t : Tok) : StrsAre (vs ++ [.str z t]) (ss ++ [z]) := by
  induction h with
  | nil => exact .cons _ _ .nil
  | cons a b _ ih => exact .cons _ _ ih
theorem loop1 (w : World) (L : Addr) (R : List (Addr × Obj)) (aS aN aW aT : Addr) (sv us wv : List Value) (ns xs : List Int) (cN cW : Nat) (bs : Nat → Addr) (wvs : Nat → List Value) (cc : Nat → Nat) (oO oT : Obj) (g : Int) (hg0 : 0 ≤ g) (hg6 : g < 6) (hg : ns.sum.fmod 6 = g) (hsv : IntsAre sv ns) (hns : ns.length ≤ 63) (hT : oT.data = .cell (some (.ref aT))) (hx : IntsAre us xs) (hxl : xs.length = 6) (hN : (aN, listOf us.toArray cN) ∈ R) (hW : (aW, listOf wv.toArray cW) ∈ R) (hwv : ∀ i, i < 6 → wv[i]? = some (.ref (bs i))) (hrow : ∀ i, i < 6 → (bs i, listOf (wvs i).toArray (cc i)) ∈ R) (hri : ∀ i, i < 6 → IntsAre (wvs i) (wheelM.getD i [])) (hne : ∀ p ∈ (L + 1 + 1, oO) :: (L + 1, oT) :: R, p.1 ≠ aT) : StOkE w L (lawSt 3) [(Str.ofString "script", .ref aS), (Str.ofString "numbers", .ref aN), (Str.ofString "wheel", .ref aW)] ((aT, listOf [].toArray 0) :: (L + 1 + 1, oO) :: (L + 1, oT) :: R) (fun h₀ s Q => h₀.IsList aS sv.toArray ∧ ∀ (tv : List Value) (ct : Nat) (u' : Str → Option Value) (h' : Heap) (tk' : Nat), StrsAre tv ((List.range 6).map (textF xs g)) → Fr h₀ L h' (kstB u' [(Str.ofString "script", .ref aS), (Str.ofString "numbers", .ref aN), (Str.ofString "wheel", .ref aW)]) → News h₀ L h' ((aT, listOf tv.toArray ct) :: (L + 1 + 1, oO) :: (L + 1, oT) :: R) → Q .next { s with heap := h', toks := tk' }) := by
  dsimp only [StOkE]
  intro mean mg mb fa cd h₀ s Q E u B X T F N hE ⟨hS, done⟩
  show wpAny _ (callerA.deeper (envOfC _ lawSc _ _ _)) (exec (Stmt.For _ _ _ _ _) (envOfC _ lawSc _ _ _)) _ _ _
  (with_unfolding_all refine For_invVF F rfl rfl ?_ (by intro _; rfl) hE)
  revert X
  k_fill
  intro X
  (try dsimp only)
  repeat' (first | (k_unfold; (try dsimp only)) | (k_end; wrow_close) | ((fail_if_success ((with_reducible show wpAny _ _ (pyIter _) _ _ _))); walk1) | (dsimp only; (fail_if_success ((with_reducible show wpAny _ _ (pyIter _) _ _ _))); walk1) | (leave1; (try dsimp only)) | fail "no step")
  rename Fr _ _ _ _ => F2
  rename News _ _ _ _ => N2
  rename IsRange _ _ _ _ _ _ _ _ => rgX
  (with_unfolding_all refine my_range (σ := List Value × Nat) 6 (fun (q : List Value × Nat) => (aT, listOf q.1.toArray q.2) :: (L + 1 + 1, oO) :: (L + 1, oT) :: R) (fun _ => [(Str.ofString "script", .ref aS), (Str.ofString "numbers", .ref aN), (Str.ofString "wheel", .ref aW)]) (fun i q => StrsAre q.1 ((List.range i).map (textF xs g))) ([], 0) rfl rgX (by decide) (by decide) F2 (cb_drop N2 (by kcj_in)) (by kst_all) .nil (by intro q; exact (by decide +kernel : ([Str.ofString "script", Str.ofString "numbers", Str.ofString "wheel"] : List Str).all (fun z => !(z == Str.ofString "k")) = true)) ?_ ?_)
  · rintro ⟨tv, ct⟩ i t u9 hh tk own hi hoff hP F3 N3
    dsimp only at hP
    clear F2 N2 rgX done
    (try clear F)
    (try clear N)
    replace N3 : News h₀ L hh (((aT, listOf tv.toArray ct) :: (L + 1 + 1, oO) :: (L + 1, oT) :: R) ++ own) := N3
    simp only [List.cons_append] at N3
    (try dsimp only at F3)
    (try simp only [List.cons_append, List.nil_append] at F3)
    have hne' : ∀ p ∈ (L + 1 + 1, oO) :: (L + 1, oT) :: (R ++ own), p.1 ≠ aT := by
      intro p hp
      have hp' : p ∈ ((L + 1 + 1, oO) :: (L + 1, oT) :: R) ++ own := hp
      rcases List.mem_append.mp hp' with h1 | h1
      · exact hne p h1
      · exact hoff p h1 aT (List.mem_map.mpr ⟨_, List.mem_cons_self, rfl⟩)
    have mR : ∀ p ∈ R, p ∈ (aT, listOf tv.toArray ct) :: (L + 1 + 1, oO) :: (L + 1, oT) :: (R ++ own) := fun p hp => List.mem_cons_of_mem _ (List.mem_cons_of_mem _ (List.mem_cons_of_mem _ (List.mem_append_left _ hp)))
    have htl : tv.length ≤ 6 := by rw [hP.length]; simp; omega
    refine wpAny_execs_cons (b0 w L _ aS aN aW i t us xs cN hi hx hxl (mR _ hN) mean mg mb fa cd h₀ _ _ _ _ B X T F3 N3 ?_)
    intro tx u0 h0 tk0 F4 N4
    have hh3 : hgt xs i = ((xs.getD i 0).fmod 3).toNat := rfl
    have htf : textF xs g i = wordF i ++ escN (hgt xs i + 1) (signS g) := rfl
    generalize xs.getD i 0 = x at *
    have hx3 : x.fmod 3 = (hgt xs i : Int) := by rw [hh3, Int.fmod_eq_emod_of_nonneg _ (by decide)]; omega
    have hhl : hgt xs i < 3 := by rw [hh3, Int.fmod_eq_emod_of_nonneg _ (by decide)]; omega
    clear hh3
    generalize hgt xs i = h at *
    refine wpAny_execs_cons (b1 w L _ aS aN aW i t x tx wv cW bs wvs cc hi (mR _ hW) hwv (fun k hk => mR _ (hrow k hk)) hri mean mg mb fa cd h₀ _ _ _ _ B X T F4 N4 ?_)
    intro j tp u1 h1 tk1 hj hz1 F5 N5
    refine wpAny_execs_cons (b2 w L _ aS aN aW i j t x tx tp mean mg mb fa cd h₀ _ _ _ _ B X T F5 N5 ⟨hz1, ?_⟩)
    intro c ts u2 h2 tk2 hc hts F6 N6
    have PP := paintP hi hj hc hhl
    have hlen : (wheelM.getD i []).length ≤ 3 := by
      have : i = 0 ∨ i = 1 ∨ i = 2 ∨ i = 3 ∨ i = 4 ∨ i = 5 := six_cases hi
      rcases this with h | h | h | h | h | h <;> rw [h] <;> decide
    refine wpAny_execs_cons (b3 w L _ aS aN aW i j c h t x tx tp ts hx3 hhl mean mg mb fa cd h₀ _ _ _ _ B X T F6 N6 ?_)
    intro tv3 u3 h3 tk3 hv F7 N7
    refine wpAny_execs_cons (b4 w L _ aS aN aW i j c h t x tx tp ts tv3 PP hi (by omega) hv mean mg mb fa cd h₀ _ _ _ _ B X T F7 N7 ?_)
    intro tr tg tb u4 h4 tk4 hr hgg hb F8 N8
    refine wpAny_execs_cons (b5 w L _ aS aN aW i j c h t x tx tp ts tv3 PP tr tg tb hr hgg hb mean mg mb fa cd h₀ _ _ _ _ B X T F8 N8 ?_)
    intro D ta tb2 tc cD u5 h5 tk5 hta htb htc hD F9 N9
    refine wpAny_execs_cons (b6 w L _ aS aN aW i j c h t x tx tp ts tv3 tr tg tb D ta tb2 tc cD PP hts hv htb htc mean mg mb fa cd h₀ _ _ _ _ B X T F9 N9 ?_)
    intro u6 h6 tk6 F10 N10
    refine wpAny_execs_cons (b7 w L _ aS aN aW i j c h t x tx tp ts tv3 tr tg tb D ta tb2 tc cD PP mean mg mb fa cd h₀ _ _ _ _ B X T F10 N10 ?_)
    intro tu tl tq u7 h7 tk7 htu htl2 F11 N11
    refine wpAny_execs_cons (b8 w L _ aS aN aW i j c h t x tx tp ts tv3 tr tg tb D ta tb2 tc cD PP tu tl tq hc hx3 mean mg mb fa cd h₀ _ _ _ _ B X T F11 N11 ?_)
    intro td u8 h8 tk8 F12 N12
    refine wpAny_execs_cons (b9 w L _ aS aN aW i j c h t x tx tp ts tv3 tr tg tb D ta tb2 tc cD PP tu tl tq td hta htu htl2 mean mg mb fa cd h₀ _ _ _ _ B X T F12 N12 ?_)
    intro u10 h10 tk10 F13 N13
    refine wpAny_execs_cons (b10 w L _ aS aN aW i j c h t x tx tp ts tv3 tr tg tb D ta tb2 tc cD PP tu tl tq td mean mg mb fa cd h₀ _ _ _ _ B X T F13 N13 ?_)
    intro tw u11 h11 tk11 F14 N14
    refine wpAny_execs_cons (b11 w L _ aS aN aW i j c h t x tx tp ts tv3 tr tg tb D ta tb2 tc cD PP tu tl tq td tw g hg0 hg6 hhl sv ns hsv hns hg mean mg mb fa cd h₀ _ _ _ _ B X T F14 N14 ⟨hS, ?_⟩)
    intro tr2 u12 h12 tk12 F15 N15
    refine wpAny_execs_cons (b12 w L _ aS aN aW i j c h t x tx tp ts tv3 tr tg tb D ta tb2 tc cD PP tu tl tq td tw g hg0 hg6 hhl tr2 mean mg mb fa cd h₀ _ _ _ _ B X T F15 N15 ?hE2 ?_)
    case hE2 => exact hE
    intro tr3 u13 h13 tk13 F16 N16
    refine wpAny_execs_cons (b13 w L _ aS aN aW i j c h t x tx tp ts tv3 tr tg tb D ta tb2 tc cD PP tu tl tq td tw g hg0 hg6 hhl hx3 tr3 sv ns hsv hns hg mean mg mb fa cd h₀ _ _ _ _ B X T F16 N16 ⟨hS, ?_⟩)
    intro u14 h14 tk14 F17 N17
    refine wpAny_execs_cons (b14 w L (R ++ own) aS aN aW i j c h t x tx tp ts tv3 tr tg tb D ta tb2 tc cD PP tu tl tq td tw g hg0 hg6 hhl tr3 hi aT tv ct oO oT hT hne' htl mean mg mb fa cd h₀ _ _ _ _ B X T F17 (cb_drop N17 (fun p hp => List.mem_cons_of_mem _ hp)) ?_)
    intro tz ct2 u15 h15 tk15 F18 N18
    refine wpAny_execs_nil ?_
    exact my_end (tv ++ [Value.str (wordF i ++ escN (h + 1) (signS g)) tz], ct2) F18 N18 (by kst_all) rfl (by kcj_in) (by kcj_in) (by rw [List.range_succ, List.map_append]; show StrsAre _ (_ ++ [textF xs g i]); rw [htf]; exact StrsAre.snoc hP _ _)
  · rintro ⟨tv, ct⟩ u9 hh9 tk9 hP F3 N3
    exact done _ _ _ _ _ hP F3 N3
end Mine
end
/-! part S6 -/
section
open PySem PySem.W PyProof.Rows PySem.Calls PySem.Spec
namespace Mine
set_option maxRecDepth 100000
set_option maxHeartbeats 8000000
set_option rowWalk.seconds 0
set_option linter.unusedVariables false
set_option linter.unusedSimpArgs false
theorem c4 (w : World) (L : Addr) (R : List (Addr × Obj)) (aS aN aW : Addr) (sv us : List Value) (ns xs : List Int) (cN : Nat) (g : Int) (hg0 : 0 ≤ g) (hg6 : g < 6) (hg : ns.sum.fmod 6 = g) (hsv : IntsAre sv ns) (hns : ns.length ≤ 63) (hx : IntsAre us xs) (hxl : xs.length = 6) (hN : (aN, listOf us.toArray cN) ∈ R) : StOk w L (lawSt 4) [(Str.ofString "script", .ref aS), (Str.ofString "numbers", .ref aN), (Str.ofString "wheel", .ref aW)] (R) (fun h₀ s Q => ∀ (tp tn : Tok) (u' : Str → Option Value) (h' : Heap) (tk' : Nat), Fr h₀ L h' (kstB u' [(Str.ofString "script", .ref aS), (Str.ofString "numbers", .ref aN), (Str.ofString "wheel", .ref aW), (Str.ofString "page", .str (pageS xs) tp), (Str.ofString "names", .str (namesS xs) tn)]) → News h₀ L h' (R) → Q .next { s with heap := h', toks := tk' }) := by
  dsimp only [StOk]
  intro mean mg mb fa cd h₀ s Q E u B X T F N done
  have NB := booked X
  show wpAny _ (callerA.deeper (envOfC _ ⟨_, _, _, _, _⟩ _ _ _)) (exec (Stmt.Assign _ _ _) (envOfC _ ⟨_, _, _, _, _⟩ _ _ _)) _ _ _
  revert X
  k_fill
  intro X
  dsimp only
  repeat' (first | (k_unfold; (try dsimp only)) | (k_end; wrow_close) | ((fail_if_success ((with_reducible show wpAny _ _ (call (Value.ref 80) _ _) _ _ _))); walk1) | (dsimp only; (fail_if_success ((with_reducible show wpAny _ _ (call (Value.ref 80) _ _) _ _ _))); walk1) | (leave1; (try dsimp only)) | fail "no step")
  rename News _ _ _ _ => N5
  rename Fr _ _ _ _ => F5
  replace N5 := cb_drop (news := (aN, listOf us.toArray cN) :: _) N5 (by intro p hp; rcases List.mem_cons.mp hp with rfl | hp; exact List.mem_cons_of_mem _ hN; exact hp)
  k_dflt (refine' page_ok _ _ _ _ _ _ _ _ hx hxl ?zl0 _   _ _ _ _ _ _ _ _ _ _ _ _ _ _ _ _ _ _ _ _ ?zk1 ?zk2 ?zk3 ?zk4 ?zk5 ?zkK ?zkd ?zku ?zkR; (case zk1 => k_asm); (case zk2 => k_asm); (case zk3 => k_asm); (case zk4 => k_asm); (case zk5 => k_asm); (case zl0 => (unfold names8; repeat constructor)); (case zkK => first | exact rfl | assumption); (case zkd => ktr_room); (case zku => ktr_units))
  intro D1 tp tn c1 h1 tk1 F7 N7 l7
  (try dsimp only)
  (try k_fold)
  repeat' (first | (k_unfold; (try dsimp only)) | (k_end; wrow_close) | ((fail_if_success ((with_reducible show Q _ _))); walk1) | (dsimp only; (fail_if_success ((with_reducible show Q _ _))); walk1) | (leave1; (try dsimp only)) | fail "no step")
  exact done _ _ _ _ _ (fr_see (by assumption) (by kst_all)) (cb_drop (by assumption) (by kcj_in))
theorem c5 (w : World) (L : Addr) (R : List (Addr × Obj)) (aS aN aW : Addr) (sv us : List Value) (ns xs : List Int) (cN : Nat) (g : Int) (hg0 : 0 ≤ g) (hg6 : g < 6) (hg : ns.sum.fmod 6 = g) (hsv : IntsAre sv ns) (hns : ns.length ≤ 63) (hx : IntsAre us xs) (hxl : xs.length = 6) (hN : (aN, listOf us.toArray cN) ∈ R) (tp tn : Tok) : StOk w L (lawSt 5) [(Str.ofString "script", .ref aS), (Str.ofString "numbers", .ref aN), (Str.ofString "wheel", .ref aW), (Str.ofString "page", .str (pageS xs) tp), (Str.ofString "names", .str (namesS xs) tn)] (R) (fun h₀ s Q => h₀.IsList aS sv.toArray ∧ ∀ (tf : Tok) (u' : Str → Option Value) (h' : Heap) (tk' : Nat), Fr h₀ L h' (kstB u' [(Str.ofString "script", .ref aS), (Str.ofString "numbers", .ref aN), (Str.ofString "wheel", .ref aW), (Str.ofString "page", .str (pageS xs) tp), (Str.ofString "names", .str (namesS xs) tn), (Str.ofString "leaf", .str (esc (signS g)) tf)]) → News h₀ L h' (R) → Q .next { s with heap := h', toks := tk' }) := by
  dsimp only [StOk]
  intro mean mg mb fa cd h₀ s Q E u B X T F N done
  have NB := booked X
  show wpAny _ (callerA.deeper (envOfC _ ⟨_, _, _, _, _⟩ _ _ _)) (exec (Stmt.Assign _ _ _) (envOfC _ ⟨_, _, _, _, _⟩ _ _ _)) _ _ _
  revert X
  k_fill
  intro X
  dsimp only
  obtain ⟨hS, done⟩ := done
  have hlen := escLen (i := 0) hg0 hg6 (by omega)
  have es : signS g = Txt.item (Str.ofString "&<\"\t\n\r") g := rfl
  repeat' (first | (k_unfold; (try dsimp only)) | (k_end; wrow_close) | ((fail_if_success ((with_reducible show wpAny _ _ (subscriptTail _ _ _ _) _ _ _))); walk1) | (dsimp only; (fail_if_success ((with_reducible show wpAny _ _ (subscriptTail _ _ _ _) _ _ _))); walk1) | (leave1; (try dsimp only)) | fail "no step")
  rw [hg]
  repeat' (first | (k_unfold; (try dsimp only)) | (k_end; wrow_close) | ((fail_if_success ((with_reducible show wpAny _ _ (call (Value.ref 28) _ _) _ _ _))); walk1) | (dsimp only; (fail_if_success ((with_reducible show wpAny _ _ (call (Value.ref 28) _ _) _ _ _))); walk1) | (leave1; (try dsimp only)) | fail "no step")
  (try rw [← es])
  k_dflt (refine' esc_ok _ _ _ _ hlen   _ _ _ _ _ _ _ _ _ _ _ _ _ _ _ _ _ _ _ _ ?zk1 ?zk2 ?zk3 ?zk4 ?zk5 ?zkK ?zkd ?zku ?zkR; (case zk1 => k_asm); (case zk2 => k_asm); (case zk3 => k_asm); (case zk4 => k_asm); (case zk5 => k_asm); (case zkK => first | exact rfl | assumption); (case zkd => ktr_room); (case zku => ktr_units))
  intro t7 h7 tk7 F7 N7
  (try dsimp only)
  (try k_fold)
  repeat' (first | (k_unfold; (try dsimp only)) | (k_end; wrow_close) | ((fail_if_success ((with_reducible show Q _ _))); walk1) | (dsimp only; (fail_if_success ((with_reducible show Q _ _))); walk1) | (leave1; (try dsimp only)) | fail "no step")
  exact done _ _ _ _ (fr_see (by assumption) (by kst_all)) (by assumption)
theorem c6 (w : World) (L : Addr) (R : List (Addr × Obj)) (aS aN aW : Addr) (sv us : List Value) (ns xs : List Int) (cN : Nat) (g : Int) (hg0 : 0 ≤ g) (hg6 : g < 6) (hg : ns.sum.fmod 6 = g) (hsv : IntsAre sv ns) (hns : ns.length ≤ 63) (hx : IntsAre us xs) (hxl : xs.length = 6) (hN : (aN, listOf us.toArray cN) ∈ R) (tp tn tf : Tok) : StOk w L (lawSt 6) [(Str.ofString "script", .ref aS), (Str.ofString "numbers", .ref aN), (Str.ofString "wheel", .ref aW), (Str.ofString "page", .str (pageS xs) tp), (Str.ofString "names", .str (namesS xs) tn), (Str.ofString "leaf", .str (esc (signS g)) tf)] (R) (fun h₀ s Q => ∀ (u' : Str → Option Value) (h' : Heap) (tk' : Nat), Fr h₀ L h' (kstB u' [(Str.ofString "script", .ref aS), (Str.ofString "numbers", .ref aN), (Str.ofString "wheel", .ref aW), (Str.ofString "page", .str (pageS xs) tp), (Str.ofString "names", .str (namesS xs) tn), (Str.ofString "leaf", .str (esc (signS g)) tf)]) → News h₀ L h' (R) → Q .next { s with heap := h', toks := tk' }) := by
  dsimp only [StOk]
  intro mean mg mb fa cd h₀ s Q E u B X T F N done
  have NB := booked X
  show wpAny _ (callerA.deeper (envOfC _ ⟨_, _, _, _, _⟩ _ _ _)) (exec (Stmt.If _ _ _ _) (envOfC _ ⟨_, _, _, _, _⟩ _ _ _)) _ _ _
  revert X
  k_fill
  intro X
  dsimp only
  have hpl := page_len xs
  have hle : (esc (signS g)).length ≤ 20 := escLen (i := 1) hg0 hg6 (by omega)
  have hlz := (leaf_len hg0 hg6).1
  have hzl := (leaf_len hg0 hg6).2
  repeat' (first | (k_unfold; (try dsimp only)) | (k_end; wrow_close) | ((fail_if_success ((with_reducible show wpAny _ _ (call (Value.ref 28) _ _) _ _ _))); walk1) | (dsimp only; (fail_if_success ((with_reducible show wpAny _ _ (call (Value.ref 28) _ _) _ _ _))); walk1) | (leave1; (try dsimp only)) | fail "no step")
  k_dflt (refine' esc_ok _ _ _ _ hpl   _ _ _ _ _ _ _ _ _ _ _ _ _ _ _ _ _ _ _ _ ?zk1 ?zk2 ?zk3 ?zk4 ?zk5 ?zkK ?zkd ?zku ?zkR; (case zk1 => k_asm); (case zk2 => k_asm); (case zk3 => k_asm); (case zk4 => k_asm); (case zk5 => k_asm); (case zkK => first | exact rfl | assumption); (case zkd => ktr_room); (case zku => ktr_units))
  intro t7 h7 tk7 F7 N7
  (try dsimp only)
  (try k_fold)
  repeat' (first | (k_unfold; (try dsimp only)) | (k_end; wrow_close) | ((fail_if_success ((with_reducible show wpAny _ _ (compareOp _ _ _) _ _ _))); walk1) | (dsimp only; (fail_if_success ((with_reducible show wpAny _ _ (compareOp _ _ _) _ _ _))); walk1) | (leave1; (try dsimp only)) | fail "no step")
  rw [page_law]
  clear hpl
  generalize namesS xs = NM at *
  generalize pageS xs = PM at *
  walk1
  rw [show (NM != NM) = false by simp]
  repeat' (first | (k_unfold; (try dsimp only)) | (k_end; wrow_close) | ((fail_if_success ((with_reducible show wpAny _ _ (call (Value.ref 63) _ _) _ _ _))); walk1) | (dsimp only; (fail_if_success ((with_reducible show wpAny _ _ (call (Value.ref 63) _ _) _ _ _))); walk1) | (leave1; (try dsimp only)) | fail "no step")
  k_dflt (refine' lev_ok _ _ _ _ _ _ _ _ hlz hzl   _ _ _ _ _ _ _ _ _ _ _ _ _ _ _ _ _ _ _ _ ?yk1 ?yk2 ?yk3 ?yk4 ?yk5 ?ykK ?ykd ?yku ?ykR; (case yk1 => k_asm); (case yk2 => k_asm); (case yk3 => k_asm); (case yk4 => k_asm); (case yk5 => k_asm); (case ykK => first | exact rfl | assumption); (case ykd => ktr_room); (case yku => ktr_units))
  intro t8 h8 tk8 F8 N8
  (try dsimp only)
  (try k_fold)
  repeat' (first | (k_unfold; (try dsimp only)) | (k_end; wrow_close) | ((fail_if_success ((with_reducible show wpAny _ _ (compareOp _ _ _) _ _ _))); walk1) | (dsimp only; (fail_if_success ((with_reducible show wpAny _ _ (compareOp _ _ _) _ _ _))); walk1) | (leave1; (try dsimp only)) | fail "no step")
  rw [leaf_law hg0 hg6]
  repeat' (first | (k_unfold; (try dsimp only)) | (k_end; wrow_close) | ((fail_if_success ((with_reducible show Q _ _))); walk1) | (dsimp only; (fail_if_success ((with_reducible show Q _ _))); walk1) | (leave1; (try dsimp only)) | fail "no step")
  exact done _ _ _ (fr_see (by assumption) (by kst_all)) (cb_drop (by assumption) (by kcj_in))
end Mine
end
/-! part S7 -/
section
open PySem PySem.W PyProof.Rows PySem.Calls PySem.Spec
namespace Mine
set_option maxRecDepth 100000
set_option maxHeartbeats 8000000
set_option rowWalk.seconds 0
set_option linter.unusedVariables false
set_option linter.unusedSimpArgs false
theorem c7 (w : World) (L : Addr) (R : List (Addr × Obj)) (aS aN aW : Addr) : StOk w L (lawSt 7) [(Str.ofString "script", .ref aS), (Str.ofString "numbers", .ref aN), (Str.ofString "wheel", .ref aW)] (R) (fun h₀ s Q => ∀ (A : Addr) (cA : Nat) (as : Nat → Addr) (vs : Nat → List Value) (cc : Nat → Nat) (u' : Str → Option Value) (h' : Heap) (tk' : Nat), (∀ i, i < 6 → IntsAre (vs i) [0, 0, 0, 0, 0, 0]) → ((List.range 6).map as).Nodup → (∀ i, i < 6 → ∀ q ∈ R, q.1 < as i) → (∀ i, i < 6 → A ≠ as i) → (∀ q ∈ R, q.1 ≠ A) → Fr h₀ L h' (kstB u' [(Str.ofString "script", .ref aS), (Str.ofString "numbers", .ref aN), (Str.ofString "wheel", .ref aW), (Str.ofString "near", .ref A)]) → News h₀ L h' ((A, listOf ((List.range 6).map (fun i => Value.ref (as i))).toArray cA) :: (rowsL 6 as vs cc ++ R)) → Q .next { s with heap := h', toks := tk' }) := by
  dsimp only [StOk]
  intro mean mg mb fa cd h₀ s Q E u B X T F N done
  have NB := booked X
  show wpAny _ (callerA.deeper (envOfC _ ⟨_, _, _, _, _⟩ _ _ _)) (exec (Stmt.Assign _ _ _) (envOfC _ ⟨_, _, _, _, _⟩ _ _ _)) _ _ _
  revert X
  k_fill
  intro X
  dsimp only
  k_dflt (refine LCg.Assign_ListComp_U (F₀ := by k_asm) (by rfl) (by with_unfolding_all rfl) (by with_unfolding_all rfl) (by decide) (by rfl) (by decide) (by rfl) (by rfl) (by rfl) ?_)
  repeat' (first | (k_unfold; (try dsimp only)) | (k_end; wrow_close) | ((fail_if_success ((with_reducible show LCg.CompSrc _ _ _ _ _ _ _ _ _ _ _ _ _ _))); walk1) | (dsimp only; (fail_if_success ((with_reducible show LCg.CompSrc _ _ _ _ _ _ _ _ _ _ _ _ _ _))); walk1) | (leave1; (try dsimp only)) | fail "no step")
  refine LCg.CompSrc.range rfl (by assumption) (by assumption) (by assumption) (by decide) (n := 6) (by decide) (by rw [sizeLine_eq]; omega) ?_
  intro g1
  refine comp_grow (fun _ o => ∃ vs c, o = listOf (List.toArray vs) c ∧ IntsAre vs [0, 0, 0, 0, 0, 0]) 6 (fun _ => trivial) ?_ ?_
  · intro i ys v I oI C oC D m₂ hh tk E' nw hi hv hC hx F N hnw
    repeat' (first | (k_unfold; (try dsimp only)) | (k_end; wrow_close) | ((fail_if_success ((with_reducible show GrowOut _ _ _ _ _ _ _ _ _ _ _ _ _ _))); walk1) | (dsimp only; (fail_if_success ((with_reducible show GrowOut _ _ _ _ _ _ _ _ _ _ _ _ _ _))); walk1) | (leave1; (try dsimp only)) | fail "no step")
    rename (_ < _ ∧ _) => l9
    refine ⟨_, _, _, _, rfl, rfl, by assumption, cb_drop (by assumption) (by kcj_in), ?_, ?_, ?_, ?_, _, _, rfl, by assumption⟩
    · exact l9.2.1
    · exact l9.2.2.1
    · exact l9.2.2.2.1
    · exact allLt_mem l9.2.2.2.2
  intro led hl1 hl2 hl3 hl4
  obtain ⟨as, vs, cc, rfl, hvs⟩ := rows_of hl1 hl2
  dsimp only [LCg.FinA]
  intro A hA tkA FA NA oA
  rw [rows_addr] at hl3
  rw [rows_refs] at NA
  refine done A _ as vs cc _ _ _ hvs hl3 (fun i hi q hq => hl4 _ (rows_mem hi) q hq) (fun i hi => Ne.symm (off1_mem oA _ (List.mem_append_left _ (rows_mem hi)))) (fun q hq => off1_mem oA q (List.mem_append_right _ hq)) (fr_see FA (by kst_all)) NA
end Mine
end
/-! part S8 -/
section
open PySem PySem.W PyProof.Rows PySem.Calls PySem.Spec
namespace Mine
set_option maxRecDepth 100000
set_option maxHeartbeats 8000000
set_option rowWalk.seconds 0
set_option linter.unusedVariables false
set_option linter.unusedSimpArgs false
/-- statement i of the body of the law's inner loop -/
def in2St (i : Nat) : Stmt := (forBody (inSt 8 0)).getD i (.Pass ⟨0, 0, 0, 0⟩)
theorem text_len {xs : List Int} {g : Int} {k : Nat} (h0 : 0 ≤ g) (h1 : g < 6) (hk : k < 6) : (textF xs g k).length ≤ 40 := by
  have hh : hgt xs k < 3 := by rw [hgt, Int.fmod_eq_emod_of_nonneg _ (by decide)]; omega
  have h2 := escLen (i := hgt xs k + 1) h0 h1 (by omega)
  have h3 := word_len hk
  show (wordF k ++ escN (hgt xs k + 1) (signS g)).length ≤ 40
  rw [Str.length_append]
  omega
theorem text_at {xs : List Int} {g : Int} {k : Nat} (hk : k < 6) : ((List.range 6).map (textF xs g)).getD k Str.empty = textF xs g k := by
  simp [List.getD_eq_getElem?_getD, hk]
theorem d0 (w : World) (L : Addr) (R : List (Addr × Obj)) (aN A : Addr) (one other : Nat) (to tt : Tok) (h1 h2 : Nat) (ho : one < 6) (hlt : other < one) (hh1 : h1 < 3) (hh2 : h2 < 3) (xs : List Int) (g : Int) (hg0 : 0 ≤ g) (hg6 : g < 6) (aT : Addr) (tv : List Value) (ct : Nat) (oT : Obj) (hT : oT.data = .cell (some (.ref aT))) (hmT : (aT, listOf tv.toArray ct) ∈ R) (hST : StrsAre tv ((List.range 6).map (textF xs g))) (e1 : hgt xs one = h1) (e2 : hgt xs other = h2) : StOk w L (in2St 0) [(Str.ofString "numbers", .ref aN), (Str.ofString "near", .ref A), (Str.ofString "one", .int (one : Int) to), (Str.ofString "other", .int (other : Int) tt)] ((L + 1, oT) :: R) (fun h₀ s Q => ∀ (tf : Tok) (u' : Str → Option Value) (h' : Heap) (tk' : Nat), Fr h₀ L h' (kstB u' [(Str.ofString "numbers", .ref aN), (Str.ofString "near", .ref A), (Str.ofString "one", .int (one : Int) to), (Str.ofString "other", .int (other : Int) tt), (Str.ofString "far", .int (farV one other h1 h2) tf)]) → News h₀ L h' ((L + 1, oT) :: R) → Q .next { s with heap := h', toks := tk' }) := by
  dsimp only [StOk]
  intro mean mg mb fa cd h₀ s Q E u B X T F N done
  have NB := booked X
  show wpAny _ (callerA.deeper (envOfC _ ⟨_, _, _, _, _⟩ _ _ _)) (exec (Stmt.Assign _ _ _) (envOfC _ ⟨_, _, _, _, _⟩ _ _ _)) _ _ _
  revert X
  k_fill
  intro X
  dsimp only
  have hTl : tv.length = 6 := by rw [hST.length]; simp
  have hm : (aT, listOf tv.toArray ct) ∈ (L + 1, oT) :: R := List.mem_cons_of_mem _ hmT
  have la := text_len (xs := xs) hg0 hg6 ho
  have lb := text_len (xs := xs) hg0 hg6 (show other < 6 by omega)
  have hfar := far_law hg0 hg6 ho hlt hh1 hh2
  rw [← e1, ← e2] at hfar
  rw [← e1, ← e2] at done
  change lev (textF xs g one) (textF xs g other) 19 = _ at hfar
  repeat' (first | (k_unfold; (try dsimp only)) | (k_end; wrow_close) | ((fail_if_success ((with_reducible show wpAny _ _ (subscriptTail _ _ _ _) _ _ _))); walk1) | (dsimp only; (fail_if_success ((with_reducible show wpAny _ _ (subscriptTail _ _ _ _) _ _ _))); walk1) | (leave1; (try dsimp only)) | fail "no step")
  refine item_str (news_list (by assumption) hm) hST (by omega) (by simp; omega) (by omega) ?_
  rw [Int.toNat_natCast, text_at ho]
  intro t1
  (try dsimp only)
  repeat' (first | (k_unfold; (try dsimp only)) | (k_end; wrow_close) | ((fail_if_success ((with_reducible show wpAny _ _ (subscriptTail _ _ _ _) _ _ _))); walk1) | (dsimp only; (fail_if_success ((with_reducible show wpAny _ _ (subscriptTail _ _ _ _) _ _ _))); walk1) | (leave1; (try dsimp only)) | fail "no step")
  refine item_str (news_list (by assumption) hm) hST (by omega) (by simp; omega) (by omega) ?_
  rw [Int.toNat_natCast, text_at (show other < 6 by omega)]
  intro t2
  (try dsimp only)
  generalize textF xs g one = TA at *
  generalize textF xs g other = TB at *
  repeat' (first | (k_unfold; (try dsimp only)) | (k_end; wrow_close) | ((fail_if_success ((with_reducible show wpAny _ _ (call (Value.ref 63) _ _) _ _ _))); walk1) | (dsimp only; (fail_if_success ((with_reducible show wpAny _ _ (call (Value.ref 63) _ _) _ _ _))); walk1) | (leave1; (try dsimp only)) | fail "no step")
  k_dflt (refine' lev_ok _ _ _ _ _ _ _ _ la lb   _ _ _ _ _ _ _ _ _ _ _ _ _ _ _ _ _ _ _ _ ?yk1 ?yk2 ?yk3 ?yk4 ?yk5 ?ykK ?ykd ?yku ?ykR; (case yk1 => k_asm); (case yk2 => k_asm); (case yk3 => k_asm); (case yk4 => k_asm); (case yk5 => k_asm); (case ykK => first | exact rfl | assumption); (case ykd => ktr_room); (case yku => ktr_units))
  intro t8 h8 tk8 F8 N8
  (try dsimp only)
  (try k_fold)
  rw [← hfar] at done
  repeat' (first | (k_unfold; (try dsimp only)) | (k_end; wrow_close) | ((fail_if_success ((with_reducible show Q _ _))); walk1) | (dsimp only; (fail_if_success ((with_reducible show Q _ _))); walk1) | (leave1; (try dsimp only)) | fail "no step")
  exact done _ _ _ _ (fr_see (by assumption) (by kst_all)) (cb_drop (by assumption) (by kcj_in))
end Mine
end
/-! part S9 -/
section
open PySem PySem.W PyProof.Rows PySem.Calls PySem.Spec
namespace Mine
set_option maxRecDepth 100000
set_option maxHeartbeats 8000000
set_option rowWalk.seconds 0
set_option linter.unusedVariables false
set_option linter.unusedSimpArgs false
theorem d1 (w : World) (L : Addr) (R : List (Addr × Obj)) (aN A : Addr) (one other : Nat) (to tt : Tok) (h1 h2 : Nat) (ho : one < 6) (hlt : other < one) (hh1 : h1 < 3) (hh2 : h2 < 3) (tf : Tok) (us : List Value) (xs : List Int) (cN : Nat) (hx : IntsAre us xs) (hxl : xs.length = 6) (hN : (aN, listOf us.toArray cN) ∈ R) (hx1 : (xs.getD one 0).fmod 3 = (h1 : Int)) (hx2 : (xs.getD other 0).fmod 3 = (h2 : Int)) : StOk w L (in2St 1) [(Str.ofString "numbers", .ref aN), (Str.ofString "near", .ref A), (Str.ofString "one", .int (one : Int) to), (Str.ofString "other", .int (other : Int) tt), (Str.ofString "far", .int (farV one other h1 h2) tf)] (R) (fun h₀ s Q => ∀ (tS : Tok) (u' : Str → Option Value) (h' : Heap) (tk' : Nat), Fr h₀ L h' (kstB u' [(Str.ofString "numbers", .ref aN), (Str.ofString "near", .ref A), (Str.ofString "one", .int (one : Int) to), (Str.ofString "other", .int (other : Int) tt), (Str.ofString "far", .int (farV one other h1 h2) tf), (Str.ofString "steps", .int ((((h1 : Int) - (h2 : Int)).natAbs : Nat) : Int) tS)]) → News h₀ L h' (R) → Q .next { s with heap := h', toks := tk' }) := by
  dsimp only [StOk]
  intro mean mg mb fa cd h₀ s Q E u B X T F N done
  have NB := booked X
  show wpAny _ (callerA.deeper (envOfC _ ⟨_, _, _, _, _⟩ _ _ _)) (exec (Stmt.Assign _ _ _) (envOfC _ ⟨_, _, _, _, _⟩ _ _ _)) _ _ _
  revert X
  k_fill
  intro X
  dsimp only
  repeat' (first | (k_unfold; (try dsimp only)) | (k_end; wrow_close) | ((fail_if_success ((with_reducible show wpAny _ _ (subscriptTail _ _ _ _) _ _ _))); walk1) | (dsimp only; (fail_if_success ((with_reducible show wpAny _ _ (subscriptTail _ _ _ _) _ _ _))); walk1) | (leave1; (try dsimp only)) | fail "no step")
  refine item_int (ns := xs) (news_list (by assumption) hN) hx (by omega) (by omega) (by omega) ?_
  intro t1
  simp only [Int.toNat_natCast]
  (try dsimp only)
  repeat' (first | (k_unfold; (try dsimp only)) | (k_end; wrow_close) | ((fail_if_success ((with_reducible show wpAny _ _ (binaryOp .Mod _ _) _ _ _))); walk1) | (dsimp only; (fail_if_success ((with_reducible show wpAny _ _ (binaryOp .Mod _ _) _ _ _))); walk1) | (leave1; (try dsimp only)) | fail "no step")
  refine mod_nz (by decide) hx1 ?_
  (try dsimp only)
  repeat' (first | (k_unfold; (try dsimp only)) | (k_end; wrow_close) | ((fail_if_success ((with_reducible show wpAny _ _ (subscriptTail _ _ _ _) _ _ _))); walk1) | (dsimp only; (fail_if_success ((with_reducible show wpAny _ _ (subscriptTail _ _ _ _) _ _ _))); walk1) | (leave1; (try dsimp only)) | fail "no step")
  refine item_int (ns := xs) (news_list (by assumption) hN) hx (by omega) (by omega) (by omega) ?_
  intro t2
  simp only [Int.toNat_natCast]
  (try dsimp only)
  repeat' (first | (k_unfold; (try dsimp only)) | (k_end; wrow_close) | ((fail_if_success ((with_reducible show wpAny _ _ (binaryOp .Mod _ _) _ _ _))); walk1) | (dsimp only; (fail_if_success ((with_reducible show wpAny _ _ (binaryOp .Mod _ _) _ _ _))); walk1) | (leave1; (try dsimp only)) | fail "no step")
  refine mod_nz (by decide) hx2 ?_
  (try dsimp only)
  have e : ((((h1 : Int) - (h2 : Int)).natAbs : Nat) : Int) = if (h1 : Int) - (h2 : Int) < 0 then -((h1 : Int) - (h2 : Int)) else (h1 : Int) - (h2 : Int) := by split <;> omega
  rw [e] at done
  repeat' (first | (k_unfold; (try dsimp only)) | (k_end; wrow_close) | ((fail_if_success ((with_reducible show Q _ _))); walk1) | (dsimp only; (fail_if_success ((with_reducible show Q _ _))); walk1) | (leave1; (try dsimp only)) | fail "no step")
  exact done _ _ _ _ (fr_see (by assumption) (by kst_all)) (by assumption)
theorem d2 (w : World) (L : Addr) (R : List (Addr × Obj)) (aN A : Addr) (one other : Nat) (to tt : Tok) (h1 h2 : Nat) (ho : one < 6) (hlt : other < one) (hh1 : h1 < 3) (hh2 : h2 < 3) (tf tS : Tok) : StOk w L (in2St 2) [(Str.ofString "numbers", .ref aN), (Str.ofString "near", .ref A), (Str.ofString "one", .int (one : Int) to), (Str.ofString "other", .int (other : Int) tt), (Str.ofString "far", .int (farV one other h1 h2) tf), (Str.ofString "steps", .int ((((h1 : Int) - (h2 : Int)).natAbs : Nat) : Int) tS)] (R) (fun h₀ s Q => ∀ (u' : Str → Option Value) (h' : Heap) (tk' : Nat), Fr h₀ L h' (kstB u' [(Str.ofString "numbers", .ref aN), (Str.ofString "near", .ref A), (Str.ofString "one", .int (one : Int) to), (Str.ofString "other", .int (other : Int) tt), (Str.ofString "far", .int (farV one other h1 h2) tf), (Str.ofString "steps", .int ((((h1 : Int) - (h2 : Int)).natAbs : Nat) : Int) tS)]) → News h₀ L h' (R) → Q .next { s with heap := h', toks := tk' }) := by
  dsimp only [StOk]
  intro mean mg mb fa cd h₀ s Q E u B X T F N done
  have NB := booked X
  show wpAny _ (callerA.deeper (envOfC _ ⟨_, _, _, _, _⟩ _ _ _)) (exec (Stmt.If _ _ _ _) (envOfC _ ⟨_, _, _, _, _⟩ _ _ _)) _ _ _
  revert X
  k_fill
  intro X
  dsimp only
  have hf : farV one other h1 h2 = 8 * (((h1 : Int) - (h2 : Int)).natAbs : Int) + min ((one : Int) - other) (6 - (one : Int) + other) := rfl
  generalize farV one other h1 h2 = fv at *
  generalize hz : (((h1 : Int) - (h2 : Int)).natAbs : Int) = z at *
  have hz3 : 0 ≤ z ∧ z < 3 := by omega
  clear hz
  repeat' (first | (k_unfold; (try dsimp only)) | (k_end; wrow_close) | ((fail_if_success ((with_reducible show wpAny _ _ (call (Value.builtin "min") _ _) _ _ _))); walk1) | (dsimp only; (fail_if_success ((with_reducible show wpAny _ _ (call (Value.builtin "min") _ _) _ _ _))); walk1) | (leave1; (try dsimp only)) | fail "no step")
  refine min_mine rfl (by assumption) (by assumption) ?_
  intro r9 t9 h9 tk9 e9 F9 N9
  (try dsimp only)
  repeat' (first | (k_unfold; (try dsimp only)) | (k_end; wrow_close) | ((fail_if_success ((with_reducible show Q _ _))); walk1) | (dsimp only; (fail_if_success ((with_reducible show Q _ _))); walk1) | (leave1; (try dsimp only)) | fail "no step")
  · exfalso; omega
  · exact done _ _ _ (fr_see (by assumption) (by kst_all)) (by assumption)
theorem far_near : ∀ one : Nat, one < 6 → ∀ other : Nat, other < one → min ((one : Int) - (other : Int)) (6 - (one : Int) + (other : Int)) = nearN one other ∧ 0 ≤ nearN one other ∧ nearN one other < 8 := by decide +kernel
theorem far_mod {one other h1 h2 : Nat} (ho : one < 6) (hlt : other < one) : (farV one other h1 h2).fmod 8 = nearN one other := by
  obtain ⟨e, e1, e2⟩ := far_near one ho other hlt
  rw [farV, e, Int.fmod_eq_emod_of_nonneg _ (by decide), Int.add_comm, Int.add_mul_emod_self_left, Int.emod_eq_of_lt e1 e2]
theorem refs_at {as : Nat → Addr} {i : Nat} (hi : i < 6) : ((List.range 6).map (fun i => Value.ref (as i)))[i]? = some (.ref (as i)) := by simp [hi]
theorem d3 (w : World) (L : Addr) (R : List (Addr × Obj)) (aN A : Addr) (one other : Nat) (to tt : Tok) (h1 h2 : Nat) (ho : one < 6) (hlt : other < one) (hh1 : h1 < 3) (hh2 : h2 < 3) (tf tS : Tok) (cA : Nat) (as : Nat → Addr) (vs : Nat → List Value) (cc : Nat → Nat) (ri : Nat → List Int) (hri : ∀ i, i < 6 → IntsAre (vs i) (ri i)) (hrl : ∀ i, i < 6 → (ri i).length = 6) (hnd : ((List.range 6).map as).Nodup) (hRa : ∀ i, i < 6 → ∀ q ∈ R, q.1 ≠ as i) (hA : ∀ i, i < 6 → A ≠ as i) : StOk w L (in2St 3) [(Str.ofString "numbers", .ref aN), (Str.ofString "near", .ref A), (Str.ofString "one", .int (one : Int) to), (Str.ofString "other", .int (other : Int) tt), (Str.ofString "far", .int (farV one other h1 h2) tf), (Str.ofString "steps", .int ((((h1 : Int) - (h2 : Int)).natAbs : Nat) : Int) tS)] ((A, listOf ((List.range 6).map (fun i => Value.ref (as i))).toArray cA) :: (rowsL 6 as vs cc ++ R)) (fun h₀ s Q => ∀ (tz : Tok) (u' : Str → Option Value) (h' : Heap) (tk' : Nat), Fr h₀ L h' (kstB u' [(Str.ofString "numbers", .ref aN), (Str.ofString "near", .ref A), (Str.ofString "one", .int (one : Int) to), (Str.ofString "other", .int (other : Int) tt), (Str.ofString "far", .int (farV one other h1 h2) tf), (Str.ofString "steps", .int ((((h1 : Int) - (h2 : Int)).natAbs : Nat) : Int) tS)]) → News h₀ L h' ((A, listOf ((List.range 6).map (fun i => Value.ref (as i))).toArray cA) :: (rowsL 6 as (updV vs one ((vs one).set other (.int (nearN one other) tz))) cc ++ R)) → Q .next { s with heap := h', toks := tk' }) := by
  dsimp only [StOk]
  intro mean mg mb fa cd h₀ s Q E u B X T F N done
  have NB := booked X
  show wpAny _ (callerA.deeper (envOfC _ ⟨_, _, _, _, _⟩ _ _ _)) (exec (Stmt.Assign _ _ _) (envOfC _ ⟨_, _, _, _, _⟩ _ _ _)) _ _ _
  revert X
  k_fill
  intro X
  dsimp only
  have hi6 : other < 6 := by omega
  repeat' (first | (k_unfold; (try dsimp only)) | (k_end; wrow_close) | ((fail_if_success ((with_reducible show wpAny _ _ (binaryOp .Mod _ _) _ _ _))); walk1) | (dsimp only; (fail_if_success ((with_reducible show wpAny _ _ (binaryOp .Mod _ _) _ _ _))); walk1) | (leave1; (try dsimp only)) | fail "no step")
  refine mod_nz (by decide) (far_mod ho hlt) ?_
  (try dsimp only)
  repeat' (first | (k_unfold; (try dsimp only)) | (k_end; wrow_close) | ((fail_if_success (first | (with_reducible show wpAny _ _ (subscriptTail _ _ _ _) _ _ _) | (with_reducible show wpAny _ _ (getItem _ _) _ _ _))); walk1) | (dsimp only; (fail_if_success (first | (with_reducible show wpAny _ _ (subscriptTail _ _ _ _) _ _ _) | (with_reducible show wpAny _ _ (getItem _ _) _ _ _))); walk1) | (leave1; (try dsimp only)) | fail "no step")
  refine item_val (news_list (by assumption) List.mem_cons_self) (by omega) (by omega) (refs_at (by omega)) ?_
  (try dsimp only)
  repeat' (first | (k_unfold; (try dsimp only)) | (k_end; wrow_close) | ((fail_if_success ((with_reducible show wpAny _ _ (setItem _ _ _) _ _ _))); walk1) | (dsimp only; (fail_if_success ((with_reducible show wpAny _ _ (setItem _ _ _) _ _ _))); walk1) | (leave1; (try dsimp only)) | fail "no step")
  rename News _ _ _ _ => N7
  rename Fr _ _ _ _ => F7
  refine ksa_set F7 N7 (rows_upd (i := one) (by omega) hnd (hRa _ (by omega)) (hA _ (by omega))) (hri _ (by omega)) (by omega) (by rw [hrl _ (by omega)]; omega) (by omega) ?_
  intro h8 F8 N8 _ _ _
  (try dsimp only)
  repeat' (first | (k_unfold; (try dsimp only)) | (k_end; wrow_close) | ((fail_if_success ((with_reducible show Q _ _))); walk1) | (dsimp only; (fail_if_success ((with_reducible show Q _ _))); walk1) | (leave1; (try dsimp only)) | fail "no step")
  exact done _ _ _ _ (fr_see (by assumption) (by kst_all)) (by assumption)
theorem d4 (w : World) (L : Addr) (R : List (Addr × Obj)) (aN A : Addr) (one other : Nat) (to tt : Tok) (h1 h2 : Nat) (ho : one < 6) (hlt : other < one) (hh1 : h1 < 3) (hh2 : h2 < 3) (tf tS : Tok) (cA : Nat) (as : Nat → Addr) (vs : Nat → List Value) (cc : Nat → Nat) (ri : Nat → List Int) (hri : ∀ i, i < 6 → IntsAre (vs i) (ri i)) (hrl : ∀ i, i < 6 → (ri i).length = 6) (hnd : ((List.range 6).map as).Nodup) (hRa : ∀ i, i < 6 → ∀ q ∈ R, q.1 ≠ as i) (hA : ∀ i, i < 6 → A ≠ as i) : StOk w L (in2St 4) [(Str.ofString "numbers", .ref aN), (Str.ofString "near", .ref A), (Str.ofString "one", .int (one : Int) to), (Str.ofString "other", .int (other : Int) tt), (Str.ofString "far", .int (farV one other h1 h2) tf), (Str.ofString "steps", .int ((((h1 : Int) - (h2 : Int)).natAbs : Nat) : Int) tS)] ((A, listOf ((List.range 6).map (fun i => Value.ref (as i))).toArray cA) :: (rowsL 6 as vs cc ++ R)) (fun h₀ s Q => ∀ (tz : Tok) (u' : Str → Option Value) (h' : Heap) (tk' : Nat), Fr h₀ L h' (kstB u' [(Str.ofString "numbers", .ref aN), (Str.ofString "near", .ref A), (Str.ofString "one", .int (one : Int) to), (Str.ofString "other", .int (other : Int) tt), (Str.ofString "far", .int (farV one other h1 h2) tf), (Str.ofString "steps", .int ((((h1 : Int) - (h2 : Int)).natAbs : Nat) : Int) tS)]) → News h₀ L h' ((A, listOf ((List.range 6).map (fun i => Value.ref (as i))).toArray cA) :: (rowsL 6 as (updV vs other ((vs other).set one (.int (nearN one other) tz))) cc ++ R)) → Q .next { s with heap := h', toks := tk' }) := by
  dsimp only [StOk]
  intro mean mg mb fa cd h₀ s Q E u B X T F N done
  have NB := booked X
  show wpAny _ (callerA.deeper (envOfC _ ⟨_, _, _, _, _⟩ _ _ _)) (exec (Stmt.Assign _ _ _) (envOfC _ ⟨_, _, _, _, _⟩ _ _ _)) _ _ _
  revert X
  k_fill
  intro X
  dsimp only
  have hi6 : other < 6 := by omega
  repeat' (first | (k_unfold; (try dsimp only)) | (k_end; wrow_close) | ((fail_if_success ((with_reducible show wpAny _ _ (binaryOp .Mod _ _) _ _ _))); walk1) | (dsimp only; (fail_if_success ((with_reducible show wpAny _ _ (binaryOp .Mod _ _) _ _ _))); walk1) | (leave1; (try dsimp only)) | fail "no step")
  refine mod_nz (by decide) (far_mod ho hlt) ?_
  (try dsimp only)
  repeat' (first | (k_unfold; (try dsimp only)) | (k_end; wrow_close) | ((fail_if_success (first | (with_reducible show wpAny _ _ (subscriptTail _ _ _ _) _ _ _) | (with_reducible show wpAny _ _ (getItem _ _) _ _ _))); walk1) | (dsimp only; (fail_if_success (first | (with_reducible show wpAny _ _ (subscriptTail _ _ _ _) _ _ _) | (with_reducible show wpAny _ _ (getItem _ _) _ _ _))); walk1) | (leave1; (try dsimp only)) | fail "no step")
  refine item_val (news_list (by assumption) List.mem_cons_self) (by omega) (by omega) (refs_at (by omega)) ?_
  (try dsimp only)
  repeat' (first | (k_unfold; (try dsimp only)) | (k_end; wrow_close) | ((fail_if_success ((with_reducible show wpAny _ _ (setItem _ _ _) _ _ _))); walk1) | (dsimp only; (fail_if_success ((with_reducible show wpAny _ _ (setItem _ _ _) _ _ _))); walk1) | (leave1; (try dsimp only)) | fail "no step")
  rename News _ _ _ _ => N7
  rename Fr _ _ _ _ => F7
  refine ksa_set F7 N7 (rows_upd (i := other) (by omega) hnd (hRa _ (by omega)) (hA _ (by omega))) (hri _ (by omega)) (by omega) (by rw [hrl _ (by omega)]; omega) (by omega) ?_
  intro h8 F8 N8 _ _ _
  (try dsimp only)
  repeat' (first | (k_unfold; (try dsimp only)) | (k_end; wrow_close) | ((fail_if_success ((with_reducible show Q _ _))); walk1) | (dsimp only; (fail_if_success ((with_reducible show Q _ _))); walk1) | (leave1; (try dsimp only)) | fail "no step")
  exact done _ _ _ _ (fr_see (by assumption) (by kst_all)) (by assumption)
end Mine
end
/-! part S10 -/
section
open PySem PySem.W PyProof.Rows PySem.Calls PySem.Spec
namespace Mine
set_option maxRecDepth 100000
set_option maxHeartbeats 8000000
set_option rowWalk.seconds 0
set_option linter.unusedVariables false
set_option linter.unusedSimpArgs false
theorem hgt_of {xs : List Int} {k : Nat} : (xs.getD k 0).fmod 3 = (hgt xs k : Int) ∧ hgt xs k < 3 := by
  rw [hgt, Int.fmod_eq_emod_of_nonneg _ (by decide)]; omega
theorem stage_two {one other : Nat} (ho : one < 6) (hlt : other < one) {vs : Nat → List Value} {t1 t2 : Tok} (h : ∀ i, i < 6 → IntsAre (vs i) (stageRow one other i)) :
    ∀ i, i < 6 → IntsAre (updV (updV vs one ((vs one).set other (.int (nearN one other) t1))) other ((updV vs one ((vs one).set other (.int (nearN one other) t1)) other).set one (.int (nearN one other) t2)) i) (stageRow one (other + 1) i) := by
  intro i hi
  rw [stage_step one ho other hlt i hi]
  by_cases h1 : i = one
  · subst h1
    have h2 : i ≠ other := by omega
    rw [if_pos rfl, updV, if_neg h2, updV, if_pos rfl]
    exact ints_set (h i hi) _
  · rw [if_neg h1]
    by_cases h2 : i = other
    · subst h2
      rw [if_pos rfl, updV, if_pos rfl, updV, if_neg h1]
      exact ints_set (h i hi) _
    · rw [if_neg h2, updV, if_neg h2, updV, if_neg h1]
      exact h i hi
theorem inner2 (w : World) (L : Addr) (R : List (Addr × Obj)) (aN A : Addr) (cA : Nat) (as : Nat → Addr) (cc : Nat → Nat) (hnd : ((List.range 6).map as).Nodup) (hRa : ∀ i, i < 6 → ∀ q ∈ R, q.1 ≠ as i) (hA : ∀ i, i < 6 → A ≠ as i) (us : List Value) (xs : List Int) (cN : Nat) (hx : IntsAre us xs) (hxl : xs.length = 6) (hN : (aN, listOf us.toArray cN) ∈ R) (g : Int) (hg0 : 0 ≤ g) (hg6 : g < 6) (aT : Addr) (tv : List Value) (ct : Nat) (oT : Obj) (hT : oT.data = .cell (some (.ref aT))) (hmT : (aT, listOf tv.toArray ct) ∈ R) (hmC : (L + 1, oT) ∈ R) (hST : StrsAre tv ((List.range 6).map (textF xs g))) (one : Nat) (to : Tok) (ho : one < 6) (vs : Nat → List Value) (hvs : ∀ i, i < 6 → IntsAre (vs i) (stageRow one 0 i)) : StOkE w L (inSt 8 0) [(Str.ofString "numbers", .ref aN), (Str.ofString "near", .ref A), (Str.ofString "one", .int (one : Int) to)] ((A, listOf ((List.range 6).map (fun i => Value.ref (as i))).toArray cA) :: (rowsL 6 as vs cc ++ R)) (fun h₀ s Q => ∀ (vs' : Nat → List Value) (u' : Str → Option Value) (h' : Heap) (tk' : Nat), (∀ i, i < 6 → IntsAre (vs' i) (stageRow one one i)) → Fr h₀ L h' (kstB u' [(Str.ofString "numbers", .ref aN), (Str.ofString "near", .ref A), (Str.ofString "one", .int (one : Int) to)]) → News h₀ L h' ((A, listOf ((List.range 6).map (fun i => Value.ref (as i))).toArray cA) :: (rowsL 6 as vs' cc ++ R)) → Q .next { s with heap := h', toks := tk' }) := by
  dsimp only [StOkE]
  intro mean mg mb fa cd h₀ s Q E u B X T F N hE done
  show wpAny _ (callerA.deeper (envOfC _ lawSc _ _ _)) (exec (Stmt.For _ _ _ _ _) (envOfC _ lawSc _ _ _)) _ _ _
  (with_unfolding_all refine For_invVF F rfl rfl ?_ (by intro _; rfl) hE)
  revert X
  k_fill
  intro X
  (try dsimp only)
  repeat' (first | (k_unfold; (try dsimp only)) | (k_end; wrow_close) | ((fail_if_success ((with_reducible show wpAny _ _ (pyIter _) _ _ _))); walk1) | (dsimp only; (fail_if_success ((with_reducible show wpAny _ _ (pyIter _) _ _ _))); walk1) | (leave1; (try dsimp only)) | fail "no step")
  rename Fr _ _ _ _ => F2
  rename News _ _ _ _ => N2
  rename IsRange _ _ _ _ _ _ _ _ => rgX
  (with_unfolding_all refine my_range (σ := Nat → List Value) one (fun vs => (A, listOf ((List.range 6).map (fun i => Value.ref (as i))).toArray cA) :: (rowsL 6 as vs cc ++ R)) (fun _ => [(Str.ofString "numbers", .ref aN), (Str.ofString "near", .ref A), (Str.ofString "one", .int (one : Int) to)]) (fun other vs => ∀ i, i < 6 → IntsAre (vs i) (stageRow one other i)) vs rfl rgX (by omega) (by omega) F2 (cb_drop N2 (by kcj_in)) (by kst_all) hvs (by intro q; exact (by decide +kernel : ([Str.ofString "numbers", Str.ofString "near", Str.ofString "one"] : List Str).all (fun z => !(z == Str.ofString "other")) = true)) ?_ ?_)
  · intro vs1 other t u9 hh tk own hi hoff hP F3 N3
    clear F2 N2 rgX done
    replace N3 : News h₀ L hh (((A, listOf ((List.range 6).map (fun i => Value.ref (as i))).toArray cA) :: (rowsL 6 as vs1 cc ++ R)) ++ own) := N3
    rw [List.cons_append, List.append_assoc] at N3
    (try simp only [List.cons_append, List.nil_append] at F3)
    have hRa' : ∀ i, i < 6 → ∀ q ∈ R ++ own, q.1 ≠ as i := by
      intro i hi q hq
      rcases List.mem_append.mp hq with h1 | h1
      · exact hRa i hi q h1
      · refine hoff q h1 (as i) ?_
        rw [List.map_cons, List.map_append, rows_addr]
        exact List.mem_cons_of_mem _ (List.mem_append_left _ (List.mem_map.mpr ⟨i, List.mem_range.mpr hi, rfl⟩))
    have mR : ∀ (z : Nat → List Value) (p : Addr × Obj), p ∈ R → p ∈ (A, listOf ((List.range 6).map (fun i => Value.ref (as i))).toArray cA) :: (rowsL 6 as z cc ++ (R ++ own)) := fun z p hp => List.mem_cons_of_mem _ (List.mem_append_right _ (List.mem_append_left _ hp))
    obtain ⟨x1, g1⟩ := hgt_of (xs := xs) (k := one)
    obtain ⟨x2, g2⟩ := hgt_of (xs := xs) (k := other)
    refine wpAny_execs_cons (d0 w L _ aN A one other to t (hgt xs one) (hgt xs other) ho hi g1 g2 xs g hg0 hg6 aT tv ct oT hT (mR vs1 _ hmT) hST rfl rfl mean mg mb fa cd h₀ _ _ _ _ B X T F3 (cb_drop N3 (by intro p hp; rcases List.mem_cons.mp hp with e | hp; rw [e]; exact mR vs1 _ hmC; exact hp)) ?_)
    intro tf u0 h0 tk0 F4 N4
    replace N4 := cb_drop N4 (fun p hp => List.mem_cons_of_mem _ hp)
    refine wpAny_execs_cons (d1 w L _ aN A one other to t (hgt xs one) (hgt xs other) ho hi g1 g2 tf us xs cN hx hxl (mR vs1 _ hN) x1 x2 mean mg mb fa cd h₀ _ _ _ _ B X T F4 N4 ?_)
    intro tS u1 h1 tk1 F5 N5
    refine wpAny_execs_cons (d2 w L _ aN A one other to t (hgt xs one) (hgt xs other) ho hi g1 g2 tf tS mean mg mb fa cd h₀ _ _ _ _ B X T F5 N5 ?_)
    intro u2 h2 tk2 F6 N6
    refine wpAny_execs_cons (d3 w L (R ++ own) aN A one other to t (hgt xs one) (hgt xs other) ho hi g1 g2 tf tS cA as vs1 cc _ hP (fun i _ => stage_len _ _ _) hnd hRa' hA mean mg mb fa cd h₀ _ _ _ _ B X T F6 N6 ?_)
    intro tz u3 h3 tk3 F7 N7
    refine wpAny_execs_cons (d4 w L (R ++ own) aN A one other to t (hgt xs one) (hgt xs other) ho hi g1 g2 tf tS cA as _ cc (fun i => if i = one then (stageRow one other one).set other (nearN one other) else stageRow one other i) ?hr ?hl hnd hRa' hA mean mg mb fa cd h₀ _ _ _ _ B X T F7 N7 ?_)
    case hr =>
      intro i hi2
      by_cases e : i = one
      · subst e
        rw [if_pos rfl, updV, if_pos rfl]
        exact ints_set (hP i hi2) _
      · rw [if_neg e, updV, if_neg e]
        exact hP i hi2
    case hl =>
      intro i hi2
      (try dsimp only)
      split
      · rw [List.length_set]; exact stage_len _ _ _
      · exact stage_len _ _ _
    intro tz2 u4 h4 tk4 F8 N8
    refine wpAny_execs_nil ?_
    exact my_end _ F8 N8 (by kst_all) (by simp only [List.map_cons, List.map_append, rows_addr]) (by intro p hp; rcases List.mem_cons.mp hp with e | hp; rw [e]; exact List.mem_cons_self; rcases List.mem_append.mp hp with hp | hp; exact List.mem_cons_of_mem _ (List.mem_append_left _ hp); exact List.mem_cons_of_mem _ (List.mem_append_right _ (List.mem_append_left _ hp))) (fun p hp => List.mem_cons_of_mem _ (List.mem_append_right _ (List.mem_append_right _ hp))) (stage_two ho hi hP)
  · intro vs1 u9 hh9 tk9 hP F3 N3
    exact done _ _ _ _ hP F3 N3
theorem loop2 (w : World) (L : Addr) (R : List (Addr × Obj)) (aN A : Addr) (cA : Nat) (as : Nat → Addr) (cc : Nat → Nat) (hnd : ((List.range 6).map as).Nodup) (hRa : ∀ i, i < 6 → ∀ q ∈ R, q.1 ≠ as i) (hA : ∀ i, i < 6 → A ≠ as i) (us : List Value) (xs : List Int) (cN : Nat) (hx : IntsAre us xs) (hxl : xs.length = 6) (hN : (aN, listOf us.toArray cN) ∈ R) (g : Int) (hg0 : 0 ≤ g) (hg6 : g < 6) (aT : Addr) (tv : List Value) (ct : Nat) (oT : Obj) (hT : oT.data = .cell (some (.ref aT))) (hmT : (aT, listOf tv.toArray ct) ∈ R) (hmC : (L + 1, oT) ∈ R) (hST : StrsAre tv ((List.range 6).map (textF xs g))) (vs : Nat → List Value) (hvs : ∀ i, i < 6 → IntsAre (vs i) [0, 0, 0, 0, 0, 0]) : StOkE w L (lawSt 8) [(Str.ofString "numbers", .ref aN), (Str.ofString "near", .ref A)] ((A, listOf ((List.range 6).map (fun i => Value.ref (as i))).toArray cA) :: (rowsL 6 as vs cc ++ R)) (fun h₀ s Q => ∀ (vs' : Nat → List Value) (u' : Str → Option Value) (h' : Heap) (tk' : Nat), (∀ i, i < 6 → IntsAre (vs' i) (nearM.getD i [])) → Fr h₀ L h' (kstB u' [(Str.ofString "numbers", .ref aN), (Str.ofString "near", .ref A)]) → News h₀ L h' ((A, listOf ((List.range 6).map (fun i => Value.ref (as i))).toArray cA) :: (rowsL 6 as vs' cc ++ R)) → Q .next { s with heap := h', toks := tk' }) := by
  dsimp only [StOkE]
  intro mean mg mb fa cd h₀ s Q E u B X T F N hE done
  show wpAny _ (callerA.deeper (envOfC _ lawSc _ _ _)) (exec (Stmt.For _ _ _ _ _) (envOfC _ lawSc _ _ _)) _ _ _
  (with_unfolding_all refine For_invVF F rfl rfl ?_ (by intro _; rfl) hE)
  revert X
  k_fill
  intro X
  (try dsimp only)
  repeat' (first | (k_unfold; (try dsimp only)) | (k_end; wrow_close) | ((fail_if_success ((with_reducible show wpAny _ _ (pyIter _) _ _ _))); walk1) | (dsimp only; (fail_if_success ((with_reducible show wpAny _ _ (pyIter _) _ _ _))); walk1) | (leave1; (try dsimp only)) | fail "no step")
  rename Fr _ _ _ _ => F2
  rename News _ _ _ _ => N2
  rename IsRange _ _ _ _ _ _ _ _ => rgX
  (with_unfolding_all refine my_range (σ := Nat → List Value) 6 (fun vs => (A, listOf ((List.range 6).map (fun i => Value.ref (as i))).toArray cA) :: (rowsL 6 as vs cc ++ R)) (fun _ => [(Str.ofString "numbers", .ref aN), (Str.ofString "near", .ref A)]) (fun one vs => ∀ i, i < 6 → IntsAre (vs i) (stageRow one 0 i)) vs rfl rgX (by decide) (by decide) F2 (cb_drop N2 (by kcj_in)) (by kst_all) (by intro i hi; rw [stage_zero]; exact hvs i hi) (by intro q; exact (by decide +kernel : ([Str.ofString "numbers", Str.ofString "near"] : List Str).all (fun z => !(z == Str.ofString "one")) = true)) ?_ ?_)
  · intro vs1 one t u9 hh tk own hi hoff hP F3 N3
    clear F2 N2 rgX done
    replace N3 : News h₀ L hh (((A, listOf ((List.range 6).map (fun i => Value.ref (as i))).toArray cA) :: (rowsL 6 as vs1 cc ++ R)) ++ own) := N3
    rw [List.cons_append, List.append_assoc] at N3
    (try simp only [List.cons_append, List.nil_append] at F3)
    have hRa' : ∀ i, i < 6 → ∀ q ∈ R ++ own, q.1 ≠ as i := by
      intro i hi q hq
      rcases List.mem_append.mp hq with h1 | h1
      · exact hRa i hi q h1
      · refine hoff q h1 (as i) ?_
        rw [List.map_cons, List.map_append, rows_addr]
        exact List.mem_cons_of_mem _ (List.mem_append_left _ (List.mem_map.mpr ⟨i, List.mem_range.mpr hi, rfl⟩))
    refine wpAny_execs_cons (inner2 w L (R ++ own) aN A cA as cc hnd hRa' hA us xs cN hx hxl (List.mem_append_left _ hN) g hg0 hg6 aT tv ct oT hT (List.mem_append_left _ hmT) (List.mem_append_left _ hmC) hST one t hi vs1 hP mean mg mb fa cd h₀ _ _ _ _ B X T F3 N3 hE ?_)
    intro vs2 u4 h4 tk4 hP2 F8 N8
    refine wpAny_execs_nil ?_
    exact my_end vs2 F8 N8 (by kst_all) (by simp only [List.map_cons, List.map_append, rows_addr]) (by intro p hp; rcases List.mem_cons.mp hp with e | hp; rw [e]; exact List.mem_cons_self; rcases List.mem_append.mp hp with hp | hp; exact List.mem_cons_of_mem _ (List.mem_append_left _ hp); exact List.mem_cons_of_mem _ (List.mem_append_right _ (List.mem_append_left _ hp))) (fun p hp => List.mem_cons_of_mem _ (List.mem_append_right _ (List.mem_append_right _ hp))) (by intro i hi2; rw [stage_next one hi i hi2]; exact hP2 i hi2)
  · intro vs1 u9 hh9 tk9 hP F3 N3
    exact done _ _ _ _ (by intro i hi; rw [← stage_end i hi]; exact hP i hi) F3 N3
end Mine
end
/-! part S11 -/
section
open PySem PySem.W PyProof.Rows PySem.Calls PySem.Spec
namespace Mine
set_option maxRecDepth 100000
set_option maxHeartbeats 8000000
set_option rowWalk.seconds 0
set_option linter.unusedVariables false
set_option linter.unusedSimpArgs false
local macro_rules | `(tactic| k_all) => `(tactic| assumption)
def lenF (xs : List Int) (g : Int) (i : Nat) : Nat := (textF xs g i).length
theorem lit_len : ∀ k < 6, ∀ h < 3, ∀ g < 6, (litT k h g).length = 4 + 4 * h + (nameLit g).length := by decide +kernel
theorem lenF_eq {xs : List Int} {g : Int} {i : Nat} (h0 : 0 ≤ g) (h1 : g < 6) (hi : i < 6) : lenF xs g i = 4 + 4 * hgt xs i + (nameLit g.toNat).length := by
  show (wordF i ++ escN (hgt xs i + 1) (signS g)).length = _
  rw [text_lit hi (hgt_lt xs i) h0 h1]
  exact lit_len i hi _ (hgt_lt xs i) _ (by omega)
theorem lt_heights {xs : List Int} {g : Int} {i j : Nat} (h0 : 0 ≤ g) (h1 : g < 6) (hi : i < 6) (hj : j < 6) : ltL (lenF xs g i : Int) (i : Int) (lenF xs g j : Int) (j : Int) = hLt (hsF xs) i j := by
  rw [lenF_eq h0 h1 hi, lenF_eq h0 h1 hj, hLt, hs_at xs hi, hs_at xs hj, ltL]
  generalize hgt xs i = a
  generalize hgt xs j = b
  generalize (nameLit g.toNat).length = c
  by_cases h : a = b
  · subst h
    rw [if_pos (by simp), if_pos rfl]
    by_cases h2 : i = j
    · subst h2; rw [if_pos (by simp)]; simp
    · rw [if_neg (by simp; omega)]
      rw [Bool.eq_iff_iff, decide_eq_true_iff, decide_eq_true_iff]; omega
  · rw [if_neg (by simp; omega), if_neg h]
    rw [Bool.eq_iff_iff, decide_eq_true_iff, decide_eq_true_iff]; omega
theorem c9 (w : World) (L : Addr) (R : List (Addr × Obj)) (A aT : Addr) (xs : List Int) (g : Int) (hg0 : 0 ≤ g) (hg6 : g < 6) (tv : List Value) (ct : Nat) (oO oT : Obj) (hO : oO.data = .cell none) (hT : oT.data = .cell (some (.ref aT))) (hmT : (aT, listOf tv.toArray ct) ∈ R) (hST : StrsAre tv ((List.range 6).map (textF xs g))) (hne : ∀ p ∈ (L + 1, oT) :: R, p.1 ≠ L + 1 + 1) : StOk w L (lawSt 9) [(Str.ofString "near", .ref A)] ((L + 1 + 1, oO) :: (L + 1, oT) :: R) (fun h₀ s Q => ∀ (O : Addr) (ov : List Value) (cO : Nat) (oO2 : Obj) (u' : Str → Option Value) (h' : Heap) (tk' : Nat), oO2.data = .cell (some (.ref O)) → IntsAre ov ((sortP (hsF xs)).reverse.map fun (n : Nat) => (n : Int)) → Fr h₀ L h' (kstB u' [(Str.ofString "near", .ref A)]) → News h₀ L h' ((O, listOf ov.toArray cO) :: (L + 1 + 1, oO2) :: (L + 1, oT) :: R) → Q .next { s with heap := h', toks := tk' }) := by
  dsimp only [StOk]
  intro mean mg mb fa cd h₀ s Q E u B X T F N done
  have NB := booked X
  show wpAny _ (callerA.deeper (envOfC _ ⟨_, _, _, _, _⟩ _ _ _)) (exec (Stmt.Assign _ _ _) (envOfC _ ⟨_, _, _, _, _⟩ _ _ _)) _ _ _
  revert X
  k_fill
  intro X
  dsimp only
  have hTl : tv.length = 6 := by rw [hST.length]; simp
  refine wpAny_Assign_Name ?_
  repeat' (first | (k_unfold; (try dsimp only)) | (k_end; wrow_close) | ((fail_if_success ((with_reducible show wpAny _ _ (eval (Expr.ListComp _ _ _ _) _) _ _ _))); walk1) | (dsimp only; (fail_if_success ((with_reducible show wpAny _ _ (eval (Expr.ListComp _ _ _ _) _) _ _ _))); walk1) | (leave1; (try dsimp only)) | fail "no step")
  k_dflt (refine LCg.ListComp_U (F₀ := by k_asm) (by with_unfolding_all rfl) (by decide) (by rfl) (by decide) (by rfl) ?_)
  walk1
  walk1
  walk1
  walk1
  (try dsimp only)
  k_dflt (refine LCg.ListComp_U (F₀ := by k_asm) (by with_unfolding_all rfl) (by decide) (by rfl) (by decide) (by rfl) ?_)
  repeat' (first | (k_unfold; (try dsimp only)) | (k_end; wrow_close) | ((fail_if_success ((with_reducible show LCg.CompSrc _ _ _ _ _ _ _ _ _ _ _ _ _ _))); walk1) | (dsimp only; (fail_if_success ((with_reducible show LCg.CompSrc _ _ _ _ _ _ _ _ _ _ _ _ _ _))); walk1) | (leave1; (try dsimp only)) | fail "no step")
  refine LCg.CompSrc.range rfl (by assumption) (by assumption) (by assumption) (by decide) (n := 6) (by decide) (by rw [sizeLine_eq]; omega) ?_
  intro g1
  refine comp_grow (fun i o => ∃ t u c, o = listOf (List.toArray [.int (lenF xs g i : Int) t, .int (i : Int) u]) c) 6 (fun _ => trivial) ?_ ?_
  · intro i ys v I oI C oC D m₂ hh tk E' nw hi hv hC hx F N hnw
    obtain ⟨t, rfl⟩ := hv
    have mT : (L + 1, oT) ∈ nw := hnw _ (List.mem_cons_of_mem _ List.mem_cons_self)
    have mL : (aT, listOf tv.toArray ct) ∈ nw := hnw _ (List.mem_cons_of_mem _ (List.mem_cons_of_mem _ hmT))
    replace N := cb_drop (news := (L + 1, oT) :: (I, oI) :: (C, oC) :: (D, LCg.lst ys) :: nw) N (by intro p hp; rcases List.mem_cons.mp hp with e | hp; rw [e]; exact List.mem_cons_of_mem _ (List.mem_cons_of_mem _ (List.mem_cons_of_mem _ mT)); exact hp)
    repeat' (first | (k_unfold; (try dsimp only)) | (k_end; wrow_close) | ((fail_if_success ((with_reducible show wpAny _ _ (subscriptTail _ _ _ _) _ _ _))); walk1) | (dsimp only; (fail_if_success ((with_reducible show wpAny _ _ (subscriptTail _ _ _ _) _ _ _))); walk1) | (leave1; (try dsimp only)) | fail "no step")
    have eI : (0 : Int) + (i : Int) = (i : Int) := by omega
    rw [eI]
    refine item_str (news_list N (vs := tv) (c := ct) (List.mem_cons_of_mem _ (List.mem_cons_of_mem _ (List.mem_cons_of_mem _ (List.mem_cons_of_mem _ mL))))) hST (by omega) (by simp; omega) (by omega) ?_
    rw [Int.toNat_natCast, text_at hi]
    intro t1
    (try dsimp only)
    have htl := text_len (xs := xs) hg0 hg6 hi
    have elf : lenF xs g i = (textF xs g i).length := rfl
    generalize textF xs g i = TA at *
    repeat' (first | (k_unfold; (try dsimp only)) | (k_end; wrow_close) | ((fail_if_success ((with_reducible show GrowOut _ _ _ _ _ _ _ _ _ _ _ _ _ _))); walk1) | (dsimp only; (fail_if_success ((with_reducible show GrowOut _ _ _ _ _ _ _ _ _ _ _ _ _ _))); walk1) | (leave1; (try dsimp only)) | fail "no step")
    rename (_ < _ ∧ _ < _ ∧ _) => l9
    exact ⟨_, _, _, _, rfl, rfl, by assumption, cb_drop (by assumption) (by kcj_in), l9.2.1, l9.2.2.1, l9.2.2.2.1, allLt_mem l9.2.2.2.2, tk + 1, t, 0, by rw [elf, eI]⟩
  intro led hl1 hl2 hl3 hl4
  obtain ⟨as, vs, cc, rfl, hvs⟩ := rows_of (f := fun i vs => ∃ t u, vs = [.int (lenF xs g i : Int) t, .int (i : Int) u]) hl1 (fun i p hp => by obtain ⟨t, u, c, e⟩ := hl2 i p hp; exact ⟨_, c, e, t, u, rfl⟩)
  dsimp only [LCg.FinE]
  intro D1 hD1 tkD1 FD1 ND1 oD1
  rw [rows_refs] at ND1
  have hrf : ((List.range 6).map fun i => Value.ref (as i)).length = 6 := by simp
  have hR1 : ∀ i, i < 6 → (as i, listOf (vs i).toArray (cc i)) ∈ (D1, LCg.lst ((List.range 6).map fun i => Value.ref (as i))) :: (rowsL 6 as vs cc ++ (L + 1 + 1, oO) :: (L + 1, oT) :: R) := fun i hi => List.mem_cons_of_mem _ (List.mem_append_left _ (rows_mem hi))
  have hat : ∀ i, i < 6 → ((List.range 6).map fun i => Value.ref (as i)).getD i Value.none = .ref (as i) := by intro i hi; simp [List.getD_eq_getElem?_getD, hi]
  have hNW : ∀ p ∈ (L + 1 + 1, oO) :: (L + 1, oT) :: R, p ∈ rowsL 6 as vs cc ++ (L + 1 + 1, oO) :: (L + 1, oT) :: R := fun p hp => List.mem_append_right _ hp
  generalize rowsL 6 as vs cc ++ (L + 1 + 1, oO) :: (L + 1, oT) :: R = NW at *
  generalize hrefs : (List.range 6).map (fun i => Value.ref (as i)) = refs at *
  repeat' (first | (k_unfold; (try dsimp only)) | (k_end; wrow_close) | ((fail_if_success ((with_reducible show wpAny _ _ (call (Value.builtin "sorted") _ _) _ _ _))); walk1) | (dsimp only; (fail_if_success ((with_reducible show wpAny _ _ (call (Value.builtin "sorted") _ _) _ _ _))); walk1) | (leave1; (try dsimp only)) | fail "no step")
  have kk := sort_ok xs
  unfold sortOk at kk
  simp only [Bool.and_eq_true, decide_eq_true_eq, List.all_eq_true] at kk
  obtain ⟨⟨kk1, kk2⟩, kk3⟩ := kk
  refine kas_sorted (vs := refs) (T := .type "list") (by assumption) ND1 (news_lst ND1 List.mem_cons_self) (by rw [hrf]; decide) (by rw [hrf]; decide) ?_ (by decide) ?_
  · intro h Fh Nh v hv
    rw [← hrefs] at hv
    obtain ⟨i, hi, rfl⟩ := List.mem_map.mp hv
    have hi6 : i < 6 := List.mem_range.mp hi
    exact (Looks.ld (Nh _ (hR1 i hi6)).1).andThen .now
  intro D2 e1 h2 F2 N2 l2
  rw [hrf]
  refine k_wp 6 (hLt (hsF xs)) ?_ (kas_sort 6) kk1 ?_
  · intro i j C hi hj hC
    unfold kas_ask
    rw [hat i hi, hat j hj]
    obtain ⟨t1, u1, e1⟩ := hvs i hi
    obtain ⟨t2, u2, e2⟩ := hvs j hj
    refine key_lists (t1 := t1) (t2 := u1) (u1 := t2) (u2 := u2) (x := (lenF xs g i : Int)) (a := (i : Int)) (y := (lenF xs g j : Int)) (c := (j : Int)) ?_ ?_ ?_ ?_
    · have := news_list N2 (vs := vs i) (c := cc i) (List.mem_cons_of_mem _ (hR1 i hi))
      rw [e1] at this; exact this
    · have := news_list N2 (vs := vs j) (c := cc j) (List.mem_cons_of_mem _ (hR1 j hj))
      rw [e2] at this; exact this
    · ktr_units
    · rw [lt_heights hg0 hg6 hi hj]; exact hC
  refine KasFin.intro F2 N2 (.head (fun p hp => Nat.ne_of_lt (l2 p hp))) ?_
  intro h3 c3 F3 N3
  (try dsimp only)
  (try dsimp only at N3)
  replace N3 : News h₀ L h3 ((D2, listOf ((sortP (hsF xs)).map fun i => refs.getD i Value.none).toArray c3) :: (D1, LCg.lst refs) :: NW) := N3
  generalize sortP (hsF xs) = P at *
  refine LCg.CompSrc.ledger (its := (P.map fun i => refs.getD i Value.none).toArray) (k := c3) rfl F3 N3 List.mem_cons_self (by rw [sizeLine_eq]; simp; omega) ?_
  intro g4
  simp only [List.size_toArray, List.length_map, kk2]
  refine comp_map (fun i y => ∃ t, y = .int ((P.getD i 0 : Nat) : Int) t) 6 (Or.inr ⟨_, List.mem_cons_self, rfl, _, rfl⟩) ?_ ?_
  · intro i ys v I oI C oC D m₂ h tk E' hi hv' hC hx F N
    have hpi : P.getD i 0 < 6 := by
      rw [List.getD_eq_getElem?_getD, List.getElem?_eq_getElem (by omega)]
      exact kk3 _ (List.getElem_mem _)
    have hv2 : v = .ref (as (P.getD i 0)) := by
      rw [← hat _ hpi]
      have hv3 : (P.map fun i => refs.getD i Value.none)[i]? = some v := by simpa using hv'
      have e5 : P.getD i 0 = P[i]'(by omega) := by simp [List.getD_eq_getElem?_getD, List.getElem?_eq_getElem (show i < P.length by omega)]
      rw [List.getElem?_map, List.getElem?_eq_getElem (by omega)] at hv3
      rw [e5]
      exact (Option.some.inj hv3).symm
    subst hv2
    obtain ⟨t1, u1, e1⟩ := hvs _ hpi
    have hrow := hR1 _ hpi
    rw [e1] at hrow
    generalize P.getD i 0 = z at *
    repeat' (first | (k_unfold; (try dsimp only)) | (k_end; wrow_close) | ((fail_if_success ((with_reducible show wpAny _ _ (subscriptTail _ _ _ _) _ _ _))); walk1) | (dsimp only; (fail_if_success ((with_reducible show wpAny _ _ (subscriptTail _ _ _ _) _ _ _))); walk1) | (leave1; (try dsimp only)) | fail "no step")
    refine item_val (news_list N (vs := [_, _]) (List.mem_cons_of_mem _ (List.mem_cons_of_mem _ (List.mem_cons_of_mem _ (List.mem_cons_of_mem _ hrow))))) (by decide) (by decide) rfl ?_
    (try dsimp only)
    repeat' (first | (k_unfold; (try dsimp only)) | (k_end; wrow_close) | ((fail_if_success ((with_reducible show CompOut _ _ _ _ _ _ _ _))); walk1) | (dsimp only; (fail_if_success ((with_reducible show CompOut _ _ _ _ _ _ _ _))); walk1) | (leave1; (try dsimp only)) | fail "no step")
    exact CompOut.intro (by assumption) (by assumption) (fun _ h => h) ⟨_, rfl⟩
  intro zs hz D4 h4 tk4 F4 N4 o4
  have hzI := hz.ints (g := fun i => ((P.getD i 0 : Nat) : Int))
  have eP : (List.range 6).map (fun i => ((P.getD i 0 : Nat) : Int)) = P.map fun (n : Nat) => (n : Int) := by
    apply List.ext_getElem?
    intro i
    rcases Nat.lt_or_ge i 6 with h | h
    · simp [h, List.getD_eq_getElem?_getD, List.getElem?_eq_getElem (show i < P.length by omega)]
    · rw [List.getElem?_eq_none (by simp; omega), List.getElem?_eq_none (by simp; omega)]
  rw [eP] at hzI
  have hD4 : @Ne Nat D4 (L + 1 + 1) := fun e => off1_mem o4 _ (List.mem_cons_of_mem _ (List.mem_cons_of_mem _ (hNW _ List.mem_cons_self))) e.symm
  clear hz o4 eP
  have N5 := cb_drop (news := (D4, LCg.lst zs) :: (L + 1 + 1, oO) :: (L + 1, oT) :: R) N4 (by intro p hp; rcases List.mem_cons.mp hp with e | hp; rw [e]; exact List.mem_cons_self; exact List.mem_cons_of_mem _ (List.mem_cons_of_mem _ (List.mem_cons_of_mem _ (hNW p hp))))
  clear N4 N3 N2 ND1
  (try dsimp only)
  repeat' (first | (k_unfold; (try dsimp only)) | (k_end; wrow_close) | ((fail_if_success ((with_reducible show Q _ _))); walk1) | (dsimp only; (fail_if_success ((with_reducible show Q _ _))); walk1) | (leave1; (try dsimp only)) | fail "no step")
  rename IntsAre _ (List.reverse _) => hRv
  rw [← List.map_reverse] at hRv
  refine done _ _ _ _ _ _ _ ?_ hRv (fr_see (by assumption) (by kst_all)) (cb_drop (by assumption) (by kcj_in))
  first | rfl | assumption
end Mine
end
/-! part S12 -/
section
open PySem PySem.W PyProof.Rows PySem.Calls PySem.Spec
namespace Mine
set_option maxRecDepth 100000
set_option maxHeartbeats 8000000
set_option rowWalk.seconds 0
set_option linter.unusedVariables false
set_option linter.unusedSimpArgs false
theorem c10 (w : World) (L : Addr) (R : List (Addr × Obj)) (A O : Addr) (ov : List Value) (cO : Nat) (oO2 oT : Obj) (P : List Nat) (hP : ordOk P = true) (hO : oO2.data = .cell (some (.ref O))) (hov : IntsAre ov (intsOf P)) : StOk w L (lawSt 10) [(Str.ofString "near", .ref A)] ((O, listOf ov.toArray cO) :: (L + 1 + 1, oO2) :: (L + 1, oT) :: R) (fun h₀ s Q => ∀ (Rk : Addr) (rv : List Value) (cR : Nat) (u' : Str → Option Value) (h' : Heap) (tk' : Nat), IntsAre rv (intsOf (rankT P)) → Fr h₀ L h' (kstB u' [(Str.ofString "near", .ref A), (Str.ofString "rank", .ref Rk)]) → News h₀ L h' ((Rk, listOf rv.toArray cR) :: (O, listOf ov.toArray cO) :: (L + 1 + 1, oO2) :: (L + 1, oT) :: R) → Q .next { s with heap := h', toks := tk' }) := by
  dsimp only [StOk]
  intro mean mg mb fa cd h₀ s Q E u B X T F N done
  have NB := booked X
  show wpAny _ (callerA.deeper (envOfC _ ⟨_, _, _, _, _⟩ _ _ _)) (exec (Stmt.Assign _ _ _) (envOfC _ ⟨_, _, _, _, _⟩ _ _ _)) _ _ _
  revert X
  k_fill
  intro X
  dsimp only
  unfold ordOk at hP
  simp only [Bool.and_eq_true, decide_eq_true_eq, List.all_eq_true] at hP
  obtain ⟨⟨⟨p1, p2⟩, p3⟩, p4⟩ := hP
  k_dflt (refine LCg.Assign_ListComp_U (F₀ := by k_asm) (by rfl) (by with_unfolding_all rfl) (by with_unfolding_all rfl) (by decide) (by rfl) (by decide) (by rfl) (by rfl) (by rfl) ?_)
  repeat' (first | (k_unfold; (try dsimp only)) | (k_end; wrow_close) | ((fail_if_success ((with_reducible show LCg.CompSrc _ _ _ _ _ _ _ _ _ _ _ _ _ _))); walk1) | (dsimp only; (fail_if_success ((with_reducible show LCg.CompSrc _ _ _ _ _ _ _ _ _ _ _ _ _ _))); walk1) | (leave1; (try dsimp only)) | fail "no step")
  refine LCg.CompSrc.range rfl (by assumption) (by assumption) (by assumption) (by decide) (n := 6) (by decide) (by rw [sizeLine_eq]; omega) ?_
  intro g1
  refine comp_map (fun i y => ∃ t, y = .int ((P.idxOf i : Nat) : Int) t) 6 trivial ?_ ?_
  · intro i ys v I oI C oC D m₂ h tk E' hi hv' hC hx F N
    obtain ⟨t, rfl⟩ := hv'
    have eI : (0 : Int) + (i : Int) = (i : Int) := by omega
    rw [eI] at hx
    have hmem : (i : Int) ∈ intsOf P := List.mem_map.mpr ⟨i, by have := p2 i (List.mem_range.mpr hi); simpa using this, rfl⟩
    repeat' (first | (k_unfold; (try dsimp only)) | (k_end; wrow_close) | ((fail_if_success ((with_reducible show wpAny _ _ (call (Value.builtin "list.index") _ _) _ _ _))); walk1) | (dsimp only; (fail_if_success ((with_reducible show wpAny _ _ (call (Value.builtin "list.index") _ _) _ _ _))); walk1) | (leave1; (try dsimp only)) | fail "no step")
    refine index_list_ints (news_list N (vs := ov) (by kcj_m)) hov p1 hmem ?_
    rw [idx_cast]
    (try dsimp only)
    repeat' (first | (k_unfold; (try dsimp only)) | (k_end; wrow_close) | ((fail_if_success ((with_reducible show CompOut _ _ _ _ _ _ _ _))); walk1) | (dsimp only; (fail_if_success ((with_reducible show CompOut _ _ _ _ _ _ _ _))); walk1) | (leave1; (try dsimp only)) | fail "no step")
    exact CompOut.intro (by assumption) (by assumption) (fun _ h => h) ⟨_, rfl⟩
  intro zs hz D4 h4 tk4 F4 N4 o4
  have hzI := hz.ints (g := fun i => ((P.idxOf i : Nat) : Int))
  (try dsimp only)
  have e : (List.range 6).map (fun i => ((P.idxOf i : Nat) : Int)) = intsOf (rankT P) := by rw [rankT, intsOf, List.map_map]; rfl
  rw [e] at hzI
  refine done _ _ _ _ _ _ hzI (fr_see (by assumption) (by kst_all)) (cb_drop (by assumption) (by kcj_in))
theorem c11 (w : World) (L : Addr) (R : List (Addr × Obj)) (A Rk : Addr) : StOk w L (lawSt 11) [(Str.ofString "near", .ref A), (Str.ofString "rank", .ref Rk)] (R) (fun h₀ s Q => ∀ (tt : Tok) (u' : Str → Option Value) (h' : Heap) (tk' : Nat), Fr h₀ L h' (kstB u' [(Str.ofString "near", .ref A), (Str.ofString "rank", .ref Rk), (Str.ofString "total", .int 0 tt)]) → News h₀ L h' (R) → Q .next { s with heap := h', toks := tk' }) := by
  dsimp only [StOk]
  intro mean mg mb fa cd h₀ s Q E u B X T F N done
  have NB := booked X
  show wpAny _ (callerA.deeper (envOfC _ ⟨_, _, _, _, _⟩ _ _ _)) (exec (Stmt.Assign _ _ _) (envOfC _ ⟨_, _, _, _, _⟩ _ _ _)) _ _ _
  revert X
  k_fill
  intro X
  dsimp only
  repeat' (first | (k_unfold; (try dsimp only)) | (k_end; wrow_close) | ((fail_if_success ((with_reducible show Q _ _))); walk1) | (dsimp only; (fail_if_success ((with_reducible show Q _ _))); walk1) | (leave1; (try dsimp only)) | fail "no step")
  exact done _ _ _ _ (fr_see (by assumption) (by kst_all)) (by assumption)
end Mine
end
/-! part S13 -/
section
open PySem PySem.W PyProof.Rows PySem.Calls PySem.Spec
namespace Mine
set_option maxRecDepth 100000
set_option maxHeartbeats 8000000
set_option rowWalk.seconds 0
set_option linter.unusedVariables false
set_option linter.unusedSimpArgs false
theorem e0 (w : World) (L : Addr) (R : List (Addr × Obj)) (A Rk O : Addr) (tot : Int) (tt tk0 : Tok) (k : Nat) (hk : k < 6) (ov rv : List Value) (cO cR : Nat) (oO2 : Obj) (P : List Nat) (hP : ordOk P = true) (hO : oO2.data = .cell (some (.ref O))) (hov : IntsAre ov (intsOf P)) (hrv : IntsAre rv (intsOf (rankT P))) (cA : Nat) (as : Nat → Addr) (cc : Nat → Nat) (vs : Nat → List Value) (hA : (A, listOf ((List.range 6).map (fun i => Value.ref (as i))).toArray cA) ∈ R) (hrow : ∀ i, i < 6 → (as i, listOf (vs i).toArray (cc i)) ∈ R) (hri : ∀ i, i < 6 → IntsAre (vs i) (nearM.getD i [])) : StOk w L (inSt 12 0) [(Str.ofString "near", .ref A), (Str.ofString "rank", .ref Rk), (Str.ofString "total", .int tot tt), (Str.ofString "k", .int (k : Int) tk0)] ((O, listOf ov.toArray cO) :: (Rk, listOf rv.toArray cR) :: (L + 1 + 1, oO2) :: R) (fun h₀ s Q => ∀ (tt2 : Tok) (u' : Str → Option Value) (h' : Heap) (tk' : Nat), Fr h₀ L h' (kstB u' [(Str.ofString "near", .ref A), (Str.ofString "rank", .ref Rk), (Str.ofString "total", .int (tot + countT (P.getD k 0) (rankT P)) tt2), (Str.ofString "k", .int (k : Int) tk0)]) → News h₀ L h' ((O, listOf ov.toArray cO) :: (Rk, listOf rv.toArray cR) :: (L + 1 + 1, oO2) :: R) → Q .next { s with heap := h', toks := tk' }) := by
  dsimp only [StOk]
  intro mean mg mb fa cd h₀ s Q E u B X T F N done
  have NB := booked X
  show wpAny _ (callerA.deeper (envOfC _ ⟨_, _, _, _, _⟩ _ _ _)) (exec (Stmt.AugAssign _ _ _ _) (envOfC _ ⟨_, _, _, _, _⟩ _ _ _)) _ _ _
  revert X
  k_fill
  intro X
  dsimp only
  unfold ordOk at hP
  simp only [Bool.and_eq_true, decide_eq_true_eq, List.all_eq_true] at hP
  obtain ⟨⟨⟨p1, p2⟩, p3⟩, p4⟩ := hP
  have hPl : (intsOf P).length = 6 := by simp [p3]
  have up : ∀ p ∈ R, p ∈ (O, listOf ov.toArray cO) :: (Rk, listOf rv.toArray cR) :: (L + 1 + 1, oO2) :: R := fun p hp => List.mem_cons_of_mem _ (List.mem_cons_of_mem _ (List.mem_cons_of_mem _ hp))
  have hpk : P.getD k 0 < 6 := by
    rw [List.getD_eq_getElem?_getD, List.getElem?_eq_getElem (by omega)]
    exact p4 _ (List.getElem_mem _)
  repeat' (first | (k_unfold; (try dsimp only)) | (k_end; wrow_close) | ((fail_if_success ((with_reducible show wpAny _ _ (subscriptTail _ _ _ _) _ _ _))); walk1) | (dsimp only; (fail_if_success ((with_reducible show wpAny _ _ (subscriptTail _ _ _ _) _ _ _))); walk1) | (leave1; (try dsimp only)) | fail "no step")
  refine item_int (ns := intsOf P) (news_list (by assumption) List.mem_cons_self) hov (by omega) (by omega) (by omega) ?_
  rw [Int.toNat_natCast, getD_cast]
  intro t1
  (try dsimp only)
  repeat' (first | (k_unfold; (try dsimp only)) | (k_end; wrow_close) | ((fail_if_success ((with_reducible show wpAny _ _ (call (Value.ref 68) _ _) _ _ _))); walk1) | (dsimp only; (fail_if_success ((with_reducible show wpAny _ _ (call (Value.ref 68) _ _) _ _ _))); walk1) | (leave1; (try dsimp only)) | fail "no step")
  k_dflt (refine' count_ok _ Rk A as cR cA cc _ rv vs _ _ _ _ (by omega) (by omega) (up _ hA) (List.mem_cons_of_mem _ List.mem_cons_self) hrv (by simp [rankT]) (fun i hi => refs_at hi) (fun i hi => up _ (hrow i hi)) hri   _ _ _ _ _ _ _ _ _ _ _ _ _ _ _ _ _ _ _ _ ?yk1 ?yk2 ?yk3 ?yk4 ?yk5 ?ykK ?ykd ?yku ?ykR; (case yk1 => k_asm); (case yk2 => k_asm); (case yk3 => k_asm); (case yk4 => k_asm); (case yk5 => k_asm); (case ykK => first | exact rfl | assumption); (case ykd => ktr_room); (case yku => ktr_units))
  intro t8 h8 tk8 F8 N8
  (try dsimp only)
  (try k_fold)
  rw [← countF_eq hpk] at done
  repeat' (first | (k_unfold; (try dsimp only)) | (k_end; wrow_close) | ((fail_if_success ((with_reducible show Q _ _))); walk1) | (dsimp only; (fail_if_success ((with_reducible show Q _ _))); walk1) | (leave1; (try dsimp only)) | fail "no step")
  exact done _ _ _ _ (fr_see (by assumption) (by kst_all)) (cb_drop (by assumption) (by kcj_in))
theorem e1 (w : World) (L : Addr) (R : List (Addr × Obj)) (A Rk O : Addr) (tot : Int) (tt tk0 : Tok) (k : Nat) (hk : k < 6) (ov rv : List Value) (cO cR : Nat) (oO2 : Obj) (P : List Nat) (hP : ordOk P = true) (hO : oO2.data = .cell (some (.ref O))) (hov : IntsAre ov (intsOf P)) (hrv : IntsAre rv (intsOf (rankT P))) (cA : Nat) (as : Nat → Addr) (cc : Nat → Nat) (vs : Nat → List Value) (hA : (A, listOf ((List.range 6).map (fun i => Value.ref (as i))).toArray cA) ∈ R) (hrow : ∀ i, i < 6 → (as i, listOf (vs i).toArray (cc i)) ∈ R) (hri : ∀ i, i < 6 → IntsAre (vs i) (nearM.getD i [])) (hT : k < 5 → tot = piecesT (P.take (k + 1)) - piecesT (P.drop (k + 1)) + 1) : StOk w L (inSt 12 1) [(Str.ofString "near", .ref A), (Str.ofString "rank", .ref Rk), (Str.ofString "total", .int tot tt), (Str.ofString "k", .int (k : Int) tk0)] ((O, listOf ov.toArray cO) :: (Rk, listOf rv.toArray cR) :: (L + 1 + 1, oO2) :: R) (fun h₀ s Q => ∀ (u' : Str → Option Value) (h' : Heap) (tk' : Nat), Fr h₀ L h' (kstB u' [(Str.ofString "near", .ref A), (Str.ofString "rank", .ref Rk), (Str.ofString "total", .int tot tt), (Str.ofString "k", .int (k : Int) tk0)]) → News h₀ L h' ((O, listOf ov.toArray cO) :: (Rk, listOf rv.toArray cR) :: (L + 1 + 1, oO2) :: R) → Q .next { s with heap := h', toks := tk' }) := by
  dsimp only [StOk]
  intro mean mg mb fa cd h₀ s Q E u B X T F N done
  have NB := booked X
  show wpAny _ (callerA.deeper (envOfC _ ⟨_, _, _, _, _⟩ _ _ _)) (exec (Stmt.If _ _ _ _) (envOfC _ ⟨_, _, _, _, _⟩ _ _ _)) _ _ _
  revert X
  k_fill
  intro X
  dsimp only
  unfold ordOk at hP
  simp only [Bool.and_eq_true, decide_eq_true_eq, List.all_eq_true] at hP
  obtain ⟨⟨⟨p1, p2⟩, p3⟩, p4⟩ := hP
  have hPl : (intsOf P).length = 6 := by simp [p3]
  have up : ∀ p ∈ R, p ∈ (O, listOf ov.toArray cO) :: (Rk, listOf rv.toArray cR) :: (L + 1 + 1, oO2) :: R := fun p hp => List.mem_cons_of_mem _ (List.mem_cons_of_mem _ (List.mem_cons_of_mem _ hp))
  have hkk1 : ((k : Int) + 1).toNat = k + 1 := by omega
  have eT : (intsOf P).take (k + 1) = intsOf (P.take (k + 1)) := List.map_take.symm
  have eD : (intsOf P).drop (k + 1) = intsOf (P.drop (k + 1)) := List.map_drop.symm
  have bT : ∀ x ∈ intsOf (P.take (k + 1)), 0 ≤ x ∧ x < 6 := by
    intro x hx
    obtain ⟨y, hy, rfl⟩ := List.mem_map.mp hx
    have := p4 y (List.mem_of_mem_take hy)
    omega
  have bD : ∀ x ∈ intsOf (P.drop (k + 1)), 0 ≤ x ∧ x < 6 := by
    intro x hx
    obtain ⟨y, hy, rfl⟩ := List.mem_map.mp hx
    have := p4 y (List.mem_of_mem_drop hy)
    omega
  have lT : (intsOf (P.take (k + 1))).length ≤ 6 := by simp; omega
  have lD : (intsOf (P.drop (k + 1))).length ≤ 6 := by simp; omega
  repeat' (first | (k_unfold; (try dsimp only)) | (k_end; wrow_close) | ((fail_if_success (first | (with_reducible show wpAny _ _ (call (Value.ref 75) _ _) _ _ _) | (with_reducible show Q _ _))); walk1) | (dsimp only; (fail_if_success (first | (with_reducible show wpAny _ _ (call (Value.ref 75) _ _) _ _ _) | (with_reducible show Q _ _))); walk1) | (leave1; (try dsimp only)) | fail "no step")
  · rename IntsAre _ (List.take _ _) => hW
    rename News _ _ _ _ => N7
    rw [hkk1, eT] at hW
    have hT5 := hT (by omega)
    k_dflt (refine' pieces_ok _ _ A as _ cA cc _ _ vs _ _ (List.mem_cons_of_mem _ (up _ hA)) List.mem_cons_self hW lT bT (fun i hi => refs_at hi) (fun i hi => List.mem_cons_of_mem _ (up _ (hrow i hi))) hri   _ _ _ _ _ _ _ _ _ _ _ _ _ _ _ _ _ _ _ _ ?yk1 ?yk2 ?yk3 ?yk4 ?yk5 ?ykK ?ykd ?yku ?ykR; (case yk1 => k_asm); (case yk2 => k_asm); (case yk3 => k_asm); (case yk4 => k_asm); (case yk5 => k_asm); (case ykK => first | exact rfl | assumption); (case ykd => ktr_room); (case yku => ktr_units))
    intro t8 h8 tk8 F8 N8
    (try dsimp only)
    (try k_fold)
    repeat' (first | (k_unfold; (try dsimp only)) | (k_end; wrow_close) | ((fail_if_success ((with_reducible show wpAny _ _ (subscriptTail _ (Expr.Slice _ _ _ _) _ _) _ _ _))); walk1) | (dsimp only; (fail_if_success ((with_reducible show wpAny _ _ (subscriptTail _ (Expr.Slice _ _ _ _) _ _) _ _ _))); walk1) | (leave1; (try dsimp only)) | fail "no step")
    have hovl : ov.length = 6 := by rw [hov.length, hPl]
    k_dflt (refine' kmk_slice_ints (ns := intsOf P) ?zF ?zN ?zl ?zp ?zq ?zi ?zm ?zc ?_ ?zs ?zt ?zz; (case zF => k_asm); (case zN => k_asm); (case zl => exact news_list (vs := ov) (c := cO) (by assumption) (List.mem_cons_of_mem _ List.mem_cons_self)); (case zp => kmk_part); (case zq => kmk_part); (case zi => exact hov); (case zm => exact kmk_from hov (by omega)); (case zc => kmk_len); (case zs => with_unfolding_all rfl); (case zt => kmk_pure); (case zz => (rw [sizeLine_eq, List.size_toArray]; omega)))
    intro D9 ws9 h9 F9 N9 l9 hV hC9 hL9
    (try dsimp only)
    repeat' (first | (k_unfold; (try dsimp only)) | (k_end; wrow_close) | ((fail_if_success ((with_reducible show wpAny _ _ (call (Value.ref 75) _ _) _ _ _))); walk1) | (dsimp only; (fail_if_success ((with_reducible show wpAny _ _ (call (Value.ref 75) _ _) _ _ _))); walk1) | (leave1; (try dsimp only)) | fail "no step")
    rw [hkk1, eD] at hV
    k_dflt (refine' pieces_ok _ _ A as _ cA cc _ _ vs _ _ (List.mem_cons_of_mem _ (List.mem_cons_of_mem _ (up _ hA))) List.mem_cons_self hV lD bD (fun i hi => refs_at hi) (fun i hi => List.mem_cons_of_mem _ (List.mem_cons_of_mem _ (up _ (hrow i hi)))) hri   _ _ _ _ _ _ _ _ _ _ _ _ _ _ _ _ _ _ _ _ ?zk1 ?zk2 ?zk3 ?zk4 ?zk5 ?zkK ?zkd ?zku ?zkR; (case zk1 => k_asm); (case zk2 => k_asm); (case zk3 => k_asm); (case zk4 => k_asm); (case zk5 => k_asm); (case zkK => first | exact rfl | assumption); (case zkd => ktr_room); (case zku => ktr_units))
    intro t10 h10 tk10 F10 N10
    (try dsimp only)
    (try k_fold)
    change tot = piecesF (intsOf (P.take (k + 1))) - piecesF (intsOf (P.drop (k + 1))) + 1 at hT5
    repeat' (first | (k_unfold; (try dsimp only)) | (k_end; wrow_close) | ((fail_if_success ((with_reducible show Q _ _))); walk1) | (dsimp only; (fail_if_success ((with_reducible show Q _ _))); walk1) | (leave1; (try dsimp only)) | fail "no step")
    all_goals first
      | exact done _ _ _ (fr_see (by assumption) (by kst_all)) (cb_drop (by assumption) (by kcj_in))
      | (exfalso; omega)
  · exact done _ _ _ (fr_see (by assumption) (by kst_all)) (cb_drop (by assumption) (by kcj_in))
end Mine
end
/-! part S14 -/
section
open PySem PySem.W PyProof.Rows PySem.Calls PySem.Spec
namespace Mine
set_option maxRecDepth 100000
set_option maxHeartbeats 8000000
set_option rowWalk.seconds 0
set_option linter.unusedVariables false
set_option linter.unusedSimpArgs false
theorem loop3 (w : World) (L : Addr) (R : List (Addr × Obj)) (A Rk O : Addr) (tt : Tok) (ov rv : List Value) (cO cR : Nat) (oO2 : Obj) (P : List Nat) (hP : ordOk P = true) (hB : endB P = true) (hO : oO2.data = .cell (some (.ref O))) (hov : IntsAre ov (intsOf P)) (hrv : IntsAre rv (intsOf (rankT P))) (cA : Nat) (as : Nat → Addr) (cc : Nat → Nat) (vs : Nat → List Value) (hA : (A, listOf ((List.range 6).map (fun i => Value.ref (as i))).toArray cA) ∈ R) (hrow : ∀ i, i < 6 → (as i, listOf (vs i).toArray (cc i)) ∈ R) (hri : ∀ i, i < 6 → IntsAre (vs i) (nearM.getD i [])) : StOkE w L (lawSt 12) [(Str.ofString "near", .ref A), (Str.ofString "rank", .ref Rk), (Str.ofString "total", .int 0 tt)] ((O, listOf ov.toArray cO) :: (Rk, listOf rv.toArray cR) :: (L + 1 + 1, oO2) :: R) (fun h₀ s Q => ∀ (t2 : Tok) (u' : Str → Option Value) (h' : Heap) (tk' : Nat), Fr h₀ L h' (kstB u' [(Str.ofString "near", .ref A), (Str.ofString "rank", .ref Rk), (Str.ofString "total", .int 2 t2)]) → News h₀ L h' ((O, listOf ov.toArray cO) :: (Rk, listOf rv.toArray cR) :: (L + 1 + 1, oO2) :: R) → Q .next { s with heap := h', toks := tk' }) := by
  dsimp only [StOkE]
  intro mean mg mb fa cd h₀ s Q E u B X T F N hE done
  show wpAny _ (callerA.deeper (envOfC _ lawSc _ _ _)) (exec (Stmt.For _ _ _ _ _) (envOfC _ lawSc _ _ _)) _ _ _
  (with_unfolding_all refine For_invVF F rfl rfl ?_ (by intro _; rfl) hE)
  revert X
  k_fill
  intro X
  (try dsimp only)
  repeat' (first | (k_unfold; (try dsimp only)) | (k_end; wrow_close) | ((fail_if_success ((with_reducible show wpAny _ _ (pyIter _) _ _ _))); walk1) | (dsimp only; (fail_if_success ((with_reducible show wpAny _ _ (pyIter _) _ _ _))); walk1) | (leave1; (try dsimp only)) | fail "no step")
  rename Fr _ _ _ _ => F2
  rename News _ _ _ _ => N2
  rename IsRange _ _ _ _ _ _ _ _ => rgX
  have hB' := hB
  unfold endB at hB'
  rw [Bool.and_eq_true, List.all_eq_true] at hB'
  have hEnd : totT P (rankT P) 6 = 2 := eq_of_beq hB'.2
  (with_unfolding_all refine my_range (σ := Int × Tok) 6 (fun _ => (O, listOf ov.toArray cO) :: (Rk, listOf rv.toArray cR) :: (L + 1 + 1, oO2) :: R) (fun c => [(Str.ofString "near", .ref A), (Str.ofString "rank", .ref Rk), (Str.ofString "total", .int c.1 c.2)]) (fun i c => c.1 = totT P (rankT P) i) (0, tt) rfl rgX (by decide) (by decide) F2 (cb_drop N2 (by kcj_in)) (by kst_all) rfl (by intro q; exact (by decide +kernel : ([Str.ofString "near", Str.ofString "rank", Str.ofString "total"] : List Str).all (fun z => !(z == Str.ofString "k")) = true)) ?_ ?_)
  · rintro ⟨z, t1⟩ i t u9 hh tk own hi hoff e F3 N3
    dsimp only at e
    subst e
    clear F2 N2 rgX done
    replace N3 : News h₀ L hh (((O, listOf ov.toArray cO) :: (Rk, listOf rv.toArray cR) :: (L + 1 + 1, oO2) :: R) ++ own) := N3
    simp only [List.cons_append] at N3
    (try simp only [List.cons_append, List.nil_append] at F3)
    refine wpAny_execs_cons (e0 w L (R ++ own) A Rk O _ t1 t i hi ov rv cO cR oO2 P hP hO hov hrv cA as cc vs (List.mem_append_left _ hA) (fun j hj => List.mem_append_left _ (hrow j hj)) hri mean mg mb fa cd h₀ _ _ _ _ B X T F3 N3 ?_)
    intro tt2 u4 h4 tk4 F4 N4
    refine wpAny_execs_cons (e1 w L (R ++ own) A Rk O _ tt2 t i hi ov rv cO cR oO2 P hP hO hov hrv cA as cc vs (List.mem_append_left _ hA) (fun j hj => List.mem_append_left _ (hrow j hj)) hri (fun h5 => eq_of_beq (hB'.1 i (List.mem_range.mpr h5))) mean mg mb fa cd h₀ _ _ _ _ B X T F4 N4 ?_)
    intro u5 h5 tk5 F5 N5
    refine wpAny_execs_nil ?_
    exact my_end (totT P (rankT P) i + countT (P.getD i 0) (rankT P), tt2) F5 N5 (by kst_all) rfl (by kcj_in) (by kcj_in) rfl
  · rintro ⟨z, t1⟩ u9 hh9 tk9 e F3 N3
    dsimp only at e
    rw [hEnd] at e
    subst e
    exact done _ _ _ _ F3 N3
end Mine
end
/-! part S15 -/
section
open PySem PySem.W PyProof.Rows PySem.Calls PySem.Spec
namespace Mine
set_option maxRecDepth 100000
set_option maxHeartbeats 8000000
set_option rowWalk.seconds 0
set_option linter.unusedVariables false
set_option linter.unusedSimpArgs false
theorem rest (w : World) (mean : ExcName → Option Value) (mg mb : Str → Option Value) (fa : Addr) (cd : Value) (h₀ : Heap) (L : Addr) (s : Shared) (Q : Flow → Shared → Prop) (E : Value → Shared → Prop) (u : Str → Option Value)
    (aS aN aW aT r0 r1 r2 r3 r4 r5 : Addr) (sv us : List Value) (ns xs : List Int) (t00 t01 t10 t11 t12 t20 t21 t22 t30 t31 t40 t41 t42 t50 t51 t52 : Tok) (x1 x2 x3 x4 : Addr × Obj) (oO oT : Obj)
    (B : Below callerA h₀ [] h₀) (X : (hd.heap_39 w.params).In h₀) (T : Top hd.view_39 (looseW hd.view_39 []) mean mg mb h₀)
    (F : Fr h₀ L s.heap (kstB u [(Str.ofString "script", .ref aS), (Str.ofString "numbers", .ref aN), (Str.ofString "wheel", .ref aW)])) (N : News h₀ L s.heap [(aT, listOf #[] 0), (aW, listOf #[.ref r0, .ref r1, .ref r2, .ref r3, .ref r4, .ref r5] 0), (r5, listOf #[.int 25 t50, .int 27 t51, .int 29 t52] 0), (r4, listOf #[.int 19 t40, .int 21 t41, .int 23 t42] 0), (r3, listOf #[.int 15 t30, .int 17 t31] 0), (r2, listOf #[.int 9 t20, .int 11 t21, .int 13 t22] 0), (r1, listOf #[.int 3 t10, .int 5 t11, .int 7 t12] 0), (r0, listOf #[.int 31 t00, .int 1 t01] 0), (aN, listOf us.toArray 0), x1, x2, x3, x4, (L + 1 + 1, oO), (L + 1, oT)])
    (hE : PassesOwn (model PySem.Challenge.rw_rs0103_01.row.prog w) (callerA.deeper (envOfC (Str.ofString "law") lawSc L fa cd)) (envOfC (Str.ofString "law") lawSc L fa cd) E)
    (hS : h₀.IsList aS sv.toArray) (hsv : IntsAre sv ns) (hns : ns.length ≤ 63) (hO : oO.data = .cell none) (hT : oT.data = .cell (some (.ref aT))) (hx : IntsAre us xs) (hxl : xs.length = 6)
    (q0 q1 q2 q3 q4 q5 q6 q7 : True) (g1 : @LT.lt Nat _ aW aT ∧ @LT.lt Nat _ r0 aT ∧ @LT.lt Nat _ r1 aT ∧ @LT.lt Nat _ r2 aT ∧ @LT.lt Nat _ r3 aT ∧ @LT.lt Nat _ r4 aT ∧ @LT.lt Nat _ r5 aT ∧ @LT.lt Nat _ aN aT) (g2 : @LT.lt Nat _ (L + 1 + 1) aT ∧ @LT.lt Nat _ (L + 1 + 1) aW ∧ @LT.lt Nat _ (L + 1 + 1) r0 ∧ @LT.lt Nat _ (L + 1 + 1) r1 ∧ @LT.lt Nat _ (L + 1 + 1) r2 ∧ @LT.lt Nat _ (L + 1 + 1) r3 ∧ @LT.lt Nat _ (L + 1 + 1) r4 ∧ @LT.lt Nat _ (L + 1 + 1) r5 ∧ @LT.lt Nat _ (L + 1 + 1) aN)
    (K : ∀ (A Rk : Addr) (t2 : Tok) (R : List (Addr × Obj)) (u' : Str → Option Value) (h' : Heap) (tk' : Nat), Fr h₀ L h' (kstB u' [(Str.ofString "near", .ref A), (Str.ofString "rank", .ref Rk), (Str.ofString "total", .int 2 t2)]) → News h₀ L h' R → wpAny (model PySem.Challenge.rw_rs0103_01.row.prog w) (callerA.deeper (envOfC (Str.ofString "law") lawSc L fa cd)) (execs [lawSt 13] (envOfC (Str.ofString "law") lawSc L fa cd)) Q E { s with heap := h', toks := tk' }) :
    wpAny (model PySem.Challenge.rw_rs0103_01.row.prog w) (callerA.deeper (envOfC (Str.ofString "law") lawSc L fa cd)) (execs [lawSt 3, lawSt 4, lawSt 5, lawSt 6, lawSt 7, lawSt 8, lawSt 9, lawSt 10, lawSt 11, lawSt 12, lawSt 13] (envOfC (Str.ofString "law") lawSc L fa cd)) Q E s := by
  have hg : 0 ≤ ns.sum.fmod 6 ∧ ns.sum.fmod 6 < 6 := by rw [Int.fmod_eq_emod_of_nonneg _ (by decide)]; omega
  obtain ⟨hg0, hg6⟩ := hg
  generalize hgs : ns.sum.fmod 6 = g at *
  obtain ⟨R, hR⟩ : ∃ R, R = ([(aW, listOf #[.ref r0, .ref r1, .ref r2, .ref r3, .ref r4, .ref r5] 0), (r0, listOf #[.int 31 t00, .int 1 t01] 0), (r1, listOf #[.int 3 t10, .int 5 t11, .int 7 t12] 0), (r2, listOf #[.int 9 t20, .int 11 t21, .int 13 t22] 0), (r3, listOf #[.int 15 t30, .int 17 t31] 0), (r4, listOf #[.int 19 t40, .int 21 t41, .int 23 t42] 0), (r5, listOf #[.int 25 t50, .int 27 t51, .int 29 t52] 0), (aN, listOf us.toArray 0)] : List (Addr × Obj)) := ⟨_, rfl⟩
  have hN0 : (aN, listOf us.toArray 0) ∈ R := by rw [hR]; simp only [List.mem_cons, true_or, or_true]
  have hW0 : (aW, listOf [.ref r0, .ref r1, .ref r2, .ref r3, .ref r4, .ref r5].toArray 0) ∈ R := by rw [hR]; exact List.mem_cons_self
  have hne0 : ∀ p ∈ (L + 1 + 1, oO) :: (L + 1, oT) :: R, p.1 ≠ aT := by
    rw [hR]
    intro p hp
    simp only [List.mem_cons, List.not_mem_nil, or_false] at hp
    rcases hp with rfl | rfl | rfl | rfl | rfl | rfl | rfl | rfl | rfl | rfl <;> (refine Nat.ne_of_lt ?_; (try dsimp only); omega)
  have hne1 : ∀ p ∈ R, @LT.lt Nat _ (L + 1 + 1) p.1 := by
    rw [hR]
    intro p hp
    simp only [List.mem_cons, List.not_mem_nil, or_false] at hp
    rcases hp with rfl | rfl | rfl | rfl | rfl | rfl | rfl | rfl <;> ((try dsimp only); omega)
  have N1 : News h₀ L s.heap ((aT, listOf [].toArray 0) :: (L + 1 + 1, oO) :: (L + 1, oT) :: R) := by
    rw [hR]
    exact cb_drop N (by intro p hp; simp only [List.mem_cons, List.not_mem_nil, or_false] at hp ⊢; rcases hp with rfl | rfl | rfl | rfl | rfl | rfl | rfl | rfl | rfl | rfl | rfl <;> simp only [true_or, or_true])
  let bs : Nat → Addr := fun i => [r0, r1, r2, r3, r4, r5].getD i 0
  let wvs : Nat → List Value := fun i => [[Value.int 31 t00, Value.int 1 t01], [Value.int 3 t10, Value.int 5 t11, Value.int 7 t12], [Value.int 9 t20, Value.int 11 t21, Value.int 13 t22], [Value.int 15 t30, Value.int 17 t31], [Value.int 19 t40, Value.int 21 t41, Value.int 23 t42], [Value.int 25 t50, Value.int 27 t51, Value.int 29 t52]].getD i []
  have six : ∀ (Pr : Nat → Prop), Pr 0 → Pr 1 → Pr 2 → Pr 3 → Pr 4 → Pr 5 → ∀ i, i < 6 → Pr i := by
    intro Pr a0 a1 a2 a3 a4 a5 i hi
    have : i = 0 ∨ i = 1 ∨ i = 2 ∨ i = 3 ∨ i = 4 ∨ i = 5 := six_cases hi
    rcases this with rfl | rfl | rfl | rfl | rfl | rfl <;> assumption
  have hwv : ∀ i, i < 6 → ([.ref r0, .ref r1, .ref r2, .ref r3, .ref r4, .ref r5] : List Value)[i]? = some (.ref (bs i)) := six _ rfl rfl rfl rfl rfl rfl
  have hrow : ∀ i, i < 6 → (bs i, listOf (wvs i).toArray 0) ∈ R := by
    rw [hR]
    refine six _ ?_ ?_ ?_ ?_ ?_ ?_
    · exact List.mem_cons_of_mem _ List.mem_cons_self
    · exact List.mem_cons_of_mem _ (List.mem_cons_of_mem _ List.mem_cons_self)
    · exact List.mem_cons_of_mem _ (List.mem_cons_of_mem _ (List.mem_cons_of_mem _ List.mem_cons_self))
    · exact List.mem_cons_of_mem _ (List.mem_cons_of_mem _ (List.mem_cons_of_mem _ (List.mem_cons_of_mem _ List.mem_cons_self)))
    · exact List.mem_cons_of_mem _ (List.mem_cons_of_mem _ (List.mem_cons_of_mem _ (List.mem_cons_of_mem _ (List.mem_cons_of_mem _ List.mem_cons_self))))
    · exact List.mem_cons_of_mem _ (List.mem_cons_of_mem _ (List.mem_cons_of_mem _ (List.mem_cons_of_mem _ (List.mem_cons_of_mem _ (List.mem_cons_of_mem _ List.mem_cons_self)))))
  have hri : ∀ i, i < 6 → IntsAre (wvs i) (wheelM.getD i []) := six _ (.cons _ _ (.cons _ _ .nil)) (.cons _ _ (.cons _ _ (.cons _ _ .nil))) (.cons _ _ (.cons _ _ (.cons _ _ .nil))) (.cons _ _ (.cons _ _ .nil)) (.cons _ _ (.cons _ _ (.cons _ _ .nil))) (.cons _ _ (.cons _ _ (.cons _ _ .nil)))
  clear_value bs wvs
  clear N hR
  refine wpAny_execs_cons (loop1 w L R aS aN aW aT sv us _ ns xs 0 0 bs wvs (fun _ => 0) oO oT g hg0 hg6 hgs hsv hns hT hx hxl hN0 hW0 hwv hrow hri hne0 mean mg mb fa cd h₀ _ _ _ _ B X T F N1 hE ⟨hS, ?_⟩)
  intro tv ct u1 h1 tk1 hST F1 N2
  obtain ⟨R1, hR1⟩ : ∃ R1, R1 = (aT, listOf tv.toArray ct) :: (L + 1 + 1, oO) :: (L + 1, oT) :: R := ⟨_, rfl⟩
  rw [← hR1] at N2
  have mN1 : (aN, listOf us.toArray 0) ∈ R1 := by rw [hR1]; exact List.mem_cons_of_mem _ (List.mem_cons_of_mem _ (List.mem_cons_of_mem _ hN0))
  have mT1 : (aT, listOf tv.toArray ct) ∈ R1 := by rw [hR1]; exact List.mem_cons_self
  have mC1 : (L + 1, oT) ∈ R1 := by rw [hR1]; exact List.mem_cons_of_mem _ (List.mem_cons_of_mem _ List.mem_cons_self)
  have mO1 : (L + 1 + 1, oO) ∈ R1 := by rw [hR1]; exact List.mem_cons_of_mem _ List.mem_cons_self
  clear hR1 N1
  refine wpAny_execs_cons (c4 w L R1 aS aN aW sv us ns xs 0 g hg0 hg6 hgs hsv hns hx hxl mN1 mean mg mb fa cd h₀ _ _ _ _ B X T F1 N2 ?_)
  intro tp tn u2 h2 tk2 F2 N3
  refine wpAny_execs_cons (c5 w L R1 aS aN aW sv us ns xs 0 g hg0 hg6 hgs hsv hns hx hxl mN1 tp tn mean mg mb fa cd h₀ _ _ _ _ B X T F2 N3 ⟨hS, ?_⟩)
  intro tf u3 h3 tk3 F3 N4
  refine wpAny_execs_cons (c6 w L R1 aS aN aW sv us ns xs 0 g hg0 hg6 hgs hsv hns hx hxl mN1 tp tn tf mean mg mb fa cd h₀ _ _ _ _ B X T F3 N4 ?_)
  intro u4 h4 tk4 F4 N5
  refine wpAny_execs_cons (c7 w L R1 aS aN aW mean mg mb fa cd h₀ _ _ _ _ B X T (fr_see F4 (by kst_all)) N5 ?_)
  intro A cA as vs cc u5 h5 tk5 hz hnd hlow hAa hRA F5 N6
  refine wpAny_execs_cons (loop2 w L R1 aN A cA as cc hnd (fun i hi q hq => Nat.ne_of_lt (hlow i hi q hq)) hAa us xs 0 hx hxl mN1 g hg0 hg6 aT tv ct oT hT mT1 mC1 hST vs hz mean mg mb fa cd h₀ _ _ _ _ B X T (fr_see F5 (by kst_all)) N6 hE ?_)
  intro vs2 u6 h6 tk6 hnear F6 N7
  have sub7 : ∀ p ∈ (L + 1 + 1, oO) :: (L + 1, oT) :: (aT, listOf tv.toArray ct) :: (A, listOf ((List.range 6).map (fun i => Value.ref (as i))).toArray cA) :: rowsL 6 as vs2 cc, p ∈ (A, listOf ((List.range 6).map (fun i => Value.ref (as i))).toArray cA) :: (rowsL 6 as vs2 cc ++ R1) := by
    intro p hp
    rcases List.mem_cons.mp hp with e | hp
    · rw [e]; exact List.mem_cons_of_mem _ (List.mem_append_right _ mO1)
    rcases List.mem_cons.mp hp with e | hp
    · rw [e]; exact List.mem_cons_of_mem _ (List.mem_append_right _ mC1)
    rcases List.mem_cons.mp hp with e | hp
    · rw [e]; exact List.mem_cons_of_mem _ (List.mem_append_right _ mT1)
    rcases List.mem_cons.mp hp with e | hp
    · rw [e]; exact List.mem_cons_self
    · exact List.mem_cons_of_mem _ (List.mem_append_left _ hp)
  have hneO : ∀ p ∈ (L + 1, oT) :: (aT, listOf tv.toArray ct) :: (A, listOf ((List.range 6).map (fun i => Value.ref (as i))).toArray cA) :: rowsL 6 as vs2 cc, p.1 ≠ L + 1 + 1 := by
    intro p hp
    rcases List.mem_cons.mp hp with e | hp
    · rw [e]; exact Nat.ne_of_lt (Nat.lt_succ_self _)
    rcases List.mem_cons.mp hp with e | hp
    · rw [e]; exact Nat.ne_of_gt g2.1
    rcases List.mem_cons.mp hp with e | hp
    · rw [e]; exact fun q => hRA _ mO1 q.symm
    · obtain ⟨i, hi, rfl⟩ := List.mem_map.mp hp
      exact Nat.ne_of_gt (hlow i (List.mem_range.mp hi) _ mO1)
  refine wpAny_execs_cons (c9 w L ((aT, listOf tv.toArray ct) :: (A, listOf ((List.range 6).map (fun i => Value.ref (as i))).toArray cA) :: rowsL 6 as vs2 cc) A aT xs g hg0 hg6 tv ct oO oT hO hT List.mem_cons_self hST hneO mean mg mb fa cd h₀ _ _ _ _ B X T (fr_see F6 (by kst_all)) (cb_drop N7 sub7) ?_)
  intro O ov cO oO2 u7 h7 tk7 hO2 hov F7 N8
  have ok := law_ok xs
  unfold lawOk at ok
  rw [Bool.and_eq_true] at ok
  have hov' : IntsAre ov (intsOf (ordP (hsF xs))) := hov
  clear hov
  generalize ordP (hsF xs) = P at *
  refine wpAny_execs_cons (c10 w L ((aT, listOf tv.toArray ct) :: (A, listOf ((List.range 6).map (fun i => Value.ref (as i))).toArray cA) :: rowsL 6 as vs2 cc) A O ov cO oO2 oT P ok.1 hO2 hov' mean mg mb fa cd h₀ _ _ _ _ B X T F7 N8 ?_)
  intro Rk rv cR u8 h8 tk8 hrv F8 N9
  refine wpAny_execs_cons (c11 w L _ A Rk mean mg mb fa cd h₀ _ _ _ _ B X T F8 N9 ?_)
  intro tt u9 h9 tk9 F9 N10
  refine wpAny_execs_cons (loop3 w L ((aT, listOf tv.toArray ct) :: (A, listOf ((List.range 6).map (fun i => Value.ref (as i))).toArray cA) :: rowsL 6 as vs2 cc) A Rk O tt ov rv cO cR oO2 P ok.1 ok.2 hO2 hov' hrv cA as cc vs2 (List.mem_cons_of_mem _ List.mem_cons_self) (fun i hi => List.mem_cons_of_mem _ (List.mem_cons_of_mem _ (rows_mem hi))) hnear mean mg mb fa cd h₀ _ _ _ _ B X T F9 (cb_drop N10 (by
    intro p hp
    rcases List.mem_cons.mp hp with e | hp
    · rw [e]; exact List.mem_cons_of_mem _ List.mem_cons_self
    rcases List.mem_cons.mp hp with e | hp
    · rw [e]; exact List.mem_cons_self
    rcases List.mem_cons.mp hp with e | hp
    · rw [e]; exact List.mem_cons_of_mem _ (List.mem_cons_of_mem _ List.mem_cons_self)
    · exact List.mem_cons_of_mem _ (List.mem_cons_of_mem _ (List.mem_cons_of_mem _ (List.mem_cons_of_mem _ hp))))) hE ?_)
  intro t2 u10 h10 tk10 F10 N11
  exact K A Rk t2 _ _ _ _ F10 N11
end Mine
end
/-! part T12 -/
section
open PySem PySem.W PyProof.Rows PySem.Calls PySem.Spec
namespace Mine
set_option maxRecDepth 100000
set_option maxHeartbeats 8000000
set_option rowWalk.seconds 0
local macro_rules | `(tactic| k_qdec) => `(tactic| decide +kernel)
theorem lawx : PySem.Challenge.rw_rs0103_01.Holds := by
  refine hd (by rfl) (by rfl) (by rfl) ?_
  w_on
  k_go0
  all_goals try k_fold
  repeat' (first | (k_unfold; (try dsimp only)) | (k_end; wrow_close) | ((fail_if_success ((with_reducible show wpAny _ _ (subscriptTail (Expr.List _ _) _ _ _) _ _ _))); walk1) | (dsimp only; (fail_if_success ((with_reducible show wpAny _ _ (subscriptTail (Expr.List _ _) _ _ _) _ _ _))); walk1) | (leave1; (try dsimp only)) | fail "no step")
  walk_at "last subscriptTail"
  k_dflt (refine' kmk_slice_ints (ns := [3, 12, 7, 15, 0, 21]) ?zF ?zN ?zl ?zp ?zq ?zi ?zm ?zc ?_ ?zs ?zt ?zz; (case zF => k_asm); (case zN => k_asm); (case zl => kmk_list); (case zp => kmk_part); (case zq => kmk_part); (case zi => repeat constructor); (case zm => exact kmk_from (by repeat constructor) (by omega)); (case zc => kmk_len); (case zs => with_unfolding_all rfl); (case zt => kmk_pure); (case zz => exact Nat.le_of_ble_eq_true rfl))
  intro D' ws' h' F' N' l1 hI' hC' hL'
  (try k_lt l1)
  (try k_sweep)
  repeat' (first | (k_unfold; (try dsimp only)) | (k_end; wrow_close) | ((fail_if_success ((with_reducible show wpAny _ _ (execs (Stmt.For _ _ _ _ _ :: _) _) _ _ _))); walk1) | (dsimp only; (fail_if_success ((with_reducible show wpAny _ _ (execs (Stmt.For _ _ _ _ _ :: _) _) _ _ _))); walk1) | (leave1; (try dsimp only)) | fail "no step")
  rename IntsAre _ (List.take _ _ ++ _) => hXs
  rename (PySem.Obj.data _ = Data.cell (some (Value.ref _))) => dT
  rename (PySem.Obj.data _ = Data.cell (bindC _ _ _ _)) => dR
  clear dR
  rename (PySem.Obj.data _ = Data.cell (bindC _ _ _ _)) => dO
  rename Fr _ _ _ _ => FF
  rename News _ _ _ _ => NN
  rename (_ < _ ∧ _) => lAll
  obtain ⟨u1, F1⟩ := fr_hide [(Str.ofString "script", .ref _), (Str.ofString "numbers", .ref _), (Str.ofString "wheel", .ref _)] FF (by kst_all)
  clear FF
  refine' rest _ _ _ _ _ _ _ _ _ _ _ _ _ _ _ _ _ _ _ _ _ _ _ _ _ _ _ _ _ _ _ _ _ _ _ _ _ _ _ _ _ _ _ _ _ _ _ _ ?zB ?zX ?zT ?zF ?zN ?zE ?zS ?zsv ?zns ?zO ?zdT ?zx ?zxl trivial trivial trivial trivial trivial trivial trivial trivial ?zg1 ?zg2 ?zK
  case zN => exact NN
  case zF => exact F1
  case zB => assumption
  case zX => assumption
  case zT => assumption
  case zE => with_unfolding_all passes_own
  case zdT => exact dT
  case zO => exact dO
  case zS => assumption
  case zsv => assumption
  case zns => omega
  case zx => exact hXs
  case zxl => simp; omega
  case zg1 => (refine ⟨?_, ?_, ?_, ?_, ?_, ?_, ?_, ?_⟩ <;> omega)
  case zg2 => (refine ⟨?_, ?_, ?_, ?_, ?_, ?_, ?_, ?_, ?_⟩ <;> omega)
  case zK =>
    intro A Rk t2 R u' h9 tk9 F9 N9
    clear NN F1
    show wpAny _ (callerA.deeper (envOfC _ ⟨_, _, _, _, _⟩ _ _ _)) (execs [Stmt.Return _ _] (envOfC _ ⟨_, _, _, _, _⟩ _ _ _)) _ _ _
    dsimp only
    repeat' (first | (k_unfold; (try dsimp only)) | (k_end; wrow_close) | ((fail_if_success (fail "x")); walk1) | (dsimp only; (fail_if_success (fail "x")); walk1) | (leave1; (try dsimp only)) | fail "no step")
end Mine
end
end
set_option maxRecDepth 100000 in
set_option maxHeartbeats 8000000 in
theorem PySem.Challenge.cw_rs0103_01_holds : PySem.Challenge.rw_rs0103_01.Holds := by
  exact Mine.lawx
