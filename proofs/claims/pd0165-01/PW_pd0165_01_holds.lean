import PyProof.Rows.All
import Wide.All
import OpenK.AllK
import Wide.FinOn
import PySem.Challenge.RW_pd0165_01
open PySem PySem.W PyProof.Rows PySem.Calls PySem.Spec
set_option Elab.async false
set_option compiler.extract_closed false
set_option maxRecDepth 100000
set_option linter.all false
set_option linter.unusedVariables false
set_option linter.deprecated false
namespace Mine
noncomputable abbrev P0 : Program := PySem.Challenge.rw_pd0165_01.row.prog
noncomputable def fnO (i : Nat) (pm : Value) (code : Addr) : Obj := match P0.main.body[i]? with
  | some (.FunctionDef name args body _ _ _ scope _ _ _) => { cls := .type "function", data := .func { name := name, qualname := name, params := args, body := .stmts body, scope := scope, globals := 3, closure := [], defaults := .none, kwdefaults := .none, pyModule := pm, code := .ref code } }
  | _ => { cls := .none, data := .dict #[] 0 }
noncomputable def K2 (P : Params) : Frag := [
  (3, { cls := Value.type "dict", data := Data.dict #[{ hash := PyData.keyHash P (Str.ofString "__name__"), key := Value.str (Str.ofString "__name__") 165, val := Value.str (Str.ofString "law_pd0165_01") 389 }, { hash := PyData.keyHash P (Str.ofString "__doc__"), key := Value.str (Str.ofString "__doc__") 166, val := Value.none }, { hash := PyData.keyHash P (Str.ofString "__package__"), key := Value.str (Str.ofString "__package__") 167, val := Value.none }, { hash := PyData.keyHash P (Str.ofString "__loader__"), key := Value.str (Str.ofString "__loader__") 168, val := Value.builtin "__main__.__loader__#opaque" }, { hash := PyData.keyHash P (Str.ofString "__spec__"), key := Value.str (Str.ofString "__spec__") 169, val := Value.none }, { hash := PyData.keyHash P (Str.ofString "__annotations__"), key := Value.str (Str.ofString "__annotations__") 170, val := Value.ref 6 }, { hash := PyData.keyHash P (Str.ofString "__builtins__"), key := Value.str (Str.ofString "__builtins__") 171, val := Value.ref 4 }, { hash := PyData.keyHash P (Str.ofString "__file__"), key := Value.str (Str.ofString "__file__") 173, val := Value.str (Str.ofString "/claim/cut.py") 172 }, { hash := PyData.keyHash P (Str.ofString "__cached__"), key := Value.str (Str.ofString "__cached__") 174, val := Value.none }, { hash := PyData.keyHash P (Str.ofString "_wall"), key := Value.str (Str.ofString "_wall") 193, val := Value.ref 21 }, { hash := PyData.keyHash P (Str.ofString "_plain_name"), key := Value.str (Str.ofString "_plain_name") 204, val := Value.ref 28 }, { hash := PyData.keyHash P (Str.ofString "ABCMeta"), key := Value.str (Str.ofString "ABCMeta") 230, val := Value.ref 45 }, { hash := PyData.keyHash P (Str.ofString "_ABCLike"), key := Value.str (Str.ofString "_ABCLike") 273, val := Value.ref 78 }, { hash := PyData.keyHash P (Str.ofString "_abc_plain_meta"), key := Value.str (Str.ofString "_abc_plain_meta") 280, val := Value.ref 87 }, { hash := PyData.keyHash P (Str.ofString "fspath"), key := Value.str (Str.ofString "fspath") 292, val := Value.ref 94 }, { hash := PyData.keyHash P (Str.ofString "_check_arg_types"), key := Value.str (Str.ofString "_check_arg_types") 305, val := Value.ref 101 }, { hash := PyData.keyHash P (Str.ofString "_get_sep"), key := Value.str (Str.ofString "_get_sep") 314, val := Value.ref 108 }, { hash := PyData.keyHash P (Str.ofString "join"), key := Value.str (Str.ofString "join") 325, val := Value.ref 115 }, { hash := PyData.keyHash P (Str.ofString "commonpath"), key := Value.str (Str.ofString "commonpath") 331, val := Value.ref 120 }, { hash := PyData.keyHash P (Str.ofString "heappush"), key := Value.str (Str.ofString "heappush") 341, val := Value.ref 127 }, { hash := PyData.keyHash P (Str.ofString "heappop"), key := Value.str (Str.ofString "heappop") 350, val := Value.ref 134 }, { hash := PyData.keyHash P (Str.ofString "_siftdown"), key := Value.str (Str.ofString "_siftdown") 362, val := Value.ref 141 }, { hash := PyData.keyHash P (Str.ofString "_siftup"), key := Value.str (Str.ofString "_siftup") 375, val := Value.ref 148 }, { hash := PyData.keyHash P (Str.ofString "_byteswap"), key := Value.str (Str.ofString "_byteswap") 388, val := Value.ref 155 }, { hash := PyData.keyHash P (Str.ofString "_law_laid"), key := Value.str (Str.ofString "_law_laid") 396, val := Value.ref 160 }, { hash := PyData.keyHash P (Str.ofString "_law_ways"), key := Value.str (Str.ofString "_law_ways") 408, val := Value.ref 167 }, { hash := PyData.keyHash P (Str.ofString "_law_text"), key := Value.str (Str.ofString "_law_text") 414, val := Value.ref 172 }, { hash := PyData.keyHash P (Str.ofString "_law_worth"), key := Value.str (Str.ofString "_law_worth") 424, val := Value.ref 179 }, { hash := PyData.keyHash P (Str.ofString "_law_popped"), key := Value.str (Str.ofString "_law_popped") 430, val := Value.ref 184 }, { hash := PyData.keyHash P (Str.ofString "_law_net"), key := Value.str (Str.ofString "_law_net") 443, val := Value.ref 191 }, { hash := PyData.keyHash P (Str.ofString "_law_alike"), key := Value.str (Str.ofString "_law_alike") 449, val := Value.ref 196 }, { hash := PyData.keyHash P (Str.ofString "_law_net_told"), key := Value.str (Str.ofString "_law_net_told") 455, val := Value.ref 201 }, { hash := PyData.keyHash P (Str.ofString "_law_side"), key := Value.str (Str.ofString "_law_side") 461, val := Value.ref 206 }, { hash := PyData.keyHash P (Str.ofString "law"), key := Value.str (Str.ofString "law") 467, val := Value.ref 211 }] 34 }),
  (93, { cls := Value.type "code", data := Data.fields #[Value.str (Str.ofString "fspath") 283, Value.str (Str.ofString "fspath") 284, Value.str (Str.ofString "/claim/cut.py") 285, Value.int 35 0, Value.int 1 0, Value.int 0 0, Value.int 0 0, Value.int 3 0, Value.ref 88, Value.bool true, Value.int 181 0, Value.ref 89, Value.none, Value.ref 90, Value.ref 91, Value.ref 92, Value.int 290 0, Value.int 35 0, Value.str (Str.ofString "/claim/cut.py") 291] }),
  (94, fnO 9 (Value.str (Str.ofString "os") 281) 93),
  (107, { cls := Value.type "code", data := Data.fields #[Value.str (Str.ofString "_get_sep") 308, Value.str (Str.ofString "_get_sep") 309, Value.str (Str.ofString "/claim/cut.py") 310, Value.int 64 0, Value.int 1 0, Value.int 0 0, Value.int 0 0, Value.int 3 0, Value.ref 102, Value.bool true, Value.int 181 0, Value.ref 103, Value.none, Value.ref 104, Value.ref 105, Value.ref 106, Value.int 312 0, Value.int 64 0, Value.str (Str.ofString "/claim/cut.py") 313] }),
  (108, fnO 13 (Value.str (Str.ofString "cpy313.posixpath") 306) 107),
  (114, { cls := Value.type "code", data := Data.fields #[Value.str (Str.ofString "join") 315, Value.str (Str.ofString "join") 316, Value.str (Str.ofString "/claim/cut.py") 317, Value.int 69 0, Value.int 1 0, Value.int 0 0, Value.int 0 0, Value.int 7 0, Value.ref 109, Value.bool true, Value.int 181 0, Value.ref 110, Value.none, Value.ref 111, Value.ref 112, Value.ref 113, Value.int 323 0, Value.int 69 0, Value.str (Str.ofString "/claim/cut.py") 324] }),
  (115, fnO 14 (Value.str (Str.ofString "cpy313.posixpath") 306) 114),
  (119, { cls := Value.type "code", data := Data.fields #[Value.str (Str.ofString "commonpath") 326, Value.str (Str.ofString "commonpath") 327, Value.str (Str.ofString "/claim/cut.py") 328, Value.int 86 0, Value.int 1 0, Value.int 0 0, Value.int 0 0, Value.int 3 0, Value.ref 116, Value.bool true, Value.int 181 0, Value.ref 117, Value.none, Value.none, Value.none, Value.ref 118, Value.int 329 0, Value.int 86 0, Value.str (Str.ofString "/claim/cut.py") 330] }),
  (120, fnO 15 (Value.str (Str.ofString "cpy313.posixpath") 306) 119),
  (126, { cls := Value.type "code", data := Data.fields #[Value.str (Str.ofString "heappush") 334, Value.str (Str.ofString "heappush") 335, Value.str (Str.ofString "/claim/cut.py") 336, Value.int 116 0, Value.int 2 0, Value.int 0 0, Value.int 0 0, Value.int 3 0, Value.ref 121, Value.bool true, Value.int 181 0, Value.ref 122, Value.none, Value.ref 123, Value.ref 124, Value.ref 125, Value.int 339 0, Value.int 116 0, Value.str (Str.ofString "/claim/cut.py") 340] }),
  (127, fnO 17 (Value.str (Str.ofString "cpy313.heapq") 332) 126),
  (133, { cls := Value.type "code", data := Data.fields #[Value.str (Str.ofString "heappop") 342, Value.str (Str.ofString "heappop") 343, Value.str (Str.ofString "/claim/cut.py") 344, Value.int 119 0, Value.int 1 0, Value.int 0 0, Value.int 0 0, Value.int 3 0, Value.ref 128, Value.bool true, Value.int 181 0, Value.ref 129, Value.none, Value.ref 130, Value.ref 131, Value.ref 132, Value.int 348 0, Value.int 119 0, Value.str (Str.ofString "/claim/cut.py") 349] }),
  (134, fnO 18 (Value.str (Str.ofString "cpy313.heapq") 332) 133),
  (140, { cls := Value.type "code", data := Data.fields #[Value.str (Str.ofString "_siftdown") 351, Value.str (Str.ofString "_siftdown") 352, Value.str (Str.ofString "/claim/cut.py") 353, Value.int 127 0, Value.int 3 0, Value.int 0 0, Value.int 0 0, Value.int 3 0, Value.ref 135, Value.bool true, Value.int 181 0, Value.ref 136, Value.none, Value.ref 137, Value.ref 138, Value.ref 139, Value.int 360 0, Value.int 127 0, Value.str (Str.ofString "/claim/cut.py") 361] }),
  (141, fnO 19 (Value.str (Str.ofString "cpy313.heapq") 332) 140),
  (147, { cls := Value.type "code", data := Data.fields #[Value.str (Str.ofString "_siftup") 363, Value.str (Str.ofString "_siftup") 364, Value.str (Str.ofString "/claim/cut.py") 365, Value.int 138 0, Value.int 2 0, Value.int 0 0, Value.int 0 0, Value.int 3 0, Value.ref 142, Value.bool true, Value.int 181 0, Value.ref 143, Value.none, Value.ref 144, Value.ref 145, Value.ref 146, Value.int 373 0, Value.int 138 0, Value.str (Str.ofString "/claim/cut.py") 374] }),
  (148, fnO 20 (Value.str (Str.ofString "cpy313.heapq") 332) 147),
  (154, { cls := Value.type "code", data := Data.fields #[Value.str (Str.ofString "_byteswap") 378, Value.str (Str.ofString "_byteswap") 379, Value.str (Str.ofString "/claim/cut.py") 380, Value.int 153 0, Value.int 2 0, Value.int 0 0, Value.int 0 0, Value.int 3 0, Value.ref 149, Value.bool true, Value.int 181 0, Value.ref 150, Value.none, Value.ref 151, Value.ref 152, Value.ref 153, Value.int 386 0, Value.int 153 0, Value.str (Str.ofString "/claim/cut.py") 387] }),
  (155, fnO 22 (Value.str (Str.ofString "cpy313.wave") 376) 154),
  (159, { cls := Value.type "code", data := Data.fields #[Value.str (Str.ofString "_law_laid") 391, Value.str (Str.ofString "_law_laid") 392, Value.str (Str.ofString "/claim/cut.py") 393, Value.int 160 0, Value.int 1 0, Value.int 0 0, Value.int 0 0, Value.int 3 0, Value.ref 156, Value.bool true, Value.int 181 0, Value.ref 157, Value.none, Value.none, Value.none, Value.ref 158, Value.int 394 0, Value.int 160 0, Value.str (Str.ofString "/claim/cut.py") 395] }),
  (160, fnO 24 (Value.str (Str.ofString "law_pd0165_01") 389) 159),
  (166, { cls := Value.type "code", data := Data.fields #[Value.str (Str.ofString "_law_ways") 397, Value.str (Str.ofString "_law_ways") 398, Value.str (Str.ofString "/claim/cut.py") 399, Value.int 162 0, Value.int 2 0, Value.int 0 0, Value.int 0 0, Value.int 3 0, Value.ref 161, Value.bool true, Value.int 181 0, Value.ref 162, Value.none, Value.ref 163, Value.ref 164, Value.ref 165, Value.int 406 0, Value.int 162 0, Value.str (Str.ofString "/claim/cut.py") 407] }),
  (167, fnO 25 (Value.str (Str.ofString "law_pd0165_01") 389) 166),
  (171, { cls := Value.type "code", data := Data.fields #[Value.str (Str.ofString "_law_text") 409, Value.str (Str.ofString "_law_text") 410, Value.str (Str.ofString "/claim/cut.py") 411, Value.int 170 0, Value.int 1 0, Value.int 0 0, Value.int 0 0, Value.int 3 0, Value.ref 168, Value.bool true, Value.int 181 0, Value.ref 169, Value.none, Value.none, Value.none, Value.ref 170, Value.int 412 0, Value.int 170 0, Value.str (Str.ofString "/claim/cut.py") 413] }),
  (172, fnO 26 (Value.str (Str.ofString "law_pd0165_01") 389) 171),
  (178, { cls := Value.type "code", data := Data.fields #[Value.str (Str.ofString "_law_worth") 415, Value.str (Str.ofString "_law_worth") 416, Value.str (Str.ofString "/claim/cut.py") 417, Value.int 172 0, Value.int 2 0, Value.int 0 0, Value.int 0 0, Value.int 3 0, Value.ref 173, Value.bool true, Value.int 181 0, Value.ref 174, Value.none, Value.ref 175, Value.ref 176, Value.ref 177, Value.int 422 0, Value.int 172 0, Value.str (Str.ofString "/claim/cut.py") 423] }),
  (179, fnO 27 (Value.str (Str.ofString "law_pd0165_01") 389) 178),
  (183, { cls := Value.type "code", data := Data.fields #[Value.str (Str.ofString "_law_popped") 425, Value.str (Str.ofString "_law_popped") 426, Value.str (Str.ofString "/claim/cut.py") 427, Value.int 177 0, Value.int 1 0, Value.int 0 0, Value.int 0 0, Value.int 3 0, Value.ref 180, Value.bool true, Value.int 181 0, Value.ref 181, Value.none, Value.none, Value.none, Value.ref 182, Value.int 428 0, Value.int 177 0, Value.str (Str.ofString "/claim/cut.py") 429] }),
  (184, fnO 28 (Value.str (Str.ofString "law_pd0165_01") 389) 183),
  (190, { cls := Value.type "code", data := Data.fields #[Value.str (Str.ofString "_law_net") 431, Value.str (Str.ofString "_law_net") 432, Value.str (Str.ofString "/claim/cut.py") 433, Value.int 182 0, Value.int 1 0, Value.int 0 0, Value.int 0 0, Value.int 3 0, Value.ref 185, Value.bool true, Value.int 181 0, Value.ref 186, Value.none, Value.ref 187, Value.ref 188, Value.ref 189, Value.int 441 0, Value.int 182 0, Value.str (Str.ofString "/claim/cut.py") 442] }),
  (191, fnO 29 (Value.str (Str.ofString "law_pd0165_01") 389) 190),
  (195, { cls := Value.type "code", data := Data.fields #[Value.str (Str.ofString "_law_alike") 444, Value.str (Str.ofString "_law_alike") 445, Value.str (Str.ofString "/claim/cut.py") 446, Value.int 197 0, Value.int 2 0, Value.int 0 0, Value.int 0 0, Value.int 3 0, Value.ref 192, Value.bool true, Value.int 181 0, Value.ref 193, Value.none, Value.none, Value.none, Value.ref 194, Value.int 447 0, Value.int 197 0, Value.str (Str.ofString "/claim/cut.py") 448] }),
  (196, fnO 30 (Value.str (Str.ofString "law_pd0165_01") 389) 195),
  (200, { cls := Value.type "code", data := Data.fields #[Value.str (Str.ofString "_law_net_told") 450, Value.str (Str.ofString "_law_net_told") 451, Value.str (Str.ofString "/claim/cut.py") 452, Value.int 199 0, Value.int 2 0, Value.int 0 0, Value.int 0 0, Value.int 3 0, Value.ref 197, Value.bool true, Value.int 181 0, Value.ref 198, Value.none, Value.none, Value.none, Value.ref 199, Value.int 453 0, Value.int 199 0, Value.str (Str.ofString "/claim/cut.py") 454] }),
  (201, fnO 31 (Value.str (Str.ofString "law_pd0165_01") 389) 200),
  (205, { cls := Value.type "code", data := Data.fields #[Value.str (Str.ofString "_law_side") 456, Value.str (Str.ofString "_law_side") 457, Value.str (Str.ofString "/claim/cut.py") 458, Value.int 211 0, Value.int 4 0, Value.int 0 0, Value.int 0 0, Value.int 3 0, Value.ref 202, Value.bool true, Value.int 181 0, Value.ref 203, Value.none, Value.none, Value.none, Value.ref 204, Value.int 459 0, Value.int 211 0, Value.str (Str.ofString "/claim/cut.py") 460] }),
  (206, fnO 32 (Value.str (Str.ofString "law_pd0165_01") 389) 205),
  (210, { cls := Value.type "code", data := Data.fields #[Value.str (Str.ofString "law") 462, Value.str (Str.ofString "law") 463, Value.str (Str.ofString "/claim/cut.py") 464, Value.int 222 0, Value.int 1 0, Value.int 0 0, Value.int 0 0, Value.int 3 0, Value.ref 207, Value.bool true, Value.int 181 0, Value.ref 208, Value.none, Value.none, Value.none, Value.ref 209, Value.int 465 0, Value.int 222 0, Value.str (Str.ofString "/claim/cut.py") 466] }),
  (211, fnO 33 (Value.str (Str.ofString "law_pd0165_01") 389) 210)]
theorem wlA : namesResolve PySem.Challenge.rw_pd0165_01.row.prog = true := by kernel_rfl
theorem wlB : noRoadLSs { strict := !(importedModules PySem.Challenge.rw_pd0165_01.row.prog.main.body).all cThrough.contains, foot := none, bare := (["vars", "dir", "locals"] : List Str).filter (readsOut PySem.Challenge.rw_pd0165_01.row.prog PySem.Challenge.rw_pd0165_01.row.prog.main.body) } PySem.Challenge.rw_pd0165_01.row.prog.main.body = true := by kernel_rfl
theorem wlC : (namesMeet PySem.Challenge.rw_pd0165_01.row.prog PySem.Challenge.rw_pd0165_01.row.prog.main.body fun _ n => attrL n) = true := by kernel_rfl
theorem wl1 : OpenRow.partSaid PySem.Challenge.rw_pd0165_01.row = true := by
  unfold OpenRow.partSaid
  refine look_both (look_both (look_both (look_both (look_both (look_both (look_both (look_both (look_both (look_both (look_both (look_both (look_both ?_ ?_) ?_) ?_) ?_) ?_) ?_) ?_) ?_) ?_) ?_) ?_) ?_) ?_
  · unfold looksOpen
    repeat' (with_reducible apply look_both)
    all_goals first | with_reducible exact wlA | with_reducible exact wlB | with_reducible exact wlC | kernel_rfl
  all_goals kernel_rfl
theorem wl2 : OpenRow.wellSaid PySem.Challenge.rw_pd0165_01.row = true := by
  unfold OpenRow.wellSaid
  refine look_both (look_both wl1 ?_) ?_
  all_goals kernel_rfl
theorem wl : OpenLaw.wellSaid PySem.Challenge.rw_pd0165_01 = true := by
  unfold OpenLaw.wellSaid
  repeat' (with_reducible apply look_both)
  · exact wl2
  all_goals kernel_rfl
noncomputable def badIds : List String := Builtin.Bytes.decodersThatHold ++ ["bytearray.__contains__", "bytearray.__mod__", "bytearray.__rmod__", "_struct.pack_into.held", "bytearray.find.held"]
noncomputable def isDec : Code → Bool
  | .builtin id _ => badIds.contains id
  | _ => false
noncomputable def Clean (Γ : PySem.Ctx) : Prop := isDec Γ.code = false ∧ ∀ x ∈ Γ.below, isDec x.1 = false
noncomputable def wpC {α : Type} (M : Model) (A : Around) (t : Sem α) (Q : α → Shared → Prop) (E : Value → Shared → Prop) (s : Shared) : Prop :=
  ∀ Γ p, Γ.In A → Clean Γ → Sem.wp M Γ t (fun a _ s' => Q a s') (fun e _ s' => E e s') p s
noncomputable def codeC (M : Model) (A : Around) (c : Code) (R : Result → Shared → Prop) (s : Shared) : Prop :=
  ∀ Γ p, Γ.code = c → Γ.Below A → Clean Γ → wpCode M Γ R p s
section
variable {α β : Type} {M : Model} {A : Around} {E : Value → Shared → Prop} {s : Shared}
theorem wpC_of {t : Sem α} {Q : α → Shared → Prop} (h : wpAny M A t Q E s) : wpC M A t Q E s := fun Γ p hΓ _ => h Γ p hΓ
theorem codeC_of {c : Code} {R : Result → Shared → Prop} (h : codeAny M A c R s) : codeC M A c R s := fun Γ p hc hΓ _ => h Γ p hc hΓ
theorem wpC_mono {t : Sem α} {Q Q' : α → Shared → Prop} {E' : Value → Shared → Prop} (h : wpC M A t Q E s) (hQ : ∀ a s, Q a s → Q' a s) (hE : ∀ e s, E e s → E' e s) : wpC M A t Q' E' s :=
  fun Γ p hΓ hC => Sem.wp_mono M Γ t (fun a _ s => hQ a s) (fun e _ s => hE e s) p s (h Γ p hΓ hC)
theorem wpC_bind {m : Sem α} {f : α → Sem β} {Q : β → Shared → Prop} (h : wpC M A m (fun a s' => wpC M A (f a) Q E s') E s) : wpC M A (m >>= f) Q E s := fun Γ p hΓ hC => by
  rw [Sem.wp_bind']
  exact Sem.wp_mono M Γ m (fun a p' s' h' => h' Γ p' hΓ hC) (fun _ _ _ h' => h') p s (h Γ p hΓ hC)
theorem wpC_bindA {m : Sem α} {f : α → Sem β} {Q : β → Shared → Prop} (h : wpAny M A m (fun a s' => wpC M A (f a) Q E s') E s) : wpC M A (m >>= f) Q E s := wpC_bind (wpC_of h)
theorem wpC_pure {a : α} {Q : α → Shared → Prop} (h : Q a s) : wpC M A (pure a) Q E s := wpC_of (wpAny_pure h)
end

theorem clean_caller : Clean ⟨.builtin "claim.caller" {}, none, none, [], none⟩ :=
  ⟨show badIds.contains "claim.caller" = false from by decide +kernel, fun x hx => by cases hx⟩
theorem thread_clean {prog : Program} {w : World} {t : Sem Fin} {s : Shared} {R : Result → Shared → Prop} (hreg : s.asleep)
    (h : wpC (model prog w) callerA t (fun fin s' => ∃ f, fin = .done f ∧ R (.ok f) s' ∧ leftWithCleanup s'.gens = false) (fun e s' => R (.error e) s' ∧ leftWithCleanup s'.gens = false) s) :
    ∃ n r s' s'', runN (denote table) prog w n s ⟨t, .builtin "claim.caller" {}, default, []⟩ = .halted (outcomeOf r) s' ∧
      schedN (denote table) prog w n (.single s ⟨t, .builtin "claim.caller" {}, default, []⟩) = .halted (outcomeOf r) s' ∧ s'.forget = s''.forget ∧ R r s'' := by
  have hw := Sem.wp_mono (model prog w) _ t (post' := Sem.finPost (model prog w) ⟨.builtin "claim.caller" {}, none, none, [], none⟩ fun r s' => R r s' ∧ leftWithCleanup s'.gens = false)
    (fun fin p' s' h' => by obtain ⟨f, rfl, hf⟩ := h'; exact hf) (fun _ _ _ h' => h') default s (h _ default caller_in clean_caller)
  obtain ⟨n, r, s₁, s₂, hs, hn, hfo, hR⟩ := wp_halts_full (M := model prog w) (R := R) hreg hw
  exact ⟨n, r, s₂, s₁, hn, hs, hfo, hR⟩
noncomputable abbrev WalkClean (q : Program) (loose : List Str) (XP : (Str → Option Value) → Heap → Prop) (YP : World → Heap → Prop) (r : RowW) (d : DefRec) (kwd : List (Str × Expr)) : Prop :=
  ∀ (w : World) (s₀ s₁ : Shared) (mg mb : Str → Option Value), Ground q loose r.records XP w s₀ mg mb s₁.heap → YP w s₁.heap → ∀ (a : Addr) (o : Obj) (pm cd doc dV kV : Value), s₁.heap.get? a = some o →
    o.data = .func { docDef d.name d.params d.body d.scope pm cd doc with defaults := dV, kwdefaults := kV } → s₁.heap.CodeRec cd d.name → Dflts mg s₁.heap d.params kwd dV kV → mg d.name = some (.ref a) → s₁.gens = #[] →
    ∀ (args : List WData) (vals : List Value) (as : List Addr), r.claim.pre args = true → WData.layableAll args = true → ReadsAllW r.records (classAt s₀.heap) s₁.heap vals args as → WellAll w.params s₁.heap vals args → (∀ a ∈ as, (a == sysModules) = false) →
      wpC (model r.prog w) callerA (PySem.call (.ref a) vals) (fun v s' => GoodWG r.claim (classAt s₀.heap) (ExcName.means s₀.heap) args s₁ (.ok (.ret v)) s')
        (fun e s' => GoodWG r.claim (classAt s₀.heap) (ExcName.means s₀.heap) args s₁ (.error e) s') s₁
theorem holds_clean {r : OpenRow} {q : Program} {loose : List Str} {Xt : Shared → Bool} {XP : (Str → Option Value) → Heap → Prop} {α : Type} {Yf : Shared → α} {Ya : World → α} {YP : World → Heap → Prop} {d : DefRec} {kwd : List (Str × Expr)} {N : Nat}
    (left : LeftO r.prog q loose Xt Yf Ya N) (hY : ∀ w s, Yf s = Ya w → YP w s.heap) (hYk : ∀ w h h', YP w h → (∀ b o, h.get? b = some o → h'.get? b = some o) → YP w h')
    (hX : ∀ s, Xt s = true → XP (s.heap.nsMap mainGlobals) s.heap) (hXk : ∀ mg h h', XP mg h → (∀ b o, h.get? b = some o → h'.get? b = some o) → XP mg h')
    (hdef : defOf q r.name = some (d, kwd)) (hp : r.prog.theDef r.name = some (d.params, d.body, d.scope)) (hk : kwWritten? d.params.kwonlyargs d.params.kw_defaults = some kwd) (hRf : ∀ s, Xt s = true → RecFacts r.records s.heap) (hwr : (!r.writes || r.records.isEmpty) = true)
    (k1 : r.wellSaid = true) (ok : (chainsOk q && opensWell r.prog && (frees r.toRowW && r.within.isEmpty)) = true) (hb : r.prog.bare) (hw : r.toRowW.promised)
    (call : WalkClean q loose XP YP r.toRowW d kwd) : r.Holds := by
  simp only [Bool.and_eq_true] at ok
  obtain ⟨⟨hch, hop⟩, hfr, hwi0⟩ := ok
  obtain ⟨hsame, hu, ha, hap, hm⟩ := frees_parts hfr
  have hwi : r.toRowW.claim.within = [] := List.isEmpty_iff.mp hwi0
  have hi := ident_freeW hu ha hap
  have B := fun w => left.behind (XP := fun mg h => XP mg h ∧ RecFacts r.records h) (fun s hs => ⟨hX s hs, hRf s hs⟩) hch w
  refine ⟨k1, hw, ⟨hb, hop, by show r.toRowW.makers.map _ = []; rw [hm]; rfl⟩, hw.witness, fun w => ⟨(B w).1, fun s' hs' => ?_⟩⟩
  obtain ⟨s₀, hf, hg0, s, hT, hz, hgn, hg, G00, y⟩ := (B w).2 s' hs'
  have hgens : s.gens = #[] := Array.eq_empty_of_size_eq_zero (beq_iff_eq.mp hgn)
  have RF := G00.X.2
  have G0 : Ground q loose [] XP w s (s.heap.nsMap mainGlobals) (s.heap.nsMap builtinsNs) s.heap := ⟨G00.T, G00.B, G00.D, G00.TE, G00.TD, G00.W, G00.X.1, G00.cls, G00.has, G00.apart, G00.once, G00.K⟩
  have G : Ground q loose r.records XP w s _ _ s.heap := RF.ground G0
  refine ⟨s₀, hf, hg0, s, hT, fun n hn => ?_, RF.1, RF.2.1, fun args hpre hlay ord hord => ?_⟩
  · obtain rfl : n = r.name := by split at hn <;> simp_all
    exact pinned_of_view hg G0 hdef hp hk
  obtain ⟨⟨vs, s₁⟩, hlaid⟩ := Option.isSome_iff_exists.mp (layAllW_isSome (P := w.params) (ord := ord) G.has args r.args s (pre_splitW hpre).1)
  have keeps := layAllW_keeps _ _ _ hlaid
  have hal := layAllW_rest _ _ _ hlaid
  obtain ⟨as, hrd, hin, hold⟩ := reads_layAllW hord _ _ _ hlaid hlay s₁.heap (fun _ _ e => e)
  have L : Laid r.records w s s₁ args vs as := ⟨⟨ord, hord, hlaid⟩, hrd, hin, hold, keeps, hal.1.trans hgens, hal.2.2.1⟩
  have G₁ := G.keeps hXk keeps
  obtain ⟨a, o, pm, cd, doc, dV, kV, h1, h2, h3, h4, h5⟩ := G₁.fn hdef
  have walk := call w s s₁ _ _ G₁ (hYk _ _ _ (hY w s y) keeps) a o pm cd doc dV kV h2 h3 h4 h5 (defOf_name hdef ▸ h1) L.gens args vs as hpre hlay L.reads L.well (L.low G.low)
  have good : ∀ (x : Result) (z : Shared), GoodWG r.toRowW.claim (classAt s.heap) (ExcName.means s.heap) args s₁ x z →
      (r.toRowW.claim.Ends s args vs s₁ x z ∧ z.os = s.os ∧ (r.writes = true → namesKept r.toRowW.claim.prog r.keeps s.heap z.heap ∧ ∀ x ∈ r.toRowW.claim.records, ∀ a, classAt s.heap x.1 = some a → recordClass z.heap a x.1 (x.2.map (·.1)) = true)) ∧ leftWithCleanup z.gens = false := fun x z g => by
    have e := g.laid (c := r.toRowW.claim) hsame hwi hi L
    exact ⟨⟨e.1, e.2.1, fun q => ⟨namesKept_of hT hg r.keeps keeps g.2.1.old, noTable hwr q⟩⟩, leftWithCleanup_false_of_bare e.2.2⟩
  obtain ⟨k, x, z', z, hrun, hsched, hfo, hcase, hos, hkp⟩ := thread_clean (prog := r.prog) (w := w) (s := s₁) (t := do match ← nsGet mainNs r.name with
      | some f => do ret (← PySem.call f vs)
      | none => unsupported "claim.caller:no-such-global")
    (R := fun x z => r.toRowW.claim.Ends s args vs s₁ x z ∧ z.os = s.os ∧ (r.writes = true → namesKept r.toRowW.claim.prog r.keeps s.heap z.heap ∧ ∀ x ∈ r.toRowW.claim.records, ∀ a, classAt s.heap x.1 = some a → recordClass z.heap a x.1 (x.2.map (·.1)) = true))
    (Shared.asleep_of_life hal.2.2.2 hz)
    (wpC_bindA (wpAny_nsGet G₁.T.g (by
      rw [h1]
      exact wpC_bind (wpC_mono walk (fun v s' g => wpC_pure ⟨_, rfl, good _ _ g⟩) fun e s' g => good _ _ g))))
  obtain ⟨eh, _, _, eo, _⟩ := Shared.forget_eq hfo
  have hcase := hcase.congr eh
  rw [← eo] at hos
  rw [← eh] at hkp
  have hlife : z'.heap.life = s.heap.life := (runN_life _ _ _ hrun).trans hal.2.2.2
  refine ⟨vs, s₁, hlaid, k, _, z', hsched, ?_, (fun _ i x hx => by rw [hgens] at hx; simp at hx), hkp, by rw [hlife], Shared.rest_eq hos⟩
  rcases hcase with ⟨v, rfl, d1, d2, d3, d4, d5⟩ | ⟨e, ob, cls, rfl, d1, d2, d3, d4, d5⟩
  · exact .inl ⟨v, rfl, d1, d2, d3, fun b o y _ => d4 b o y, d5⟩
  · exact .inr ⟨e, ob, cls, rfl, d1, d2, d3, d4, fun b o y _ => d5 b o y⟩
noncomputable def qv : Program := { P0 with main := { P0.main with body := [0, 2, 4, 6, 7, 9, 11, 13, 14, 15, 17, 18, 19, 20, 22, 24, 25, 26, 27, 28, 29, 30, 31, 32, 33].filterMap (P0.main.body[·]?) } }
noncomputable def hk2 : Hook := kHook K2 [3, 93, 94, 107, 108, 114, 115, 119, 120, 126, 127, 133, 134, 140, 141, 147, 148, 154, 155, 159, 160, 166, 167, 171, 172, 178, 179, 183, 184, 190, 191, 195, 196, 200, 201, 205, 206, 210, 211] (fun _ => by kernel_rfl)
set_option maxHeartbeats 4000000

noncomputable abbrev KK (w : World) : Frag := K2 w.params
noncomputable abbrev Led := List (Addr × Obj)
noncomputable abbrev Kp (h h' : Heap) : Prop := ∀ b o, h.get? b = some o → h'.get? b = some o
theorem kp_refl (h : Heap) : Kp h h := fun _ _ e => e
theorem Kp.trans {a b c : Heap} (x : Kp a b) (y : Kp b c) : Kp a c := fun _ _ e => y _ _ (x _ _ e)

structure Gd (w : World) (h : Heap) : Prop where
  k : (KK w).In h
  t : ∃ q mg mb, TopRead q (looseW q []) mg mb h
theorem Gd.kp {w : World} {h h' : Heap} (G : Gd w h) (k : Kp h h') : Gd w h' :=
  ⟨G.k.keeps k, let ⟨q, mg, mb, T⟩ := G.t; ⟨q, mg, mb, T.keeps k⟩⟩
theorem Gd.in' {w : World} {h : Heap} (G : Gd w h) : (KK w).In h := G.k
theorem Gd.nolimit {w : World} {h : Heap} (G : Gd w h) : h.NoLimit := let ⟨_, _, _, T⟩ := G.t; T.nolimit

structure St (B : Heap) (L : Addr) (h : Heap) (m : Str → Option Value) (O : Led) : Prop where
  ns : h.Ns L m
  kp : Kp B h
  off : B.get? L = none
  nw : ∀ p ∈ O, h.get? p.1 = some p.2 ∧ p.1 ≠ L ∧ B.get? p.1 = none
  nd : (O.map (·.1)).Nodup

section
variable {B h h' : Heap} {L : Addr} {m m' : Str → Option Value} {O O' : Led}
theorem St.keep (S : St B L h m O) (k : Kp h h') : St B L h' m O :=
  ⟨S.ns.keeps k, S.kp.trans k, S.off, fun p hp => ⟨k _ _ (S.nw p hp).1, (S.nw p hp).2⟩, S.nd⟩
theorem St.set (S : St B L h m O) (hn : h'.Ns L m') (hs : Heap.SameBut L h h') : St B L h' m' O := by
  refine ⟨hn, fun b o e => ?_, S.off, fun p hp => ⟨(hs.2 p.1 (S.nw p hp).2.1).trans (S.nw p hp).1, (S.nw p hp).2⟩, S.nd⟩
  have hb : b ≠ L := fun q => by rw [q, S.off] at e; cases e
  exact (hs.2 b hb).trans (S.kp b o e)
theorem St.fresh (S : St B L h m O) : B.get? h.objs.size = none ∧ h.objs.size ≠ L ∧ h.objs.size ∉ O.map (·.1) := by
  refine ⟨?_, Nat.ne_of_gt S.ns.lt, fun q => ?_⟩
  · cases e : B.get? h.objs.size with
    | none => rfl
    | some o => exact absurd (Heap.lt_size (S.kp _ _ e)) (Nat.lt_irrefl _)
  · obtain ⟨p, hp, e⟩ := List.mem_map.mp q
    exact absurd (Heap.lt_size (S.nw p hp).1) (e ▸ Nat.lt_irrefl _)
theorem St.push (S : St B L h m O) (o : Obj) (hf : o.isFreed = false) : St B L (h.push o) m ((h.objs.size, o) :: O) := by
  have fr := S.fresh
  have k : Kp h (h.push o) := fun b o' e => Heap.get?_push_of_some _ e
  have S' := S.keep k
  refine ⟨S'.ns, S'.kp, S'.off, fun p hp => ?_, ?_⟩
  · rcases List.mem_cons.mp hp with rfl | hp
    · exact ⟨Heap.get?_push_size _ hf, fr.2.1, fr.1⟩
    · exact S'.nw p hp
  · rw [List.map_cons, List.nodup_cons]; exact ⟨fr.2.2, S.nd⟩
theorem St.perm (S : St B L h m O) (p : O.Perm O') : St B L h m O' :=
  ⟨S.ns, S.kp, S.off, fun q hq => S.nw q (p.mem_iff.mpr hq), (p.map _).nodup_iff.mp S.nd⟩
theorem St.drop (S : St B L h m O) (p : O'.Sublist O) : St B L h m O' :=
  ⟨S.ns, S.kp, S.off, fun q hq => S.nw q (p.subset hq), (p.map (·.1)).nodup S.nd⟩
theorem St.but {O₁ O₂ : Led} {a : Addr} {o o' : Obj} (S : St B L h m (O₁ ++ (a, o) :: O₂)) (k : ∀ b x, b ≠ a → h.get? b = some x → h'.get? b = some x) (ho : h'.get? a = some o') :
    St B L h' m (O₁ ++ (a, o') :: O₂) := by
  have A0 := S.nw (a, o) (by simp)
  have nd := S.nd
  rw [List.map_append, List.map_cons, List.nodup_append] at nd
  obtain ⟨_, n2, n3⟩ := nd
  rw [List.nodup_cons] at n2
  obtain ⟨oL, es, ep, hL, r⟩ := S.ns
  refine ⟨⟨oL, es, ep, k _ _ (Ne.symm A0.2.1) hL, r⟩, fun b x e => k b x (fun q => ?_) (S.kp b x e), S.off, fun p hp => ?_, ?_⟩
  · rw [q, A0.2.2] at e; cases e
  · rcases List.mem_append.mp hp with q | q
    · have P := S.nw p (List.mem_append_left _ q)
      refine ⟨k _ _ (fun e => ?_) P.1, P.2⟩
      exact n3 p.1 (List.mem_map_of_mem q) a List.mem_cons_self e
    · rcases List.mem_cons.mp q with rfl | q
      · exact ⟨ho, A0.2⟩
      · have P := S.nw p (List.mem_append_right _ (.tail _ q))
        refine ⟨k _ _ (fun e => ?_) P.1, P.2⟩
        exact n2.1 (List.mem_map.mpr ⟨p, q, e⟩)
  · have := S.nd
    rw [List.map_append, List.map_cons] at this ⊢
    exact this
theorem St.sameBut {O₁ O₂ : Led} {a : Addr} {o o' : Obj} (S : St B L h m (O₁ ++ (a, o) :: O₂)) (hs : Heap.SameBut a h h') (ho : h'.get? a = some o') :
    St B L h' m (O₁ ++ (a, o') :: O₂) := S.but (fun b x hb e => (hs.2 b hb).trans e) ho
theorem St.get (S : St B L h m O) {a : Addr} {o : Obj} (hm : (a, o) ∈ O) : h.get? a = some o := (S.nw _ hm).1

theorem hide_none_of {h : Heap} : ∀ (l : List Addr) {b : Addr}, h.get? b = none → (hideAll h l).get? b = none := by
  intro l b hb
  cases q : (hideAll h l).get? b with
  | none => rfl
  | some o => rw [of_hideAll l q] at hb; cases hb

theorem St.freeze {O₁ O₂ : Led} (S : St B L h m (O₁ ++ O₂)) :
    ∃ C, Kp B C ∧ Kp C h ∧ (∀ b o, h.get? b = some o → b ≠ L → b ∉ O₂.map (·.1) → C.get? b = some o) ∧ (∀ p ∈ O₁, C.get? p.1 = some p.2) ∧ St C L h m O₂ := by
  have nd := S.nd
  rw [List.map_append, List.nodup_append] at nd
  have key : ∀ b o, h.get? b = some o → b ≠ L → b ∉ O₂.map (·.1) → (hideAll h (L :: O₂.map (·.1))).get? b = some o := fun b o e h1 h2 =>
    hideAll_get _ e (fun q => by rcases List.mem_cons.mp q with q | q; exact h1 q; exact h2 q)
  refine ⟨hideAll h (L :: O₂.map (·.1)), fun b o e => key b o (S.kp b o e) (fun q => ?_) (fun q => ?_), fun b o e => of_hideAll _ e, key, fun p hp => ?_, ?_⟩
  · rw [q, S.off] at e; cases e
  · obtain ⟨p, hp, q⟩ := List.mem_map.mp q
    have := (S.nw p (List.mem_append_right _ hp)).2.2
    rw [q, e] at this; cases this
  · have P := S.nw p (List.mem_append_left _ hp)
    exact key _ _ P.1 P.2.1 fun q => nd.2.2 p.1 (List.mem_map_of_mem hp) p.1 q rfl
  · refine ⟨S.ns, fun b o e => of_hideAll _ e, hideAll_none _ List.mem_cons_self, fun p hp => ?_, nd.2.1⟩
    have P := S.nw p (List.mem_append_right _ hp)
    exact ⟨P.1, P.2.1, hideAll_none _ (List.mem_cons_of_mem _ (List.mem_map_of_mem hp))⟩
end

structure Rm (A : Around) (n : Nat) : Prop where
  depth : A.depth + n < recursionLimit
  units : A.units + 8 * n < cLine
  hand : A.handled = none
theorem Rm.deep {A : Around} {n : Nat} (r : Rm A (n + 1)) (env : Env) : Rm (A.deeper env) n :=
  ⟨by have := r.depth; show A.depth + 1 + n < _; omega, by have := r.units; show A.units + 3 + 8 * n < _; omega, r.hand⟩
theorem Rm.less {A : Around} {n k : Nat} (r : Rm A n) (h : k ≤ n) : Rm A k :=
  ⟨by have := r.depth; omega, by have := r.units; omega, r.hand⟩
theorem Rm.room {A : Around} {n : Nat} (r : Rm A n) : A.depth < recursionLimit := by have := r.depth; omega
theorem Rm.line {A : Around} {n : Nat} (r : Rm A n) : A.units < cLine := by have := r.units; omega

section
variable {w : World} {A : Around} {s : Shared} {Q E : Value → Shared → Prop} {name qual : Str} {params : Arguments} {body : List Stmt} {scope : Scope} {dV kV doc pm cdv ct oc : Value} {an od : Option Addr} {osl : Array (Option Value)} {f : Addr} {args : List Value}

theorem enterM {g : Heap} (binds : List (Str × Value)) (mu : Led) (G : Gd w g) (kg : Kp g s.heap) (hmu : ∀ p ∈ mu, s.heap.get? p.1 = some p.2 ∧ g.get? p.1 = none) (hnd : (mu.map (·.1)).Nodup) (hroom : A.depth < recursionLimit)
    (ho : (KK w).lookup f = some ⟨oc, od, .func (fnOf name qual params body scope dV kV doc pm an cdv ct), osl⟩) (hcd : codeIn (KK w) cdv qual = true)
    (hbind : BindsTo s (fnOf name qual params body scope dV kV doc pm an cdv ct) ⟨args, []⟩ binds) (hloc : ∀ y ∈ binds, scope.names.lookup y.1 = some .local)
    (hcell : ∀ x ∈ scope.names, x.2 ≠ .cell) (hco : scope.isCoroutine = false) (hgen : scope.isGenerator = false) (hk : scope.kind = .function)
    (h : ∀ C L h₁, Gd w C → Kp g C → Kp C s.heap → (∀ b o, s.heap.get? b = some o → b ∉ mu.map (·.1) → C.get? b = some o) → St C L h₁ (fun y => binds.reverse.lookup y) mu →
      wpAny (model P0 w) (A.deeper (envX qual scope L f cdv [])) (execs body (envX qual scope L f cdv []))
        (fun fl s' => Q (match fl with | .ret v => v | _ => .none) s') (fun _ _ => False) { s with heap := h₁, toks := s.toks + binds.length }) :
    wpAny (model P0 w) A (call (.ref f) args) Q E s := by
  have Gs := G.kp kg
  refine wpAny_call (codeAny_call_def hroom (Gs.k _ _ ho) rfl Gs.nolimit (codeRec_of Gs.k hcd) rfl hbind hcell hloc (fun h₁ hns hk₁ => ?_) hco hgen hk)
  have kgC : Kp g (hideAll s.heap (mu.map (·.1))) := fun b o e => hideAll_get _ (kg b o e) fun q => by
    obtain ⟨p, hp, q⟩ := List.mem_map.mp q
    have := (hmu p hp).2; rw [q, e] at this; cases this
  refine wpAny_mono (h (hideAll s.heap (mu.map (·.1))) s.heap.objs.size h₁ (G.kp kgC) kgC (fun b o e => of_hideAll _ e) (fun b o e q => hideAll_get _ e q) ⟨hns, fun b o e => hk₁ b o (of_hideAll _ e), ?_, fun p hp => ?_, hnd⟩) (fun _ _ x => x) (fun _ _ x => x.elim)
  · exact hide_none_of _ (Heap.get?_none_of_le (Nat.le_refl _))
  · exact ⟨hk₁ _ _ (hmu p hp).1, Nat.ne_of_lt (Heap.lt_size (hmu p hp).1), hideAll_none _ (List.mem_map_of_mem hp)⟩

theorem enter (binds : List (Str × Value)) (G : Gd w s.heap) (hroom : A.depth < recursionLimit)
    (ho : (KK w).lookup f = some ⟨oc, od, .func (fnOf name qual params body scope dV kV doc pm an cdv ct), osl⟩) (hcd : codeIn (KK w) cdv qual = true)
    (hbind : BindsTo s (fnOf name qual params body scope dV kV doc pm an cdv ct) ⟨args, []⟩ binds) (hloc : ∀ y ∈ binds, scope.names.lookup y.1 = some .local)
    (hcell : ∀ x ∈ scope.names, x.2 ≠ .cell) (hco : scope.isCoroutine = false) (hgen : scope.isGenerator = false) (hk : scope.kind = .function)
    (h : ∀ L h₁, St s.heap L h₁ (fun y => binds.reverse.lookup y) [] →
      wpAny (model P0 w) (A.deeper (envX qual scope L f cdv [])) (execs body (envX qual scope L f cdv []))
        (fun fl s' => Q (match fl with | .ret v => v | _ => .none) s') (fun _ _ => False) { s with heap := h₁, toks := s.toks + binds.length }) :
    wpAny (model P0 w) A (call (.ref f) args) Q E s := by
  refine wpAny_call (codeAny_call_def hroom (G.k _ _ ho) rfl G.nolimit (codeRec_of G.k hcd) rfl hbind hcell hloc (fun h₁ hns hk₁ => ?_) hco hgen hk)
  refine wpAny_mono (h s.heap.objs.size h₁ ⟨hns, hk₁, Heap.get?_none_of_le (Nat.le_refl _), (fun p hp => by cases hp), List.nodup_nil⟩) (fun _ _ x => x) (fun _ _ x => x.elim)
end

section
variable {w : World} {A : Around} {s : Shared} {E : Value → Shared → Prop} {B : Heap} {L a : Addr} {m : Str → Option Value} {O : Led} {x : Str} {pos : Pos} {v : Value}

theorem nmL {env : Env} {Q : Value → Shared → Prop} (S : St B L s.heap m O) (hL : env.locals = L) (hv : m x = some v) (hk : env.scope.kind = .function) (hx : env.kindOf x = some .local) (hd : (x == ("__debug__" : Str)) = false) (h : Q v s) :
    wpAny (model P0 w) A (eval (.Name x pos) env) Q E s := wpAny_Name (wpAny_loadName_local hk hx (hL ▸ S.ns) hv h) hd
theorem nmK {env : Env} {Q : Value → Shared → Prop} (G : Gd w B) (S : St B L s.heap m O) (e : nsIn (KK w) mainGlobals x = some (some v)) (hk : env.scope.kind = .function) (hx : env.kindOf x = some .globalImplicit) (hg : env.globals = mainGlobals) (hd : (x == ("__debug__" : Str)) = false) (h : Q v s) :
    wpAny (model P0 w) A (eval (.Name x pos) env) Q E s := by
  obtain ⟨_, mg, mb, T⟩ := G.t
  exact Name_function_global hk hx (loadGlobal_global (hg ▸ T.g.keeps S.kp) (mg_of G.k T.g e) h) hd
theorem nmB {env : Env} {Q : Value → Shared → Prop} (G : Gd w B) (S : St B L s.heap m O) (e : nsIn (KK w) mainGlobals x = some none) (hv : bootBuiltins x = some v) (hn : x ≠ "__name__") (hk : env.scope.kind = .function) (hx : env.kindOf x = some .globalImplicit) (hg : env.globals = mainGlobals) (hb : env.builtins = builtinsNs) (hd : (x == ("__debug__" : Str)) = false) (h : Q v s) :
    wpAny (model P0 w) A (eval (.Name x pos) env) Q E s := by
  obtain ⟨_, mg, mb, T⟩ := G.t
  exact Name_function_global hk hx (loadGlobal_builtin (hg ▸ T.g.keeps S.kp) (mg_none_of G.k T.g e) (hb ▸ T.b.keeps S.kp) ((T.builtins x hn).trans hv) h) hd
theorem nmC {env : Env} {c : Addr} {Q : Value → Shared → Prop} (S : St B L s.heap m O) (hc : env.cells.lookup x = some c) (hv : B.IsCell c (some v)) (hk : env.scope.kind = .function) (hx : env.kindOf x = some .cell) (hd : (x == ("__debug__" : Str)) = false) (h : Q v s) :
    wpAny (model P0 w) A (eval (.Name x pos) env) Q E s := wpAny_Name (wpAny_loadName_cell hk hx hc (hv.keeps S.kp) h) hd
theorem nmF {env : Env} {c : Addr} {Q : Value → Shared → Prop} (S : St B L s.heap m O) (hc : env.cells.lookup x = some c) (hv : B.IsCell c (some v)) (hk : env.scope.kind = .function) (hx : env.kindOf x = some .free) (hd : (x == ("__debug__" : Str)) = false) (hn : (x == ("__classdict__" : Str)) = false) (h : Q v s) :
    wpAny (model P0 w) A (eval (.Name x pos) env) Q E s := wpAny_Name (wpAny_loadName_free hk hx hc (hv.keeps S.kp) h hn) hd
theorem stL {env : Env} {Q : Unit → Shared → Prop} (S : St B L s.heap m O) (hL : env.locals = L) (hk : env.scope.kind = .function) (hx : env.kindOf x = some .local)
    (h : ∀ h', St B L h' (fun y => if y = x then some v else m y) O → Q () { s with heap := h', toks := s.toks + 1 }) : wpAny (model P0 w) A (storeName env x v) Q E s := by
  subst hL
  exact wpAny_storeName_local hx S.ns (fun h' hn hs => h h' (S.set hn hs)) (by rw [hk]; rfl)
noncomputable abbrev lobj (xs : List Value) (e : Nat) : Obj := { cls := .type "list", data := .seq xs.toArray e }
noncomputable abbrev tobj (xs : List Value) : Obj := { cls := .type "tuple", data := .seq xs.toArray }
noncomputable abbrev cobj (v : Option Value) : Obj := { cls := .type "cell", data := .cell v }
theorem stC {env : Env} {c : Addr} {o : Obj} {O₁ O₂ : Led} {u : Option Value} {Q : Unit → Shared → Prop} (S : St B L s.heap m (O₁ ++ (c, o) :: O₂)) (hd : o.data = .cell u) (hc : env.cells.lookup x = some c) (hk : env.scope.kind = .function) (hx : env.kindOf x = some .cell)
    (h : ∀ h' o', o'.data = .cell (some v) → St B L h' m (O₁ ++ (c, o') :: O₂) → Q () { s with heap := h' }) : wpAny (model P0 w) A (storeName env x v) Q E s := by
  have ho := (S.nw (c, o) (by simp)).1
  unfold storeName
  simp only [hx, hk]
  refine wpAny_bind (wpAny_cellOf hc ?_)
  unfold cellSet
  refine wpAny_bind (wpAny_load ho ?_)
  rw [hd]
  refine wpAny_update ho (h _ { o with data := .cell (some v) } rfl (S.sameBut (Heap.SameBut.update ..) ?_))
  exact Heap.get?_update_self _ ho rfl
theorem nmCO {env : Env} {c : Addr} {o : Obj} {Q : Value → Shared → Prop} (S : St B L s.heap m O) (hc : env.cells.lookup x = some c) (hm : (c, o) ∈ O) (hv : o.data = .cell (some v)) (hk : env.scope.kind = .function) (hx : env.kindOf x = some .cell) (hd : (x == ("__debug__" : Str)) = false) (h : Q v s) :
    wpAny (model P0 w) A (eval (.Name x pos) env) Q E s := wpAny_Name (wpAny_loadName_cell hk hx hc ⟨o, S.get hm, hv⟩ h) hd
theorem newT {vs : List Value} {Q : Value → Shared → Prop} (S : St B L s.heap m O) (hsz : vs.length ≤ sizeLine)
    (h : ∀ a h', St B L h' m ((a, tobj vs) :: O) → Q (.ref a) { s with heap := h' }) : wpAny (model P0 w) A (newTuple vs) Q E s :=
  wpAny_newObj_type (h _ _ (S.push _ rfl)) (by show vs.toArray.size ≤ sizeLine; rw [List.size_toArray]; exact hsz)
theorem newL {vs : List Value} {Q : Value → Shared → Prop} (S : St B L s.heap m O) (hsz : vs.length ≤ sizeLine)
    (h : ∀ a h', St B L h' m ((a, lobj vs 0) :: O) → Q (.ref a) { s with heap := h' }) : wpAny (model P0 w) A (newList vs) Q E s :=
  wpAny_newObj_type (h _ _ (S.push _ rfl)) (by show vs.toArray.size ≤ sizeLine; rw [List.size_toArray]; exact hsz)
end
section
variable {w : World} {A : Around} {s : Shared} {E : Value → Shared → Prop} {B : Heap} {L : Addr} {m : Str → Option Value} {O : Led}
theorem callF {env : Env} {f : Value} {first : List Value} {pos : Pos} {e : Expr} {rest : List Expr} {Q : Value → Shared → Prop} (G : Gd w B) (_S : St B L s.heap m O)
    (h : wpAny (model P0 w) A (spliced (backTo pos (starEach (e :: rest) env))) (fun vs s₁ => (KK w).In s₁.heap ∧ wpAny (model P0 w) A (call f (first ++ vs)) Q E s₁) E s)
    (hk : keepIn (KK w) f = true) (he : starEach (e :: rest) env = (false, eval e env) :: starEach rest env)
    (hplain : (backTo pos (starEach rest env)).any (·.1) = false) :
    wpAny (model P0 w) A (callWith pos f first (backTo pos (starEach (e :: rest) env)) []) Q E s := callWith_K G.k hk h he hplain
end
theorem kf_byteswap (w : World) : keepIn (KK w) (.ref 155) = true := by kernel_rfl
noncomputable abbrev bbL : List (Str × Value) := [(Str.ofString "type", .type "type"), (Str.ofString "issubclass", .builtin "issubclass"), (Str.ofString "isinstance", .builtin "isinstance"), (Str.ofString "str", .type "str"), (Str.ofString "bytes", .type "bytes"), (Str.ofString "bytearray", .type "bytearray"), (Str.ofString "tuple", .type "tuple"), (Str.ofString "map", .type "map"), (Str.ofString "range", .type "range"), (Str.ofString "enumerate", .type "enumerate"), (Str.ofString "min", .builtin "min"), (Str.ofString "max", .builtin "max"), (Str.ofString "len", .builtin "len"), (Str.ofString "chr", .builtin "chr"), (Str.ofString "sorted", .builtin "sorted"), (Str.ofString "TypeError", .type "TypeError"), (Str.ofString "AttributeError", .type "AttributeError"), (Str.ofString "ValueError", .type "ValueError")]
noncomputable abbrev gkL : List (Str × Value) := [(Str.ofString "fspath", .ref 94), (Str.ofString "_get_sep", .ref 108), (Str.ofString "join", .ref 115), (Str.ofString "commonpath", .ref 120), (Str.ofString "heappush", .ref 127), (Str.ofString "heappop", .ref 134), (Str.ofString "_siftdown", .ref 141), (Str.ofString "_siftup", .ref 148), (Str.ofString "_byteswap", .ref 155), (Str.ofString "_law_laid", .ref 160), (Str.ofString "_law_ways", .ref 167), (Str.ofString "_law_text", .ref 172), (Str.ofString "_law_worth", .ref 179), (Str.ofString "_law_popped", .ref 184), (Str.ofString "_law_net", .ref 191), (Str.ofString "_law_alike", .ref 196), (Str.ofString "_law_net_told", .ref 201), (Str.ofString "_law_side", .ref 206)]
theorem bbA {x : Str} {v : Value} (h : (x, v) ∈ bbL) : bootBuiltins x = some v := by
  have q : ∀ p ∈ bbL, bootBuiltins p.1 = some p.2 := by decide +kernel
  exact q _ h
noncomputable abbrev bbN : List Str := [Str.ofString "type", Str.ofString "issubclass", Str.ofString "isinstance", Str.ofString "str", Str.ofString "bytes", Str.ofString "bytearray", Str.ofString "tuple", Str.ofString "map", Str.ofString "range", Str.ofString "enumerate", Str.ofString "min", Str.ofString "max", Str.ofString "len", Str.ofString "chr", Str.ofString "sorted", Str.ofString "TypeError", Str.ofString "AttributeError", Str.ofString "ValueError"]
noncomputable abbrev gkV : List Value := [.ref 94, .ref 108, .ref 115, .ref 120, .ref 127, .ref 134, .ref 141, .ref 148, .ref 155, .ref 160, .ref 167, .ref 172, .ref 179, .ref 184, .ref 191, .ref 196, .ref 201, .ref 206]
theorem gbA (w : World) {x : Str} (h : x ∈ bbN) : nsIn (KK w) mainGlobals x = some none := by
  have q : bbN.map (fun p => nsIn (KK w) mainGlobals p) = bbN.map (fun _ => some none) := by kernel_rfl
  exact List.map_eq_map_iff.mp q _ h
theorem gkA (w : World) {x : Str} {v : Value} (h : (x, v) ∈ gkL) : nsIn (KK w) mainGlobals x = some (some v) := by
  have q : gkL.map (fun p => nsIn (KK w) mainGlobals p.1) = gkL.map (fun p => some (some p.2)) := by kernel_rfl
  exact List.map_eq_map_iff.mp q _ h
theorem kfA (w : World) {v : Value} (h : v ∈ gkV) : keepIn (KK w) v = true := by
  have q : gkV.map (fun p => keepIn (KK w) p) = gkV.map (fun _ => true) := by kernel_rfl
  exact List.map_eq_map_iff.mp q _ h
theorem inK {w : World} {B h : Heap} {L : Addr} {m : Str → Option Value} {O : Led} (G : Gd w B) (S : St B L h m O) : (KK w).In h := G.k.keeps S.kp
theorem inG {w : World} {B h : Heap} {L : Addr} {m : Str → Option Value} {O : Led} (G : Gd w B) (S : St B L h m O) : Gd w h := G.kp S.kp
theorem ldL {w : World} {A : Around} {s : Shared} {E : Value → Shared → Prop} {B : Heap} {L : Addr} {m : Str → Option Value} {O : Led} {x : Str} {v : Value} {env : Env} {Q : Value → Shared → Prop} (S : St B L s.heap m O) (hL : env.locals = L) (hv : m x = some v) (hk : env.scope.kind = .function) (hx : env.kindOf x = some .local) (h : Q v s) :
    wpAny (model P0 w) A (loadName env x) Q E s := wpAny_loadName_local hk hx (hL ▸ S.ns) hv h
theorem itT {a b : Prop} (h : a) : if true = true then a else b := by rw [if_pos rfl]; exact h
theorem itF {a b : Prop} (h : b) : if false = true then a else b := by rw [if_neg Bool.false_ne_true]; exact h
section
variable {w : World} {A : Around} {env : Env} {E : Value → Shared → Prop} {hp : Heap} {gn : Array GenState} {dr : Drawn} {tk : Nat} {os : OsState} {B : Heap} {L : Addr} {m : Str → Option Value} {O : Led}
theorem cInt {M : Model} {i : Int} {k : Nat} {pos : Pos} {Q : Value → Shared → Prop} (h : Q (.int i tk) ⟨hp, gn, dr, tk + 1, os⟩) : wpAny M A (eval (.Constant (.int i) k pos) env) Q E ⟨hp, gn, dr, tk, os⟩ := wpAny_Constant_int h
theorem cStr {M : Model} {x : Str} {k : Nat} {pos : Pos} {Q : Value → Shared → Prop} (h : Q (.str x tk) ⟨hp, gn, dr, tk + 1, os⟩) : wpAny M A (eval (.Constant (.str x) k pos) env) Q E ⟨hp, gn, dr, tk, os⟩ := wpAny_Constant_str h
theorem addI {a b : Int} {t u : Tok} {Q : Value → Shared → Prop} (h : Q (.int (a + b) tk) ⟨hp, gn, dr, tk + 1, os⟩) : wpAny (model P0 w) A (binaryOp .Add (.int a t) (.int b u)) Q E ⟨hp, gn, dr, tk, os⟩ := PyProof.Rows.add_int h
theorem subI {a b : Int} {t u : Tok} {Q : Value → Shared → Prop} (h : Q (.int (a - b) tk) ⟨hp, gn, dr, tk + 1, os⟩) : wpAny (model P0 w) A (binaryOp .Sub (.int a t) (.int b u)) Q E ⟨hp, gn, dr, tk, os⟩ := PyProof.Rows.sub_int h
theorem mulI {a b : Int} {t u : Tok} {Q : Value → Shared → Prop} (hm : IntMulOk a b) (h : Q (.int (a * b) tk) ⟨hp, gn, dr, tk + 1, os⟩) : wpAny (model P0 w) A (binaryOp .Mult (.int a t) (.int b u)) Q E ⟨hp, gn, dr, tk, os⟩ := P.mul_int h hm
theorem shr1 {a : Int} {t u : Tok} {Q : Value → Shared → Prop} (h0 : 0 ≤ a) (h : Q (.int (a / 2) tk) ⟨hp, gn, dr, tk + 1, os⟩) : wpAny (model P0 w) A (binaryOp .RShift (.int a t) (.int 1 u)) Q E ⟨hp, gn, dr, tk, os⟩ := wpAny_rshift1_int h0 h
theorem negI {a : Int} {t : Tok} {Q : Value → Shared → Prop} (h : Q (.int (-a) tk) ⟨hp, gn, dr, tk + 1, os⟩) : wpAny (model P0 w) A (unaryOp .USub (.int a t)) Q E ⟨hp, gn, dr, tk, os⟩ := P.neg_int h
theorem stF {x : Str} {v : Value} {Q : Unit → Shared → Prop} (S : St B L hp m O) (hL : env.locals = L) (hk : env.scope.kind = .function) (hx : env.kindOf x = some .local)
    (h : ∀ h', St B L h' (fun y => if y = x then some v else m y) O → Q () ⟨h', gn, dr, tk + 1, os⟩) : wpAny (model P0 w) A (storeName env x v) Q E ⟨hp, gn, dr, tk, os⟩ := stL (s := ⟨hp, gn, dr, tk, os⟩) S hL hk hx h
theorem addS {x y : Str} {t u : Tok} {Q : Value → Shared → Prop} (hsz : x.length + y.length ≤ sizeLine) (h : ∀ t' tk', Q (.str (x ++ y) t') ⟨hp, gn, dr, tk', os⟩) : wpAny (model P0 w) A (binaryOp .Add (.str x t) (.str y u)) Q E ⟨hp, gn, dr, tk, os⟩ := PyProof.Rows.add_str h hsz
theorem iaddS {x y : Str} {t u : Tok} {Q : Value → Shared → Prop} (hsz : x.length + y.length ≤ sizeLine) (h : ∀ t' tk', Q (.str (x ++ y) t') ⟨hp, gn, dr, tk', os⟩) : wpAny (model P0 w) A (inplaceOp .Add (.str x t) (.str y u)) Q E ⟨hp, gn, dr, tk, os⟩ := PyProof.Rows.iadd_str h hsz
end
theorem vi {a b : Int} {t : Tok} {o : Option Value} (h : o = some (.int a t)) (e : a = b) : o = some (.int b t) := e ▸ h
noncomputable def IsI (o : Option Value) (n : Int) : Prop := ∃ t, o = some (.int n t)
theorem isI_of {o : Option Value} {a b : Int} {t : Tok} (h : o = some (.int a t)) (e : a = b) : IsI o b := ⟨t, e ▸ h⟩
structure Cut (P Q : Flow → Shared → Prop) : Prop where
  go : ∀ f s, P f s → Q f s
theorem cut_use {P Q : Flow → Shared → Prop} {f : Flow} {s : Shared} (c : Cut P Q) (h : P f s) : Q f s := c.go f s h
theorem execs_cut {M : Model} {A : Around} {E : Value → Shared → Prop} {s : Shared} {env : Env} {st : Stmt} {rest : List Stmt} {Q : Flow → Shared → Prop}
    (h : ∀ Q', Cut (fun f s' => match f with | .next => wpAny M A (execs rest env) Q E s' | f => Q f s') Q' → wpAny M A (exec st env) Q' E s) : wpAny M A (execs (st :: rest) env) Q E s :=
  wpAny_execs_cons (h _ ⟨fun _ _ x => x⟩)
theorem via {G : Prop} (h : ∀ M : Prop, (G → M) → M) : G := h G id
theorem om301 {v0 : Nat} (h0 : ((0 : Nat) < ((v0 - (1 : Nat)) / (2 : Nat)))) : (¬ (v0 = ((((v0 - (1 : Nat)) / (2 : Nat)) - (1 : Nat)) / (2 : Nat)))) := by exact Nat.ne_of_gt (Nat.lt_of_le_of_lt (Nat.div_le_self _ _) (Nat.lt_of_lt_of_le (Nat.sub_lt h0 Nat.one_pos) (Nat.le_trans (Nat.div_le_self _ _) (Nat.sub_le _ _))))
theorem om92 {v0 v1 : Nat} (h0 : ((((2 : Nat) * v1) + (1 : Nat)) < v0)) : ((v0 - (((2 : Nat) * v1) + (1 : Nat))) < (v0 - v1)) := by exact Nat.sub_lt_sub_left (Nat.lt_trans (Nat.lt_succ_of_le (Nat.le_mul_of_pos_left v1 (by decide))) h0) (Nat.lt_succ_of_le (Nat.le_mul_of_pos_left v1 (by decide)))
theorem om303 {v0 v1 : Nat} (h0 : ((((2 : Nat) * v1) + (1 : Nat)) < v0)) : ((v0 - (((2 : Nat) * v1) + (2 : Nat))) < (v0 - v1)) := by exact Nat.sub_lt_sub_left (Nat.lt_trans (Nat.lt_succ_of_le (Nat.le_mul_of_pos_left v1 (by decide))) h0) (Nat.lt_succ_of_le (Nat.le_succ_of_le (Nat.le_mul_of_pos_left v1 (by decide))))
theorem om0 {v0 v1 v2 : Nat} (h0 : (v0 < v2)) (h1 : (v2 ≤ v1)) : (v0 < v1) := by lia
theorem om1 {v0 v1 v2 : Nat} (h0 : (v0 < v2)) (h1 : (v1 = v2)) : (v0 < v1) := by (subst_vars; assumption)
theorem om2 {v0 v1 : Nat} (h0 : (v0 < v1)) : (v0 < (v1 + (1 : Nat))) := by lia
theorem om3 {v0 : Nat} : ((0 : Int) ≤ ((v0 : Nat) : Int)) := by exact Int.natCast_nonneg _
theorem om4 {v0 v1 : Nat} (h0 : (((v0 : Nat) : Int) = ((v1 : Nat) : Int))) : (v0 = v1) := by lia
theorem om5 {v0 v1 : Nat} (h0 : (v0 ≤ v1)) : (v0 ≤ (v1 + (1 : Nat))) := by lia
theorem om6 {v0 v1 : Nat} (h0 : (v0 < (v1 + (1 : Nat)))) (h1 : (¬ (v0 = v1))) : (v0 < v1) := by lia
theorem om7 {v0 : Nat} (h0 : (¬ (v0 = (0 : Nat)))) : ((0 : Nat) < v0) := by lia
theorem om8 {v0 v1 v2 : Nat} (h0 : (¬ (v2 < v0))) : ((min v0 v1) ≤ v2) := by grind
theorem om9 {v0 v1 : Nat} (h0 : (v0 < v1)) : ((v0 + (1 : Nat)) ≤ v1) := by (subst_vars; assumption)
theorem om10 : ((0 : Nat) < ((2 : Nat) ^ (63 : Nat))) := by lia
theorem om11 {v0 v1 v2 : Nat} (h0 : (v0 < v2)) (h1 : (v2 = v1)) : (v0 < v1) := by (subst_vars; assumption)
theorem om12 {v0 v1 : Nat} (h0 : (v0 < v1)) : (v0 ≤ (v1 - (1 : Nat))) := by exact Nat.le_sub_one_of_lt h0
theorem om13 {v0 v1 : Nat} (h0 : (v0 < v1)) (h1 : (v1 ≤ (100 : Nat))) : (v0 < ((2 : Nat) ^ (63 : Nat))) := by lia
theorem om14 {v0 v1 v2 : Nat} (h0 : ((v0 + (v2 + (1 : Nat))) ≤ v1)) : (v0 < v1) := by lia
theorem om15 {v0 v1 v2 : Nat} (h0 : ((v0 + (v2 + (1 : Nat))) ≤ v1)) : ((v0 - (1 : Nat)) < v1) := by lia
theorem om16 {v0 : Nat} (h0 : (v0 < (64 : Nat))) : (v0 ≤ (16777216 : Nat)) := by lia
theorem om17 {v0 v1 : Nat} (h0 : (v0 ≤ v1)) (h1 : (¬ (v0 < v1))) : (v0 = v1) := by lia
theorem om18 {v0 : Nat} (h0 : ((2 : Nat) ≤ v0)) : ((0 : Nat) < v0) := by exact Nat.le_of_lt ‹_›
theorem om19 {v0 : Nat} : (v0 < (v0 + (1 : Nat))) := by lia
theorem om20 {v0 v1 v2 : Nat} (h0 : (v0 ≤ v2)) (h1 : (v2 ≤ v1)) : (v0 ≤ v1) := by lia
theorem om21 {v0 : Nat} (h0 : (v0 ≤ (100 : Nat))) : (v0 ≤ (16777216 : Nat)) := by lia
theorem om22 {v0 v1 : Nat} (h0 : (v1 < v0)) : (((v0 - (1 : Nat)) - v1) < v0) := by exact Nat.lt_of_le_of_lt (Nat.sub_le _ _) (Nat.sub_lt (Nat.lt_of_le_of_lt (Nat.zero_le _) h0) Nat.one_pos)
theorem om23 {v0 : Nat} (h0 : (((2 : Nat) ≤ v0) ∧ (v0 ≤ (5 : Nat)))) : (v0 ≤ (100 : Nat)) := by lia
theorem om24 {v0 v1 : Nat} (h0 : (v0 = v1)) (h1 : (v1 ≤ (100 : Nat))) : (v0 ≤ (16384 : Nat)) := by lia
theorem om25 {v0 v1 : Int} (h0 : (v0 < v1)) (h1 : (v1 = v0)) : False := by lia
theorem om26 {v0 : Nat} : ((1 : Nat) ≤ (v0 + (1 : Nat))) := by lia
theorem om27 {v0 v1 : Nat} (h0 : (v0 < v1)) : (v0 < v1) := by omega
theorem om28 {v0 : Nat} (h0 : ((1 : Nat) ≤ v0)) : ((1 : Int) ≤ ((v0 : Nat) : Int)) := by lia
theorem om29 {v0 : Nat} (h0 : (v0 ≤ (100 : Nat))) : (v0 < (100000 : Nat)) := by lia
theorem om30 {v0 v1 : Nat} (h0 : (v0 < v1)) : (((v0 - (1 : Nat)) / (2 : Nat)) < v1) := by exact Nat.lt_of_le_of_lt (Nat.div_le_self _ _) (Nat.lt_of_le_of_lt (Nat.sub_le _ _) h0)
theorem om31 {v0 v1 : Nat} (h0 : (¬ (v1 < v0))) : (v0 ≤ v1) := by lia
theorem om32 {v0 : Nat} (h0 : (v0 ≤ (60 : Nat))) : (v0 ≤ (100 : Nat)) := by lia
theorem om33 {v0 v1 : Nat} (h0 : (v1 < v0)) : ((v0 - (v1 + (1 : Nat))) < (v0 - v1)) := by grind
theorem om34 {v0 v1 : Nat} (h0 : (v0 ≤ v1)) : ((v0 + (1 : Nat)) ≤ (v1 + (1 : Nat))) := by lia
theorem om35 {v0 : Nat} (h0 : (v0 ≤ ((100 : Nat) * (100 : Nat)))) : (v0 ≤ (1099511627776 : Nat)) := by lia
theorem om36 {v0 : Int} (h0 : ((0 : Int) < v0)) : (¬ (v0 = (0 : Int))) := by lia
theorem om37 {v0 : Nat} (h0 : (((2 : Nat) ≤ v0) ∧ (v0 ≤ (5 : Nat)))) : (((0 : Int) ≤ ((v0 : Nat) : Int)) ∧ (((v0 : Nat) : Int) < (100 : Int))) := by lia
theorem om38 {v0 : Nat} (h0 : (((0 : Nat) < v0) ∧ (v0 < (10000 : Nat)))) : ((0 : Int) < ((v0 : Nat) : Int)) := by lia
theorem om39 {v0 : Nat} (h0 : (((3 : Nat) ≤ v0) ∧ (v0 ≤ (7 : Nat)))) : (v0 ≤ (16777216 : Nat)) := by lia
theorem om40 {v0 : Nat} (h0 : (((2 : Nat) ≤ v0) ∧ (v0 ≤ (5 : Nat)))) : (v0 ≤ (16777216 : Nat)) := by lia
theorem om41 {v0 v1 : Nat} (h0 : (((3 : Nat) ≤ v1) ∧ (v1 ≤ (7 : Nat)))) (h1 : (v0 = v1)) : (v0 ≤ (100 : Nat)) := by lia
theorem om42 {v0 : Nat} (h0 : (((2 : Nat) ≤ v0) ∧ (v0 ≤ (5 : Nat)))) : ((1 : Nat) ≤ v0) := by lia
theorem om43 {v0 v1 v2 : Nat} (h0 : ((v0 - (v1 + (1 : Nat))) = (v2 + (1 : Nat)))) : ((v0 - ((v1 + (1 : Nat)) + (1 : Nat))) = v2) := by exact congrArg Nat.pred h0
theorem om44 {v0 v1 : Nat} (h0 : ((v0 - v1) = (0 : Nat))) : (v0 ≤ v1) := by exact Nat.le_of_sub_eq_zero h0
theorem om45 {v0 v1 v2 : Nat} (h0 : ((v2 - v1) = (0 : Nat))) (h1 : (v2 = v0)) : (v0 ≤ v1) := by grind
theorem om46 {v0 v1 v2 v3 v4 : Int} {v5 : Prop} {v6 : Int} {v7 : Prop} (h0 : (v0 = v2)) (h1 : (¬ ((v1 < v2) ∨ ((v1 = v2) ∧ ((v3 < v4) ∨ ((v3 = v4) ∧ v5)))))) (h2 : (¬ ((v0 < v1) ∨ ((v0 = v1) ∧ ((v6 < v3) ∨ ((v6 = v3) ∧ v7)))))) : (v0 = v1) := by grind
theorem om47 {v0 v1 : Nat} (h0 : (v0 ≤ (v1 + (1 : Nat)))) (h1 : (¬ (v0 = (v1 + (1 : Nat))))) : (v0 ≤ v1) := by lia
theorem om48 {v0 v1 v2 : Nat} (h0 : (v0 = v2)) (h1 : (v1 = v2)) : (v0 = v1) := by lia
theorem om49 {v0 v1 : Nat} (h0 : ((v0 + (1 : Nat)) < v1)) : (v0 < v1) := by exact Nat.le_of_lt ‹_›
theorem om50 : ((2 : Nat) ≤ (12 : Nat)) := by lia
theorem om51 {v0 v1 : Nat} (h0 : (v0 < v1)) (h1 : (¬ (v0 = (v1 - (1 : Nat))))) : (v0 < (v1 - (1 : Nat))) := by exact Nat.lt_of_le_of_ne (Nat.le_sub_one_of_lt h0) h1
theorem om52 {v0 : Nat} (h0 : ((1 : Nat) ≤ v0)) : ((v0 - (1 : Nat)) < v0) := by exact Nat.sub_one_lt_of_lt h0
theorem om53 {v0 v1 : Nat} : (v0 ≤ (v0 + (v1 + (1 : Nat)))) := by lia
theorem om54 {v0 v1 v2 : Nat} (h0 : ((v0 + (v1 + (1 : Nat))) ≤ v2)) : (((v0 + (1 : Nat)) + v1) ≤ v2) := by lia
theorem om55 {v0 v1 : Nat} (h0 : ((v0 + (1 : Nat)) ≤ v1)) : (v0 ≤ v1) := by exact Nat.le_of_lt ‹_›
theorem om56 {v0 v1 v2 : Nat} (h0 : (v0 ≤ ((v1 + (1 : Nat)) + v2))) : (v0 ≤ (v1 + (v2 + (1 : Nat)))) := by lia
theorem om57 : (¬ ((0 : Nat) < (0 : Nat))) := by lia
theorem om58 {v0 v1 : Nat} (h0 : ((1 : Nat) < v0)) (h1 : (v0 ≤ ((1 : Nat) + (v1 - (1 : Nat))))) : ((v0 - (1 : Nat)) < v1) := by grind
theorem om59 {v0 v1 v2 : Nat} (h0 : (v0 < (v1 + (1 : Nat)))) (h1 : (v2 < v0)) : ((v0 - (1 : Nat)) < v1) := by grind
theorem om60 {v0 v1 : Nat} (h0 : ((0 : Nat) < v1)) (h1 : (v0 ≤ (v1 - (1 : Nat)))) : (v0 < v1) := by grind
theorem om61 {v0 : Nat} : (¬ (((v0 : Nat) : Int) < (0 : Int))) := by lia
theorem om62 {v0 : Int} (h0 : (((0 : Int) ≤ v0) ∧ (v0 < (10 : Int)))) : (((0 : Int) ≤ ((48 : Int) + v0)) ∧ (((48 : Int) + v0) < (256 : Int))) := by lia
theorem om63 {v0 v1 : Nat} (h0 : (v0 < v1)) : (v0 ≤ v1) := by exact Nat.le_of_lt ‹_›
theorem om64 {v0 : Nat} (h0 : (v0 ≤ ((100 : Nat) * (100 : Nat)))) : (v0 ≤ (100000 : Nat)) := by lia
theorem om65 {v0 : Nat} (h0 : (v0 ≤ (1000 : Nat))) : (v0 ≤ (16777216 : Nat)) := by lia
theorem om66 {v0 : Nat} : (((v0 : Nat) : Int) = ((v0 : Nat) : Int)) := by lia
theorem om67 {v0 : Nat} (h0 : (((2 : Nat) ≤ v0) ∧ (v0 ≤ (5 : Nat)))) : ((0 : Nat) < v0) := by lia
theorem om68 {v0 : Nat} : (v0 ≤ (v0 + (1 : Nat))) := by lia
theorem om69 {v0 v1 v2 : Nat} (h0 : ((v1 - v0) = (v2 + (1 : Nat)))) : (v0 < v1) := by exact Nat.lt_of_sub_eq_succ h0
theorem om70 {v0 v1 v2 : Nat} (h0 : ((v0 - v1) = (v2 + (1 : Nat)))) : ((v0 - (v1 + (1 : Nat))) = v2) := by exact congrArg Nat.pred h0
theorem om71 {v0 v1 : Nat} (h0 : (¬ (v0 = v1))) : (¬ (((v0 : Nat) : Int) = ((v1 : Nat) : Int))) := by lia
theorem om72 : ((1 : Nat) < ((2 : Nat) ^ (63 : Nat))) := by lia
theorem om73 {v0 v1 : Int} (h0 : (v0 < v1)) (h1 : (v1 < v0)) : False := by lia
theorem om74 {v0 v1 v2 : Int} (h0 : (v2 < v1)) (h1 : (v0 = v2)) : (v0 < v1) := by (subst_vars; assumption)
theorem om75 {v0 v1 v2 v3 v4 : Int} {v5 : Prop} {v6 : Int} {v7 : Prop} (h0 : (v2 = v1)) (h1 : (¬ ((v0 < v1) ∨ ((v0 = v1) ∧ ((v3 < v4) ∨ ((v3 = v4) ∧ v5)))))) (h2 : (¬ ((v2 < v0) ∨ ((v2 = v0) ∧ ((v6 < v3) ∨ ((v6 = v3) ∧ v7)))))) : (v0 = v1) := by omega
theorem om76 {v0 v1 : Int} (h0 : (¬ (v0 < v1))) (h1 : (¬ (v1 < v0))) : (v0 = v1) := by lia
theorem om77 {v0 : Nat} (h0 : (v0 ≤ (100 : Nat))) : (v0 ≤ (1000 : Nat)) := by lia
theorem om78 {v0 : Nat} : ((((((2 : Nat) * v0) + (1 : Nat)) : Nat) : Int) = (((((2 : Nat) * v0) + (1 : Nat)) : Nat) : Int)) := by lia
theorem om79 {v0 : Nat} (h0 : (v0 < ((2 : Nat) ^ (63 : Nat)))) : (((v0 : Nat) : Int) < ((2 : Int) ^ (63 : Nat))) := by exact Int.lt_toNat.mp h0
theorem om80 {v0 v1 : Nat} (h0 : (v1 < v0)) : (((v0 + (1 : Nat)) - (v1 + (1 : Nat))) < ((v0 + (1 : Nat)) - v1)) := by exact Nat.sub_lt_sub_left (Nat.lt_succ_of_lt h0) (Nat.lt_succ_self _)
theorem om81 {v0 : Nat} (h0 : (¬ ((0 : Int) < ((v0 : Nat) : Int)))) : (v0 = (0 : Nat)) := by lia
theorem om82 {v0 : Nat} (h0 : (v0 ≤ (100000 : Nat))) : (v0 ≤ (16777216 : Nat)) := by lia
theorem om83 {v0 v1 : Nat} : ((v0 + v1) = (v1 + v0)) := by lia
theorem om84 {v0 : Nat} (h0 : (v0 ≤ (100 : Nat))) : (((v0 : Nat) : Int) < (1000000 : Int)) := by lia
theorem om85 {v0 : Nat} (h0 : (v0 ≤ ((100 : Nat) * (100 : Nat)))) : (((v0 : Nat) : Int) < ((2 : Int) ^ (40 : Nat))) := by lia
theorem om86 {v0 : Nat} (h0 : (v0 ≤ (100 : Nat))) : (((v0 : Nat) : Int) < ((2 : Int) ^ (20 : Nat))) := by lia
theorem om88 {v0 : Nat} (h0 : (¬ (v0 = (0 : Nat)))) : (((v0 - (1 : Nat)) / (2 : Nat)) < v0) := by exact Nat.lt_of_le_of_lt (Nat.div_le_self _ _) (Nat.sub_lt (Nat.pos_of_ne_zero h0) Nat.one_pos)
theorem om89 {v0 : Nat} (h0 : ((0 : Nat) < v0)) : (¬ (v0 = ((v0 - (1 : Nat)) / (2 : Nat)))) := by exact Nat.ne_of_gt (Nat.lt_of_le_of_lt (Nat.div_le_self _ _) (Nat.sub_lt h0 Nat.one_pos))
theorem om90 {v0 v1 : Nat} (h0 : (((v0 - (1 : Nat)) / (2 : Nat)) = ((v1 - (1 : Nat)) / (2 : Nat)))) (h1 : (¬ (((v1 - (1 : Nat)) / (2 : Nat)) = v1))) : (¬ (((v0 - (1 : Nat)) / (2 : Nat)) = v1)) := by exact Eq.mpr_not (congrFun (congrArg Eq h0) v1) h1
theorem om91 {v0 v1 : Nat} (h0 : (((v1 - (1 : Nat)) / (2 : Nat)) = v0)) (h1 : ((0 : Nat) < v1)) : ((v0 + (1 : Nat)) ≤ v1) := by grind
theorem om93 {v0 v1 : Nat} (h0 : (((v0 - (1 : Nat)) / (2 : Nat)) = v1)) (h1 : ((0 : Nat) < v0)) (h2 : (¬ (v0 = (((2 : Nat) * v1) + (1 : Nat))))) : (v0 = (((2 : Nat) * v1) + (2 : Nat))) := by lia
theorem om94 {v0 : Nat} (h0 : (v0 ≤ (1000 : Nat))) : (v0 ≤ (16384 : Nat)) := by lia
theorem om95 {v0 v1 : Nat} (h0 : (v0 < v1)) (h1 : (v1 ≤ (1000 : Nat))) : (v0 < ((2 : Nat) ^ (63 : Nat))) := by lia
theorem om96 {v0 : Int} (h0 : ((0 : Int) < v0)) (h1 : (v0 < (1000000 : Int))) : ((Int.natAbs v0) < (1073741824 : Nat)) := by grind
theorem om97 {v0 : Nat} (h0 : (v0 ≤ (1000 : Nat))) : (((v0 : Nat) : Int) ≤ (1000000 : Int)) := by lia
theorem om98 {v0 : Int} (h0 : (((0 : Int) ≤ v0) ∧ (v0 < (100 : Int)))) : ((Int.natAbs v0) < ((2 : Nat) ^ (64 : Nat))) := by lia
theorem om99 {v0 v1 : Nat} (h0 : (v0 < v1)) : (((0 : Int) ≤ ((v0 : Nat) : Int)) ∧ (((v0 : Nat) : Int) < ((v1 : Nat) : Int))) := by lia
theorem om100 {v0 : Int} {v1 : Nat} (h0 : (((0 : Int) ≤ v0) ∧ (v0 < ((v1 : Nat) : Int)))) (h1 : (v1 ≤ (5 : Nat))) : (((0 : Int) ≤ v0) ∧ (v0 < (10 : Int))) := by exact ⟨h0.1, Int.lt_of_lt_of_le h0.2 (Int.le_trans (Int.ofNat_le.mpr h1) (by decide))⟩
theorem om101 {v0 v1 : Nat} (h0 : (v1 ≤ v0)) : (v0 = ((v0 - v1) + v1)) := by exact (Nat.sub_eq_iff_eq_add h0).mp rfl
theorem om102 {v0 v1 v2 : Nat} (h0 : ((v1 - v2) ≤ v0)) (h1 : (v0 < v1)) : ((v0 - (v1 - v2)) < v2) := by lia
theorem om103 {v0 v1 v2 : Nat} (h0 : ((v0 - v1) ≤ v2)) : (((v0 - v1) + (v2 - (v0 - v1))) = v2) := by exact Nat.add_sub_of_le h0
theorem om104 {v0 v1 v2 : Nat} : ((v0 - v1) ≤ ((v0 - v1) + v2)) := by lia
theorem om105 {v0 v1 v2 : Nat} (h0 : (v2 < v1)) (h1 : (v1 ≤ v0)) : (((v0 - v1) + v2) < v0) := by lia
theorem om106 {v0 v1 v2 : Nat} (h0 : ((v0 - v2) ≤ v1)) (h1 : (v1 < v0)) : (((v0 - (1 : Nat)) - v1) < v2) := by omega
theorem om107 {v0 v1 : Nat} (h0 : (v1 < v0)) : (((v0 - (1 : Nat)) - ((v0 - (1 : Nat)) - v1)) = v1) := by exact Nat.sub_sub_self (Nat.le_sub_one_of_lt h0)
theorem om108 {v0 v1 v2 : Nat} (h0 : (v2 < v1)) : ((v0 - v1) ≤ ((v0 - (1 : Nat)) - v2)) := by exact Nat.le_trans (Nat.sub_le_sub_left h0 v0) (Nat.le_of_eq ((congrArg (v0 - ·) (Nat.add_comm v2 1)).trans (Nat.sub_sub v0 1 v2).symm))
theorem om109 {v0 v1 v2 : Nat} (h0 : (v1 < v2)) (h1 : (v2 ≤ v0)) : (((v0 - (1 : Nat)) - v1) < v0) := by exact Nat.lt_of_le_of_lt (Nat.sub_le _ _) (Nat.sub_lt (Nat.lt_of_le_of_lt (Nat.zero_le _) (Nat.lt_of_lt_of_le h0 h1)) Nat.one_pos)
theorem om110 {v0 v1 v2 : Nat} (h0 : ((2 : Nat) ≤ v1)) (h1 : ((v1 * (2 : Nat)) ≤ v2)) (h2 : (v2 ≤ v0)) : ((1 : Nat) < v0) := by lia
theorem om111 {v0 v1 v2 : Nat} (h0 : ((2 : Nat) ≤ v0)) (h1 : ((v0 * (2 : Nat)) ≤ v2)) (h2 : (v2 ≤ v1)) : (v0 < v1) := by lia
theorem om112 {v0 v1 v2 : Nat} (h0 : ((2 : Nat) ≤ v0)) (h1 : ((v0 * (2 : Nat)) ≤ v2)) (h2 : (v2 ≤ v1)) : ((v0 + (1 : Nat)) < v1) := by lia
theorem om113 {v0 v1 v2 : Nat} (h0 : ((2 : Nat) ≤ v1)) (h1 : ((v1 * (2 : Nat)) ≤ v2)) (h2 : (v2 ≤ v0)) : ((0 : Nat) < v0) := by lia
theorem om114 {v0 : Nat} : (((3 : Nat) + (min (4 : Nat) (v0 - (1 : Nat)))) ≤ (7 : Nat)) := by lia
theorem om115 {v0 v1 : Nat} (h0 : ((v0 + v1) ≤ (10000 : Nat))) : ((v0 + v1) ≤ (16777216 : Nat)) := by lia
theorem om116 {v0 : Nat} : ((min (1 : Nat) (v0 + (1 : Nat))) = (1 : Nat)) := by lia
theorem om117 {v0 : Nat} (h0 : (v0 ≤ (4 : Nat))) : (v0 ≤ ((min (5 : Nat) (v0 + (1 : Nat))) - (1 : Nat))) := by exact Nat.le_of_eq (congrArg (· - 1) (Nat.min_eq_right (Nat.succ_le_succ h0))).symm
theorem om118 {v0 : Nat} (h0 : (¬ (v0 ≤ (4 : Nat)))) : (((min (5 : Nat) (v0 + (1 : Nat))) - (1 : Nat)) = (4 : Nat)) := by exact congrArg (· - 1) (Nat.min_eq_left (Nat.succ_le_succ (Nat.le_of_lt (Nat.not_le.mp h0))))
theorem om119 {v0 : Nat} : ((max (0 : Int) (min (1 : Int) ((v0 : Nat) : Int))) = (((min (1 : Nat) v0) : Nat) : Int)) := by exact (congrArg (max 0) (Lean.Omega.Int.ofNat_min 1 v0).symm).trans (Int.max_eq_right (Int.natCast_nonneg _))
theorem om120 {v0 : Nat} : ((max (0 : Int) (min (5 : Int) ((v0 : Nat) : Int))) = (((min (5 : Nat) v0) : Nat) : Int)) := by exact (congrArg (max 0) (Lean.Omega.Int.ofNat_min 5 v0).symm).trans (Int.max_eq_right (Int.natCast_nonneg _))
theorem om121 {v0 v1 : Nat} (h0 : (v1 ≤ ((5 : Nat) ^ (5 : Nat)))) (h1 : (v0 ≤ v1)) : (v0 < (10000 : Nat)) := by lia
theorem om122 {v0 : Int} : ((v0 % (1000000 : Int)) = (((Int.toNat (v0 % (1000000 : Int))) : Nat) : Int)) := by lia
theorem om123 {v0 v1 : Nat} (h0 : (v0 = v1)) (h1 : (v1 ≤ (63 : Nat))) : (v0 ≤ (16777216 : Nat)) := by lia
theorem om124 {v0 : Nat} (h0 : (((0 : Nat) < v0) ∧ (v0 < (10000 : Nat)))) : (((v0 : Nat) : Int) < (1000000 : Int)) := by lia
theorem om125 : ((2 : Nat) ≤ (14 : Nat)) := by lia
theorem om126 {v0 : Nat} (h0 : (v0 ≤ ((7 : Nat) * (5 : Nat)))) : (v0 ≤ (10000 : Nat)) := by lia
theorem om127 : ((3 : Nat) ≤ (14 : Nat)) := by lia
theorem om128 {v0 : Nat} : ((((v0 : Nat) : Int) + (1 : Int)) = ((1 : Int) + ((v0 : Nat) : Int))) := by lia
theorem om129 {v0 : Nat} (h0 : (((2 : Nat) ≤ v0) ∧ (v0 ≤ (5 : Nat)))) : (((1 : Int) + ((v0 : Nat) : Int)) < ((2 : Int) ^ (62 : Nat))) := by lia
theorem om130 {v0 : Nat} : (((1 : Int) + ((v0 : Nat) : Int)) = (((v0 + (1 : Nat)) : Nat) : Int)) := by lia
theorem om131 : ((13 : Nat) ≤ (14 : Nat)) := by lia
theorem om132 {v0 v1 : Nat} (h0 : (((3 : Nat) ≤ v1) ∧ (v1 ≤ (7 : Nat)))) (h1 : (v0 = v1)) : ((2 : Nat) ≤ v0) := by lia
theorem om133 {v0 v1 : Nat} (h0 : (((3 : Nat) ≤ v1) ∧ (v1 ≤ (7 : Nat)))) (h1 : (v0 = v1)) : (v0 ≤ (60 : Nat)) := by lia
theorem om134 {v0 : Nat} (h0 : (((2 : Nat) ≤ v0) ∧ (v0 ≤ (5 : Nat)))) : (((2 : Int) ≤ ((v0 : Nat) : Int)) ∧ (((v0 : Nat) : Int) ≤ (5 : Int))) := by lia
theorem om135 : ((3 : Nat) ≤ (4 : Nat)) := by lia
theorem om136 {v0 v1 : Nat} (h0 : ((v0 + (1 : Nat)) ≤ v1)) (h1 : ((v1 - (v0 + (1 : Nat))) = (0 : Nat))) : ((v0 + (1 : Nat)) = v1) := by exact Nat.le_antisymm h0 (Nat.sub_eq_zero_iff_le.mp h1)
theorem om137 {v0 v1 v2 : Nat} (h0 : ((v1 - (v0 + (1 : Nat))) = (v2 + (1 : Nat)))) : ((v0 + (1 : Nat)) < v1) := by exact Nat.lt_of_sub_eq_succ h0
theorem om138 {v0 v1 : Nat} {v2 : Prop} (h0 : ((0 : Nat) < v1)) (h1 : ((v0 ≤ (v1 - (1 : Nat))) ∧ v2)) : (v0 < v1) := by exact Nat.lt_of_le_of_lt h1.1 (Nat.sub_lt h0 Nat.one_pos)
theorem om139 {v0 : Nat} (h0 : ((0 : Nat) < v0)) : (((v0 - (1 : Nat)) + (1 : Nat)) = v0) := by exact Nat.sub_add_cancel h0
theorem om140 {v0 v1 v2 v3 : Nat} (h0 : (((v1 + v2) + (1 : Nat)) = v3)) (h1 : (v0 = (v2 + (1 : Nat)))) (h2 : (v3 ≤ (100 : Nat))) : (v0 ≤ (16384 : Nat)) := by lia
theorem om141 {v0 v1 : Prop} {v2 : Nat} (h0 : (v2 < (0 : Nat))) : ((¬ v0) → v1) := by lia
theorem om142 {v0 v1 v2 v3 : Nat} (h0 : (((v1 + v2) + (1 : Nat)) = v3)) (h1 : (v0 = (v2 + (1 : Nat)))) (h2 : (v3 ≤ (100 : Nat))) : (v0 ≤ (16777216 : Nat)) := by lia
theorem om143 : ((2 : Nat) ≤ (3 : Nat)) := by lia
theorem om144 {v0 v1 : Nat} (h0 : (v0 = v1)) (h1 : (v1 ≤ (100 : Nat))) : (v0 ≤ (1000 : Nat)) := by lia
theorem om145 {v0 v1 : Nat} (h0 : ((0 : Nat) < v1)) (h1 : (v0 = v1)) : ((0 : Nat) < v0) := by (subst_vars; assumption)
theorem om146 {v0 v1 : Nat} (h0 : ((((v0 + (1 : Nat)) : Nat) : Int) < ((v1 : Nat) : Int))) : ((v0 + (1 : Nat)) < v1) := by exact Int.ofNat_lt.mp h0
theorem om147 {v0 v1 v2 : Nat} (h0 : (v1 = v2)) (h1 : (v2 ≤ (100 : Nat))) (h2 : (v0 ≤ v1)) : (v0 ≤ (100 : Nat)) := by lia
theorem om148 {v0 v1 v2 : Nat} (h0 : ((((v1 + (1 : Nat)) : Nat) : Int) < ((v0 : Nat) : Int))) (h1 : (((v2 + v1) + (1 : Nat)) = v0)) : ((v0 - (v1 + (2 : Nat))) < v2) := by lia
theorem om149 {v0 v1 : Nat} (h0 : ((((v1 + (1 : Nat)) : Nat) : Int) < ((v0 : Nat) : Int))) : ((((v0 - (v1 + (2 : Nat))) + (v1 + (1 : Nat))) + (1 : Nat)) = v0) := by lia
theorem om150 {v0 v1 v2 : Nat} (h0 : (((v2 + v0) + (1 : Nat)) = v1)) (h1 : (¬ ((((v0 + (1 : Nat)) : Nat) : Int) < ((v1 : Nat) : Int)))) : ((v0 + (1 : Nat)) = v1) := by lia
theorem om151 : ((4 : Nat) ≤ (10 : Nat)) := by lia
theorem om152 {v0 v1 v2 : Int} (h0 : (v0 < v2)) (h1 : (¬ (v1 < v2))) : (v0 < v1) := by lia
theorem om153 {v0 v1 v2 : Int} (h0 : (v0 = v2)) (h1 : (¬ (v1 < v2))) (h2 : (¬ (v2 < v1))) : (v0 = v1) := by lia
theorem om154 {v0 v1 : Nat} (h0 : (((v0 + (3 : Nat)) + (10 : Nat)) < v1)) : (((v0 + (3 : Nat)) + (1 : Nat)) < v1) := by lia
theorem om155 {v0 : Nat} (h0 : ((0 : Int) < ((v0 : Nat) : Int))) : (((((v0 : Nat) : Int) - (1 : Int)) / (2 : Int)) = ((((v0 - (1 : Nat)) / (2 : Nat)) : Nat) : Int)) := by lia
theorem om156 {v0 v1 v2 : Nat} (h0 : (v0 < v1)) (h1 : (v1 = v2)) (h2 : (v2 ≤ (16384 : Nat))) : (v0 < ((2 : Nat) ^ (63 : Nat))) := by lia
theorem om157 {v0 : Nat} (h0 : (v0 ≤ (16000 : Nat))) : (v0 ≤ (16383 : Nat)) := by lia
theorem om158 {v0 v1 : Nat} (h0 : (v0 < v1)) (h1 : (v1 ≤ (16000 : Nat))) : ((((2 : Nat) * v0) + (1 : Nat)) < ((2 : Nat) ^ (63 : Nat))) := by lia
theorem om159 {v0 : Nat} : (((((((2 : Nat) * v0) + (1 : Nat)) : Nat) : Int) + (1 : Int)) = (((((2 : Nat) * v0) + (2 : Nat)) : Nat) : Int)) := by lia
theorem om160 {v0 v1 : Nat} (h0 : (v0 < v1)) (h1 : (v1 ≤ (16000 : Nat))) : ((((2 : Nat) * v0) + (2 : Nat)) < ((2 : Nat) ^ (63 : Nat))) := by lia
theorem om161 {v0 v1 : Nat} (h0 : (v0 < v1)) (h1 : (v1 ≤ (16000 : Nat))) : (v0 < ((2 : Nat) ^ (63 : Nat))) := by lia
theorem om162 {v0 : Nat} (h0 : (v0 ≤ (0 : Nat))) : ((0 : Nat) = v0) := by lia
theorem om163 {v0 v1 : Nat} (h0 : (v1 ≤ (v0 + (1 : Nat)))) (h1 : (¬ (v1 = (v0 + (1 : Nat))))) : (¬ (v0 < v1)) := by lia
theorem om164 {v0 v1 v2 : Nat} (h0 : (v2 = v1)) (h1 : (v0 ≤ v2)) : (v0 ≤ v1) := by (subst_vars; assumption)
theorem om165 {v0 v1 v2 : Nat} (h0 : (v0 < v2)) (h1 : (v1 = v2)) : ((v0 + (1 : Nat)) ≤ v1) := by (subst_vars; assumption)
theorem om166 {v0 v1 : Int} (h0 : (((0 : Int) ≤ v1) ∧ (v1 < (10 : Int)))) (h1 : (¬ (v0 = v1))) : (¬ ((Int.toNat ((48 : Int) + v0)) = (Int.toNat ((48 : Int) + v1)))) := by grind
theorem om167 {v0 v1 : Int} (h0 : (((0 : Int) ≤ v0) ∧ (v0 < (10 : Int)))) : (((max ((48 : Int) + v0) (0 : Int)) < ((48 : Int) + v1)) ↔ (v0 < v1)) := by rw [Int.max_eq_left (show (0 : Int) ≤ 48 + v0 from Int.add_nonneg (by decide) h0.1)]; exact Int.add_lt_add_iff_left 48
theorem om168 {v0 v1 v2 : Int} : (((v0 + v1) + v2) = (v0 + (v1 + v2))) := by lia
theorem om169 {v0 v1 : Int} (h0 : (((0 : Int) ≤ v0) ∧ (v0 < v1))) : ((v0 + (1 : Int)) ≤ v1) := by lia
theorem om170 {v0 v1 v2 v3 : Int} (h0 : ((0 : Int) ≤ v1)) (h1 : ((0 : Int) ≤ v0)) (h2 : ((v0 + v3) ≤ v2)) (h3 : (v1 < v3)) : (((0 : Int) ≤ (v0 + v1)) ∧ ((v0 + v1) < v2)) := by lia
theorem om171 {v0 v1 v2 : Int} : ((v0 < v1) ↔ ((v2 + v0) < (v2 + v1))) := by lia
theorem om172 {v0 v1 : Int} (h0 : (v0 < v1)) : ((v0 + (1 : Int)) ≤ v1) := by (subst_vars; assumption)
theorem om173 {v0 v1 v2 v3 v4 : Int} (h0 : (((0 : Int) ≤ v1) ∧ (v1 < v4))) (h1 : (((0 : Int) ≤ v3) ∧ (v3 < v4))) (h2 : ((v0 + v4) ≤ v2)) : ((v0 + v1) < (v2 + v3)) := by lia
theorem om174 {v0 v1 : Int} (h0 : (¬ (v1 < v0))) (h1 : (¬ (v1 = v0))) : ((v0 + (1 : Int)) ≤ v1) := by lia
theorem om175 {v0 v1 v2 v3 v4 : Int} (h0 : (((0 : Int) ≤ v0) ∧ (v0 < v1))) (h1 : (((0 : Int) ≤ v2) ∧ (v2 < v1))) (h2 : ((v3 + v0) < (v4 + v2))) (h3 : ((v4 + v1) ≤ v3)) : False := by lia
theorem om176 {v0 : Int} {v1 : Nat} : (¬ ((v0 < v0) ∨ ((v0 = v0) ∧ (v1 < v1)))) := by lia
theorem om177 {v0 v1 : Int} {v2 v3 : Nat} {v4 : Int} {v5 : Nat} (h0 : (¬ ((v0 < v4) ∨ ((v0 = v4) ∧ (v2 < v5))))) (h1 : (¬ ((v4 < v1) ∨ ((v4 = v1) ∧ (v5 < v3))))) : (¬ ((v0 < v1) ∨ ((v0 = v1) ∧ (v2 < v3)))) := by grind
theorem om178 {v0 v1 : Int} {v2 v3 : Nat} (h0 : (¬ ((v1 < v0) ∨ ((v1 = v0) ∧ (v3 < v2))))) (h1 : (¬ (v3 = v2))) : ((v0 < v1) ∨ ((v0 = v1) ∧ (v2 < v3))) := by grind
theorem om179 {v0 v1 : Int} {v2 v3 : Nat} (h0 : ((v1 < v0) ∨ ((v1 = v0) ∧ (v3 < v2)))) : (¬ ((v0 < v1) ∨ ((v0 = v1) ∧ (v2 < v3)))) := by lia
theorem om180 {v0 : Prop} {v1 v2 : Int} (h0 : (v1 < v2)) (h1 : (v1 = v2)) : v0 := by lia
theorem om181 {v0 : Prop} {v1 v2 : Int} (h0 : (v1 < v2)) (h1 : (v2 = v1)) : v0 := by lia
theorem om182 {v0 v1 : Nat} : ((((v0 : Nat) : Int) < ((v1 : Nat) : Int)) ↔ (v0 < v1)) := by exact Int.ofNat_lt
theorem om183 {v0 : Nat} (h0 : (v0 ≤ (1000 : Nat))) : (v0 < (4096 : Nat)) := by lia
theorem om184 {v0 : Nat} (h0 : (v0 ≤ (1000 : Nat))) : ((v0 + (1 : Nat)) < (4096 : Nat)) := by lia
theorem om185 {v0 : Nat} (h0 : (v0 ≤ (1000 : Nat))) : (((v0 : Nat) : Int) < ((2 : Int) ^ (63 : Nat))) := by lia
theorem om186 {v0 : Prop} (h0 : ((0 : Nat) < (0 : Nat))) : (((0 : Nat) = (1 : Nat)) ↔ v0) := by lia
theorem om187 (h0 : ((0 : Nat) < (0 : Nat))) : ((1 : Nat) ≤ (0 : Nat)) := by (subst_vars; assumption)
theorem om188 {v0 v1 : Nat} (h0 : ((v1 + (1 : Nat)) = (0 : Nat))) : (v0 = (0 : Nat)) := by lia
theorem om189 {v0 : Prop} {v1 : Nat} (h0 : (v1 < (0 : Nat))) : v0 := by lia
theorem om190 {v0 : Nat} (h0 : (v0 < (1 : Nat))) : (v0 = (0 : Nat)) := by lia
theorem om191 {v0 : Prop} {v1 : Nat} (h0 : ((1 : Nat) ≤ v1)) (h1 : ((v1 + (1 : Nat)) = (1 : Nat))) : v0 := by lia
theorem om192 {v0 v1 v2 : Nat} (h0 : (v1 < v2)) (h1 : (v2 = (0 : Nat))) : ((1 : Nat) ≤ v0) := by lia
theorem om193 : ((4 : Nat) ≤ (12 : Nat)) := by lia
theorem om194 {v0 : Nat} (h0 : (v0 ≤ (60 : Nat))) : (v0 ≤ (16777216 : Nat)) := by lia
theorem om195 {v0 v1 : Nat} (h0 : (v0 < v1)) (h1 : (v1 ≤ (60 : Nat))) : (v0 < ((2 : Nat) ^ (63 : Nat))) := by lia
theorem om196 {v0 v1 : Nat} (h0 : ((v0 + ((8 : Nat) * (12 : Nat))) < v1)) : (((v0 + (3 : Nat)) + (1 : Nat)) < v1) := by lia
theorem om197 {v0 : Prop} {v1 v2 : Nat} (h0 : (v1 < (1 : Nat))) (h1 : (v2 < v1)) : v0 := by lia
theorem om198 {v0 v1 v2 : Nat} (h0 : (v0 < (v1 + (v2 + (1 : Nat))))) : (v0 < ((v1 + (1 : Nat)) + v2)) := by lia
theorem om199 {v0 : Nat} (h0 : ((1 : Nat) ≤ v0)) : (¬ (v0 = (v0 - (1 : Nat)))) := by grind
theorem om200 {v0 : Nat} : (((2 : Nat) * ((v0 - (0 : Nat)) / (2 : Nat))) ≤ (v0 - (0 : Nat))) := by exact Nat.mul_div_le (v0 - 0) 2
theorem om201 {v0 v1 : Nat} : (((((0 : Nat) + v0) - (1 : Nat)) - v1) = ((v0 - (1 : Nat)) - v1)) := by lia
theorem om202 {v0 v1 v2 : Nat} (h0 : ((((0 : Nat) ≤ v1) ∧ (v1 < ((0 : Nat) + ((v0 - (0 : Nat)) / (2 : Nat))))) ∨ (((v0 - ((v0 - (0 : Nat)) / (2 : Nat))) ≤ v1) ∧ (v1 < v0)))) (h1 : (v0 ≤ v2)) : (((v0 - (1 : Nat)) - v1) < v2) := by grind
theorem om203 {v0 v1 : Nat} (h0 : (v0 < v1)) (h1 : (¬ ((((0 : Nat) ≤ v0) ∧ (v0 < ((0 : Nat) + ((v1 - (0 : Nat)) / (2 : Nat))))) ∨ (((v1 - ((v1 - (0 : Nat)) / (2 : Nat))) ≤ v0) ∧ (v0 < v1))))) : (v0 = ((v1 - (1 : Nat)) - v0)) := by grind
theorem om204 {v0 v1 v2 : Nat} (h0 : (v0 < v2)) (h1 : (v2 < v1)) : (v0 < v1) := by lia
theorem om205 {v0 v1 v2 : Nat} (h0 : (v2 < v1)) (h1 : (v1 < v0)) : (((v0 - (1 : Nat)) - v1) < ((v0 - (1 : Nat)) - v2)) := by exact Nat.sub_lt_sub_left (Nat.lt_of_lt_of_le h0 (Nat.le_sub_one_of_lt h1)) h0
theorem om206 {v0 v1 v2 : Nat} (h0 : (v2 < v0)) : (((v0 - (1 : Nat)) - v1) < v0) := by exact Nat.lt_of_le_of_lt (Nat.sub_le _ _) (Nat.sub_lt (Nat.lt_of_le_of_lt (Nat.zero_le _) h0) Nat.one_pos)
theorem om207 {v0 : Nat} (h0 : ((2 : Nat) ≤ v0)) : (((1 : Nat) + (v0 - (1 : Nat))) ≤ v0) := by lia
theorem om208 {v0 : Nat} (h0 : ((1 : Nat) < v0)) : (¬ ((v0 - (1 : Nat)) = (0 : Nat))) := by lia
theorem om209 {v0 : Nat} (h0 : ((1 : Nat) < v0)) : ((0 : Nat) < (v0 - (1 : Nat))) := by exact Nat.zero_lt_sub_of_lt h0
theorem om210 {v0 : Nat} (h0 : ((1 : Nat) < v0)) : ((v0 - (1 : Nat)) < v0) := by exact Nat.sub_lt (Nat.lt_trans Nat.one_pos h0) Nat.one_pos
theorem om211 {v0 v1 : Nat} (h0 : ((2 : Nat) ≤ v1)) (h1 : (v0 ≤ ((1 : Nat) + (v1 - (1 : Nat))))) : (v0 ≤ v1) := by grind
theorem om212 {v0 : Nat} (h0 : ((1 : Nat) ≤ v0)) (h1 : (¬ ((1 : Nat) < v0))) : (v0 = (1 : Nat)) := by lia
theorem om213 : ((1 : Nat) ≤ ((1 : Nat) + (1 : Nat))) := by lia
theorem om214 {v0 : Nat} (h0 : ((2 : Nat) ≤ v0)) : ((((1 : Nat) + (1 : Nat)) + (v0 - ((1 : Nat) + (1 : Nat)))) ≤ v0) := by lia
theorem om215 {v0 v1 : Nat} (h0 : (v0 < ((1 : Nat) + (1 : Nat)))) (h1 : (v1 < v0)) : (v0 = (1 : Nat)) := by lia
theorem om216 {v0 v1 : Nat} (h0 : (v0 < v1)) (h1 : (v1 = (1 : Nat))) : (v0 = (0 : Nat)) := by lia
theorem om217 {v0 : Nat} (h0 : ((2 : Nat) ≤ v0)) : ((1 : Nat) < ((1 : Nat) + (v0 - (1 : Nat)))) := by lia
theorem om218 {v0 : Nat} (h0 : (((1 : Nat) + (1 : Nat)) ≤ v0)) : ((1 : Nat) ≤ v0) := by exact Nat.le_of_lt ‹_›
theorem om219 {v0 v1 : Nat} (h0 : ((2 : Nat) ≤ v1)) (h1 : (v0 ≤ (((1 : Nat) + (1 : Nat)) + (v1 - ((1 : Nat) + (1 : Nat)))))) : ((v0 + (v1 - v0)) ≤ v1) := by grind
theorem om220 {v0 v1 : Nat} (h0 : ((2 : Nat) ≤ v1)) (h1 : (v0 ≤ (((1 : Nat) + (1 : Nat)) + (v1 - ((1 : Nat) + (1 : Nat)))))) : (v0 ≤ v1) := by grind
theorem om221 {v0 v1 : Nat} (h0 : (((1 : Nat) + (1 : Nat)) ≤ v1)) (h1 : (v1 ≤ v0)) : ((1 : Nat) ≤ v0) := by lia
theorem om222 {v0 v1 v2 : Nat} (h0 : ((2 : Nat) ≤ v1)) (h1 : (v2 ≤ (((1 : Nat) + (1 : Nat)) + (v1 - ((1 : Nat) + (1 : Nat)))))) (h2 : (v0 ≤ (v2 + (v1 - v2)))) : (v0 ≤ v1) := by grind
theorem om223 {v0 v1 v2 : Nat} (h0 : ((v0 - v2) ≤ (0 : Nat))) (h1 : (v2 ≤ v1)) : (v0 ≤ v1) := by exact Nat.le_trans (Nat.sub_eq_zero_iff_le.mp (Nat.le_zero.mp h0)) h1
theorem om224 {v0 v1 v2 v3 : Nat} (h0 : (v3 < v2)) (h1 : (v1 ≤ v3)) (h2 : (¬ (v1 ≤ v0))) : (((v0 + v1) / (2 : Nat)) < v2) := by lia
theorem om225 {v0 v1 : Nat} (h0 : (¬ (v1 ≤ v0))) : (v0 ≤ ((v0 + v1) / (2 : Nat))) := by lia
theorem om226 {v0 v1 v2 : Nat} (h0 : (v1 ≤ v2)) (h1 : (¬ (v1 ≤ v0))) : (((v0 + v1) / (2 : Nat)) ≤ v2) := by lia
theorem om227 {v0 v1 v2 : Nat} (h0 : ((v1 - v0) ≤ (v2 + (1 : Nat)))) : ((((v0 + v1) / (2 : Nat)) - v0) ≤ v2) := by exact Nat.sub_le_iff_le_add.mpr (Nat.le_of_lt_succ (Nat.div_lt_of_lt_mul (by have := Nat.sub_le_iff_le_add.mp h0; lia)))
theorem om228 {v0 v1 v2 : Nat} (h0 : (((v0 + v1) / (2 : Nat)) ≤ v2)) (h1 : (¬ (v2 = ((v0 + v1) / (2 : Nat))))) : (((v0 + v1) / (2 : Nat)) < v2) := by lia
theorem om229 {v0 v1 : Nat} (h0 : (¬ (v1 ≤ v0))) : ((((v0 + v1) / (2 : Nat)) + (1 : Nat)) ≤ v1) := by lia
theorem om230 {v0 v1 v2 : Nat} (h0 : ((v0 - v1) ≤ (v2 + (1 : Nat)))) : ((v0 - (((v1 + v0) / (2 : Nat)) + (1 : Nat))) ≤ v2) := by omega
theorem om231 {v0 v1 v2 : Nat} (h0 : (v0 < (((v1 + v2) / (2 : Nat)) + (1 : Nat)))) (h1 : (¬ (v0 = ((v1 + v2) / (2 : Nat))))) : (v0 < ((v1 + v2) / (2 : Nat))) := by lia
theorem om232 {v0 v1 v2 : Nat} (h0 : (v1 ≤ v2)) (h1 : (¬ (v1 ≤ v0))) : (((v0 + v1) / (2 : Nat)) < v2) := by lia
theorem om233 {v0 v1 : Nat} : ((v0 - v1) ≤ v0) := by exact Nat.sub_le v0 v1
theorem om234 {v0 v1 : Nat} (h0 : (v1 ≤ v0)) : ((v0 - (v0 - v1)) = v1) := by exact Nat.sub_sub_self h0
theorem om235 {v0 v1 : Nat} (h0 : (v0 < v1)) : ((v0 - (1 : Nat)) < v1) := by exact Nat.sub_lt_of_lt h0
theorem om236 {v0 v1 : Nat} (h0 : ((v0 + (0 : Nat)) = v1)) : (v0 = v1) := by omega
theorem om237 {v0 v1 v2 : Nat} (h0 : ((v0 + (v2 + (1 : Nat))) = v1)) : (v0 < v1) := by lia
theorem om238 {v0 : Nat} : ((v0 - (0 : Nat)) ≤ v0) := by lia
theorem om239 {v0 : Prop} {v1 v2 : Nat} (h0 : (v1 < v2)) (h1 : (v2 ≤ v1)) : v0 := by lia
theorem om240 {v0 v1 v2 : Nat} (h0 : ((v0 + (v1 + (1 : Nat))) = v2)) : (((v0 + (1 : Nat)) + v1) = v2) := by lia
theorem om241 {v0 v1 v2 v3 : Nat} (h0 : ((v2 + (v3 + (1 : Nat))) = v1)) (h1 : (v0 < (v2 + (1 : Nat)))) : (v0 < v1) := by lia
theorem om242 {v0 v1 v2 v3 v4 : Nat} (h0 : ((v2 + (v3 + (1 : Nat))) = v1)) (h1 : (v4 < (v2 + (1 : Nat)))) (h2 : (v0 < v4)) : (v0 < v1) := by lia
theorem om243 {v0 v1 v2 : Nat} (h0 : (v0 < v2)) (h1 : (v2 = v1)) : (¬ (v0 = v1)) := by lia
theorem om244 {v0 v1 v2 v3 : Nat} (h0 : (v1 < v3)) (h1 : (v3 = v0)) : (¬ ((v0 < v1) ∧ (v1 ≤ v2))) := by lia
theorem om245 {v0 v1 v2 : Nat} (h0 : ((v0 < v1) ∧ (v1 ≤ v2))) : (v0 ≤ (v1 - (1 : Nat))) := by grind
theorem om246 {v0 v1 v2 : Nat} (h0 : ((v2 < v0) ∧ (v0 ≤ v1))) : ((v0 - (1 : Nat)) < v1) := by exact Nat.lt_of_lt_of_le (Nat.sub_lt (Nat.lt_of_le_of_lt (Nat.zero_le _) h0.1) Nat.one_pos) h0.2
theorem om247 {v0 v1 v2 v3 : Nat} (h0 : ((v2 < v0) ∧ (v0 ≤ v3))) (h1 : (v0 < v1)) : ((v0 - (1 : Nat)) < (v1 - (1 : Nat))) := by exact Nat.sub_lt_sub_right (Nat.lt_of_le_of_lt (Nat.zero_le _) h0.1) h1
theorem om248 {v0 v1 v2 v3 : Nat} (h0 : ((v2 < v1) ∧ (v1 ≤ v3))) (h1 : (v0 < v1)) (h2 : (¬ ((v2 < v0) ∧ (v0 ≤ v3)))) (h3 : (¬ (v0 = v2))) : (v0 < (v1 - (1 : Nat))) := by grind
theorem om249 {v0 v1 v2 v3 : Nat} (h0 : (v2 < (v3 + (1 : Nat)))) (h1 : (v0 < v2)) (h2 : (¬ ((v1 < v2) ∧ (v2 ≤ v3)))) : (¬ (v0 = v1)) := by lia
theorem om250 {v0 v1 v2 v3 : Nat} (h0 : (v3 < (v2 + (1 : Nat)))) (h1 : (v1 < v3)) (h2 : (¬ ((v0 < v3) ∧ (v3 ≤ v2)))) : (¬ ((v0 < v1) ∧ (v1 ≤ v2))) := by lia
theorem om251 {v0 v1 v2 : Nat} (h0 : (v0 < (v1 + (1 : Nat)))) (h1 : (v2 ≤ v1)) (h2 : (¬ ((v2 < v0) ∧ (v0 ≤ v1)))) (h3 : (¬ (v0 = v2))) : (v0 < v1) := by lia
theorem om252 {v0 : Nat} (h0 : ((1 : Nat) ≤ v0)) : ((max v0 (1 : Nat)) = v0) := by exact Nat.max_eq_left h0
theorem om253 {v0 v1 : Nat} (h0 : (v0 < v1)) : ((v0 + (v1 - v0)) = v1) := by grind
theorem om254 {v0 : Nat} (h0 : ((2 : Nat) ≤ v0)) : (¬ (v0 < (2 : Nat))) := by lia
theorem om255 {v0 v1 : Nat} (h0 : ((2 : Nat) ≤ v1)) (h1 : (v1 = v0)) : ((0 : Nat) < v0) := by lia
theorem om256 {v0 : Nat} (h0 : (v0 < (64 : Nat))) : (v0 ≤ ((16777216 : Nat) + (1 : Nat))) := by lia
theorem om257 {v0 : Int} (h0 : (((0 : Int) ≤ v0) ∧ (v0 < (10 : Int)))) : ((0 : Int) ≤ ((48 : Int) + v0)) := by lia
theorem om258 {v0 : Int} (h0 : (((0 : Int) ≤ v0) ∧ (v0 < (10 : Int)))) : (((48 : Int) + v0) ≤ (1114111 : Int)) := by lia
theorem om259 {v0 v1 : Int} (h0 : ((0 : Int) ≤ v0)) (h1 : ((1 : Int) ≤ v1)) : ((0 : Int) ≤ ((v0 + v1) - (1 : Int))) := by lia
theorem om260 {v0 : Int} (h0 : ((1 : Int) ≤ v0)) : (¬ (v0 = (0 : Int))) := by lia
theorem om261 {v0 : Nat} (h0 : (v0 ≤ (16384 : Nat))) : (((v0 : Nat) : Int) ≤ (16384 : Int)) := by lia
theorem om262 {v0 : Nat} : ((v0 + (1 : Nat)) ≤ (v0 + (1 : Nat))) := by lia
theorem om263 {v0 v1 v2 : Nat} (h0 : ((0 : Nat) < v1)) (h1 : ((v2 = v0) ∧ (v0 ≤ (v1 - (1 : Nat))))) : (v0 < v1) := by grind
theorem om264 {v0 v1 v2 : Nat} (h0 : (v1 = v2)) (h1 : (v0 ≤ v2)) : (v0 ≤ v1) := by (subst_vars; assumption)
theorem om265 {v0 v1 v2 v3 : Nat} (h0 : ((v0 ≤ v2) ∧ (v0 ≤ v3))) (h1 : (v2 = v1)) : (v0 ≤ v1) := by lia
theorem om266 {v0 v1 v2 v3 : Nat} (h0 : (v2 < v3)) (h1 : (v3 ≤ v1)) (h2 : (v0 ≤ v2)) : (v0 ≤ v1) := by lia
theorem om267 {v0 : Int} (h0 : ((0 : Int) ≤ v0)) : ((- ((2 : Int) ^ (62 : Nat))) ≤ v0) := by lia
theorem om268 {v0 : Int} {v1 : Nat} (h0 : ((v0 + ((v1 : Nat) : Int)) < ((2 : Int) ^ (62 : Nat)))) : (v0 < ((2 : Int) ^ (62 : Nat))) := by lia
theorem om269 {v0 : Int} {v1 : Nat} (h0 : ((0 : Int) ≤ v0)) : ((- ((2 : Int) ^ (62 : Nat))) ≤ (v0 + ((v1 : Nat) : Int))) := by lia
theorem om270 {v0 : Int} {v1 : Nat} : (((v0 + ((v1 : Nat) : Int)) - v0) = ((v1 : Nat) : Int)) := by lia
theorem om271 {v0 v1 : Nat} (h0 : (v1 ≤ v0)) : (¬ (v0 < v1)) := by lia
theorem om272 {v0 : Nat} (h0 : (v0 ≤ (100000 : Nat))) : (((- ((2 : Int) ^ (63 : Nat))) ≤ ((v0 : Nat) : Int)) ∧ (((v0 : Nat) : Int) < ((2 : Int) ^ (63 : Nat)))) := by lia
theorem om273 {v0 : Nat} {v1 : Int} (h0 : ((((2 : Int) ^ (63 : Nat)) - (1 : Int)) = v1)) (h1 : (v0 ≤ (100000 : Nat))) : (¬ (((v0 : Nat) : Int) = v1)) := by lia
theorem om274 {v0 : Nat} (h0 : (v0 ≤ (100000 : Nat))) : (¬ ((16777216 : Nat) < (Int.toNat ((v0 : Nat) : Int)))) := by lia
theorem om275 {v0 : Nat} (h0 : (v0 ≤ (100000 : Nat))) : ((Int.toNat ((v0 : Nat) : Int)) ≤ (16777216 : Nat)) := by lia
theorem om276 {v0 v1 : Nat} (h0 : (v0 < v1)) (h1 : (v1 ≤ (100000 : Nat))) : (((- ((2 : Int) ^ (63 : Nat))) ≤ ((v0 : Nat) : Int)) ∧ (((v0 : Nat) : Int) < ((2 : Int) ^ (63 : Nat)))) := by lia
theorem om277 {v0 : Int} (h0 : (((0 : Int) ≤ v0) ∧ (v0 < (256 : Int)))) : (¬ ((v0 < (0 : Int)) ∨ ((256 : Int) ≤ v0))) := by lia
theorem om278 {v0 v1 : Nat} (h0 : (v1 < v0)) : ((v0 - v1) = (((v0 - v1) - (1 : Nat)) + (1 : Nat))) := by grind
theorem om279 {v0 v1 v2 v3 : Nat} (h0 : (v0 = v1)) : (v0 ≤ (v1 + ((v2 - (1 : Nat)) - v3))) := by exact Nat.le.intro (congrFun (congrArg HAdd.hAdd h0) (v2 - 1 - v3))
theorem om280 {v0 v1 v2 : Nat} (h0 : (v1 < v0)) : (((v0 - (1 : Nat)) - v1) < ((v0 - v1) + v2)) := by exact Nat.lt_of_lt_of_le (Nat.lt_of_le_of_lt (Nat.le_of_eq (Nat.sub_right_comm v0 1 v1)) (Nat.sub_lt (Nat.sub_pos_of_lt h0) Nat.one_pos)) (Nat.le_add_right _ _)
theorem om281 {v0 v1 : Nat} (h0 : (v1 < v0)) : (((v0 - (1 : Nat)) - v1) < (v0 - v1)) := by grind
theorem om282 {v0 v1 : Nat} (h0 : (v1 < v0)) : ((v0 - v1) = (((v0 - (1 : Nat)) - v1) + (1 : Nat))) := by exact ((congrArg (· + 1) (Nat.sub_right_comm v0 1 v1)).trans (Nat.sub_add_cancel (Nat.sub_pos_of_lt h0))).symm
theorem om283 {v0 v1 : Nat} : (((v0 - (1 : Nat)) - v1) ≤ ((v0 - (1 : Nat)) - v1)) := by lia
theorem om284 {v0 v1 : Nat} : ((v0 - (v1 + (1 : Nat))) = ((v0 - (1 : Nat)) - v1)) := by lia
theorem om285 {v0 v1 : Nat} (h0 : (v1 < v0)) : (v0 = ((v1 + (1 : Nat)) + ((v0 - v1) - (1 : Nat)))) := by exact Eq.symm (Nat.add_sub_of_le h0)
theorem om286 {v0 v1 v2 v3 : Nat} : ((v0 + (((v1 - v2) + (min v2 v1)) + v3)) = ((v0 + v1) + v3)) := by grind
theorem om287 {v0 v1 v2 v3 : Nat} (h0 : ((v0 + v3) ≤ v2)) (h1 : (v1 < v3)) : ((v0 + v1) < v2) := by lia
theorem om288 {v0 : Int} {v1 v2 : Nat} (h0 : (v2 < v1)) : ((v0 + ((((v1 - (1 : Nat)) - v2) : Nat) : Int)) = (((v0 + ((v1 : Nat) : Int)) - (1 : Int)) - ((v2 : Nat) : Int))) := by grind
theorem om289 {v0 : Int} {v1 : Nat} : ((((0 : Int) + v0) + ((v1 : Nat) : Int)) = (v0 + ((v1 : Nat) : Int))) := by lia
theorem om290 {v0 v1 : Nat} : ((0 : Int) ≤ (((v0 + v1) : Nat) : Int)) := by exact Int.natCast_nonneg _
theorem om291 {v0 v1 v2 : Nat} (h0 : ((v0 + v1) < v2)) : ((((v0 + v1) : Nat) : Int) < ((v2 : Nat) : Int)) := by exact Int.ofNat_lt.mpr h0
theorem om292 {v0 : Int} {v1 v2 : Nat} : ((((((0 : Int) + v0) + ((v1 : Nat) : Int)) - (1 : Int)) - ((v2 : Nat) : Int)) = (((v0 + ((v1 : Nat) : Int)) - (1 : Int)) - ((v2 : Nat) : Int))) := by lia
theorem om294 {v0 v1 : Nat} (h0 : (((v0 + v1) + (1 : Nat)) ≤ (16777216 : Nat))) : (¬ (((2 : Int) ^ (63 : Nat)) ≤ ((v0 : Nat) : Int))) := by lia
theorem om295 {v0 v1 v2 : Nat} (h0 : (((v0 + v1) + (1 : Nat)) ≤ v2)) : ((v0 + v1) ≤ v2) := by exact Nat.le_of_lt ‹_›
theorem om296 {v0 v1 v2 v3 : Nat} (h0 : (((v3 + v1) + (1 : Nat)) ≤ v2)) (h1 : (v0 = (1 : Nat))) : ((v0 + v1) ≤ v2) := by lia
theorem om297 {v0 v1 v2 v3 : Nat} (h0 : (((v0 + v2) + (1 : Nat)) ≤ v3)) (h1 : (v1 = (1 : Nat))) : ((v0 + (v1 + v2)) ≤ v3) := by lia
theorem om298 {v0 : Nat} (h0 : (¬ (v0 = (0 : Nat)))) : (¬ (((v0 - (1 : Nat)) / (2 : Nat)) = v0)) := by lia
theorem om299 {v0 : Nat} (h0 : (¬ (((v0 - (1 : Nat)) / (2 : Nat)) = v0))) : (((v0 - (1 : Nat)) / (2 : Nat)) < v0) := by exact Nat.lt_of_le_of_ne (Nat.le_trans (Nat.div_le_self _ _) (Nat.sub_le _ _)) h0
theorem om300 {v0 v1 : Nat} (h0 : (((v1 - (1 : Nat)) / (2 : Nat)) = v0)) (h1 : (¬ (((v1 - (1 : Nat)) / (2 : Nat)) = ((v0 - (1 : Nat)) / (2 : Nat))))) : ((0 : Nat) < v0) := by exact Nat.pos_of_ne_zero fun e => by subst e; exact h1 h0
theorem om302 {v0 : Nat} (h0 : ((0 : Nat) < ((v0 - (1 : Nat)) / (2 : Nat)))) : (¬ (((((v0 - (1 : Nat)) / (2 : Nat)) - (1 : Nat)) / (2 : Nat)) = v0)) := by exact fun e => om301 h0 e.symm
theorem om304 {v0 v1 : Nat} (h0 : ((v0 = (((2 : Nat) * v1) + (1 : Nat))) ∨ (v0 = (((2 : Nat) * v1) + (2 : Nat))))) : (((v0 - (1 : Nat)) / (2 : Nat)) = v1) := by exact h0.elim (fun e => e ▸ Nat.mul_div_cancel_left v1 (by decide)) (fun e => e ▸ Nat.mul_add_div (by decide) v1 1)
theorem om305 {v0 v1 : Nat} (h0 : (((v0 - (1 : Nat)) / (2 : Nat)) = v1)) (h1 : ((0 : Nat) < v1)) : ((0 : Nat) < v0) := by exact Nat.pos_of_ne_zero fun e => by subst e; subst h0; exact absurd h1 (by decide)
theorem om306 {v0 v1 v2 : Nat} (h0 : (((v2 - (1 : Nat)) / (2 : Nat)) = v0)) (h1 : (((v1 - (1 : Nat)) / (2 : Nat)) = v2)) (h2 : ((0 : Nat) < v2)) : (¬ (v0 = v1)) := by subst h1; subst h0; exact fun e => om301 h2 e.symm
theorem om307 {v0 v1 v2 : Nat} (h0 : (((v2 - (1 : Nat)) / (2 : Nat)) = v1)) (h1 : (((v0 - (1 : Nat)) / (2 : Nat)) = v2)) (h2 : ((0 : Nat) < v2)) : (¬ (v0 = v1)) := by subst h1; subst h0; exact om301 h2
theorem om308 {v0 v1 v2 : Nat} (h0 : (((v2 - (1 : Nat)) / (2 : Nat)) = v1)) (h1 : (((v0 - (1 : Nat)) / (2 : Nat)) = v2)) (h2 : ((0 : Nat) < v2)) : (¬ (((v0 - (1 : Nat)) / (2 : Nat)) = v1)) := by grind
theorem om309 {v0 v1 v2 v3 : Nat} (h0 : ((v0 - v3) = v2)) (h1 : ((v1 = (((2 : Nat) * v3) + (1 : Nat))) ∨ (v1 = (((2 : Nat) * v3) + (2 : Nat))))) (h2 : (v1 < v0)) : ((v0 - v1) < v2) := by exact (have h : v3 < v1 := h1.elim (fun e => e ▸ Nat.lt_succ_of_le (Nat.le_mul_of_pos_left v3 (by decide))) (fun e => e ▸ Nat.lt_succ_of_le (Nat.le_succ_of_le (Nat.le_mul_of_pos_left v3 (by decide)))); h0 ▸ Nat.sub_lt_sub_left (Nat.lt_trans h h2) h)
theorem om310 {v0 v1 : Nat} (h0 : ((v1 = (((2 : Nat) * v0) + (1 : Nat))) ∨ (v1 = (((2 : Nat) * v0) + (2 : Nat))))) : (¬ (v0 = v1)) := by lia
theorem om311 {v0 v1 : Nat} (h0 : (((v0 - (1 : Nat)) / (2 : Nat)) = v1)) (h1 : ((0 : Nat) < v0)) (h2 : (¬ (v0 = (((2 : Nat) * v1) + (2 : Nat))))) : (v0 = (((2 : Nat) * v1) + (1 : Nat))) := by lia
theorem om312 {v0 v1 : Nat} (h0 : (¬ ((((2 : Nat) * v1) + (1 : Nat)) < v0))) : (v0 ≤ (((2 : Nat) * v1) + (1 : Nat))) := by exact Nat.le_of_not_lt h0
theorem om313 {v0 v1 v2 v3 : Nat} (h0 : (((v0 - (1 : Nat)) / (2 : Nat)) = v1)) (h1 : ((0 : Nat) < v0)) (h2 : (v0 < v2)) (h3 : (v2 = v3)) (h4 : (v3 ≤ (((2 : Nat) * v1) + (1 : Nat)))) : False := by lia
theorem om314 {v0 : Nat} (h0 : ((0 : Nat) < v0)) : (v0 = ((v0 - (1 : Nat)) + (1 : Nat))) := by lia
theorem om315 {v0 : Nat} (h0 : (¬ (((v0 - (1 : Nat)) / (2 : Nat)) = (0 : Nat)))) : ((0 : Nat) < ((v0 - (1 : Nat)) / (2 : Nat))) := by lia
theorem om316 : ((0 : Int) ≤ (0 : Int)) := by exact Int.natCast_nonneg _
theorem om317 {v0 : Nat} (h0 : (v0 < (100000 : Nat))) : (((0 : Int) + ((v0 : Nat) : Int)) < ((2 : Int) ^ (62 : Nat))) := by lia
theorem om318 {v0 : Nat} (h0 : (v0 ≤ (1000 : Nat))) : (v0 < (100000 : Nat)) := by lia
theorem om319 {v0 : Nat} {v1 : Int} (h0 : ((v1 % (1000000 : Int)) = ((v0 : Nat) : Int))) : (v0 < (1000000 : Nat)) := by lia
theorem om320 {v0 : Nat} : ((min (1 : Nat) v0) ≤ (9999 : Nat)) := by lia
theorem om321 {v0 : Nat} : (((2 : Int) + (((v0 : Nat) : Int) % (4 : Int))) = ((((2 : Nat) + (v0 % (4 : Nat))) : Nat) : Int)) := by lia
theorem om322 {v0 : Nat} : (((2 : Int) + ((((v0 : Nat) : Int) / (4 : Int)) % (4 : Int))) = ((((2 : Nat) + ((v0 / (4 : Nat)) % (4 : Nat))) : Nat) : Int)) := by exact Int.mem_toNat?.mp rfl
theorem om323 {v0 v1 : Nat} (h0 : (v0 = ((2 : Nat) + (v1 % (4 : Nat))))) : (((2 : Nat) ≤ v0) ∧ (v0 ≤ (5 : Nat))) := by grind
theorem om324 {v0 v1 : Nat} (h0 : (v0 = ((2 : Nat) + ((v1 / (4 : Nat)) % (4 : Nat))))) : (((2 : Nat) ≤ v0) ∧ (v0 ≤ (5 : Nat))) := by subst h0; exact ⟨Nat.le_add_right _ _, Nat.add_le_add_left (Nat.le_of_lt_succ (Nat.mod_lt _ (by decide))) 2⟩
theorem om325 {v0 : Nat} : ((min (4 : Nat) v0) ≤ (16777216 : Nat)) := by lia
theorem om326 {v0 : Nat} (h0 : (((2 : Nat) ≤ v0) ∧ (v0 ≤ (5 : Nat)))) : (v0 ≤ (1000 : Nat)) := by lia
theorem om327 {v0 : Nat} (h0 : (((2 : Nat) ≤ v0) ∧ (v0 ≤ (5 : Nat)))) : (v0 ≤ (5 : Nat)) := by lia
theorem om328 {v0 : Nat} : ((min (4 : Nat) v0) ≤ (4 : Nat)) := by lia
theorem om329 {v0 : Nat} (h0 : (v0 ≤ (4 : Nat))) : (((3 : Nat) + v0) ≤ (10000 : Nat)) := by lia
theorem om330 {v0 : Nat} (h0 : (((2 : Nat) ≤ v0) ∧ (v0 ≤ (5 : Nat)))) : (v0 < (100000 : Nat)) := by lia
theorem om331 {v0 v1 v2 : Nat} (h0 : (v0 < v1)) (h1 : (v1 = ((2 : Nat) + ((v2 / (4 : Nat)) % (4 : Nat))))) : (v0 ≤ (1000 : Nat)) := by lia
theorem om332 {v0 v1 v2 : Nat} (h0 : (v0 < v1)) (h1 : (v1 = ((2 : Nat) + ((v2 / (4 : Nat)) % (4 : Nat))))) : (v0 ≤ (5 : Nat)) := by lia
theorem om333 {v0 : Nat} (h0 : (((2 : Nat) ≤ v0) ∧ (v0 ≤ (5 : Nat)))) : ((0 : Int) < ((v0 : Nat) : Int)) := by lia
theorem om334 {v0 v1 v2 : Nat} (h0 : (v0 < v1)) (h1 : (v1 = ((2 : Nat) + ((v2 / (4 : Nat)) % (4 : Nat))))) : ((v0 + (1 : Nat)) ≤ (1000 : Nat)) := by lia
theorem om335 {v0 v1 v2 : Nat} (h0 : (v0 < v1)) (h1 : (v1 = ((2 : Nat) + ((v2 / (4 : Nat)) % (4 : Nat))))) : ((v0 + (1 : Nat)) ≤ (5 : Nat)) := by lia
theorem om336 {v0 v1 : Nat} (h0 : (v1 < v0)) : ((((v0 : Nat) : Int) - (((v1 + (1 : Nat)) : Nat) : Int)) = (((v0 - (v1 + (1 : Nat))) : Nat) : Int)) := by exact (Int.ofNat_sub h0).symm
theorem om337 {v0 v1 : Nat} (h0 : (((2 : Nat) ≤ v0) ∧ (v0 ≤ (5 : Nat)))) : ((v0 - (v1 + (1 : Nat))) ≤ (1000 : Nat)) := by exact Nat.le_trans (Nat.sub_le _ _) (Nat.le_trans h0.2 (by decide))
theorem om338 {v0 v1 : Nat} (h0 : (((2 : Nat) ≤ v0) ∧ (v0 ≤ (5 : Nat)))) : ((v0 - (v1 + (1 : Nat))) ≤ (5 : Nat)) := by exact Nat.le_trans (Nat.sub_le _ _) h0.2
theorem om339 {v0 : Nat} : (v0 ≤ (v0 + (2 : Nat))) := by lia
theorem om340 {v0 : Nat} : (v0 < (v0 + (2 : Nat))) := by lia
theorem om341 {v0 v1 : Nat} (h0 : ((v0 + (2 : Nat)) < v1)) : ((v0 + (1 : Nat)) < v1) := by exact Nat.le_of_lt ‹_›
theorem om342 {v0 v1 : Nat} (h0 : ((v0 + ((8 : Nat) * (2 : Nat))) < v1)) : (((v0 + (1 : Nat)) + ((8 : Nat) * (1 : Nat))) < v1) := by lia
theorem om343 {v0 v1 : Nat} (h0 : ((v0 + (3 : Nat)) < v1)) : ((v0 + (2 : Nat)) < v1) := by exact Nat.le_of_lt ‹_›
theorem om344 {v0 v1 : Nat} (h0 : ((v0 + ((8 : Nat) * (3 : Nat))) < v1)) : (((v0 + (1 : Nat)) + ((8 : Nat) * (2 : Nat))) < v1) := by lia
theorem om345 {v0 v1 : Nat} (h0 : ((v1 - v0) = (0 : Nat))) (h1 : (v0 ≤ v1)) : (v0 = v1) := by grind
theorem om346 {v0 v1 : Nat} (h0 : (v1 ≤ (1000 : Nat))) : ((min v0 v1) ≤ (16777216 : Nat)) := by grind
theorem om347 {v0 v1 : Nat} (h0 : (v1 ≤ (1000 : Nat))) : (((min v0 v1) + (1 : Nat)) ≤ ((16777216 : Nat) + (1 : Nat))) := by grind
theorem om348 {v0 v1 v2 : Nat} (h0 : ((v0 + (v1 + (1 : Nat))) < v2)) : ((v0 + v1) < v2) := by exact Nat.le_of_lt ‹_›
theorem om349 {v0 v1 v2 : Nat} (h0 : ((v0 + ((8 : Nat) * (v1 + (1 : Nat)))) < v2)) : (((v0 + (1 : Nat)) + ((8 : Nat) * v1)) < v2) := by lia
theorem om350 : ((5 : Nat) ≤ (6 : Nat)) := by lia
theorem om351 {v0 v1 : Nat} (h0 : (¬ (v0 = v1))) : (¬ ((- ((v0 : Nat) : Int)) = (- ((v1 : Nat) : Int)))) := by lia
theorem om352 {v0 v1 v2 v3 : Nat} (h0 : (¬ ((- ((v0 : Nat) : Int)) = (- ((v1 : Nat) : Int))))) : ((v0 = v1) → ((v2 < v3) → (v1 < v0))) := by exact fun a a_1 => Nat.lt_of_not_le fun a_2 => h0 (congrArg Neg.neg (congrArg Nat.cast a))
theorem om353 {v0 v1 : Nat} : (¬ ((v0 < v0) ∨ ((v0 = v0) ∧ (v1 < v1)))) := by lia
theorem om354 {v0 v1 v2 v3 : Nat} (h0 : ((v1 < v0) ∨ ((v0 = v1) ∧ (v3 < v2)))) : (¬ ((v0 < v1) ∨ ((v1 = v0) ∧ (v2 < v3)))) := by lia
theorem om355 {v0 v1 v2 v3 v4 v5 : Nat} (h0 : (¬ ((v4 < v1) ∨ ((v1 = v4) ∧ (v2 < v5))))) (h1 : (¬ ((v0 < v4) ∨ ((v4 = v0) ∧ (v5 < v3))))) : (¬ ((v0 < v1) ∨ ((v1 = v0) ∧ (v2 < v3)))) := by grind
theorem om356 {v0 : Nat} : ((0 : Nat) < (v0 + (1 : Nat))) := by lia
theorem om357 {v0 v1 v2 : Nat} (h0 : (v1 < v2)) (h1 : (v2 ≤ (100 : Nat))) (h2 : (v0 ≤ v1)) : (v0 ≤ (16777216 : Nat)) := by exact Nat.le_trans h2 (Nat.le_trans (Nat.le_of_lt h0) (Nat.le_trans h1 (by decide)))
theorem om358 {v0 v1 : Nat} (h0 : ((v0 + ((8 : Nat) * (3 : Nat))) < v1)) : (((v0 + (3 : Nat)) + (1 : Nat)) < v1) := by lia
theorem om359 {v0 : Nat} : ((- (- ((v0 : Nat) : Int))) = ((v0 : Nat) : Int)) := by lia
theorem om360 {v0 v1 : Nat} (h0 : (v0 ≤ (100 : Nat))) : ((min v0 v1) ≤ (1000 : Nat)) := by exact Nat.le_trans (Nat.min_le_left _ _) (Nat.le_trans h0 (by decide))
theorem om361 {v0 v1 v2 v3 : Nat} (h0 : (((v1 + v2) + (1 : Nat)) = v3)) (h1 : (v0 = v2)) (h2 : (v3 ≤ (100 : Nat))) : (v0 ≤ (16777216 : Nat)) := by lia
theorem om362 {v0 v1 v2 v3 v4 : Nat} (h0 : (v0 ≤ v4)) (h1 : (¬ ((v1 < v4) ∨ ((v4 = v1) ∧ (v3 < v2))))) : ((v0 < v1) ∨ ((v0 = v1) ∧ (v2 ≤ v3))) := by grind
theorem om363 {v0 v1 : Nat} (h0 : ((v0 + (1 : Nat)) = (v1 + (1 : Nat)))) : (v0 ≤ ((v1 + (1 : Nat)) - (1 : Nat))) := by lia
theorem om364 {v0 v1 : Nat} (h0 : ((v1 + (1 : Nat)) = (v0 + (1 : Nat)))) : ((((v0 + (1 : Nat)) - (1 : Nat)) - v1) = (0 : Nat)) := by grind
theorem om365 {v0 : Nat} : (v0 ≤ (v0 + (0 : Nat))) := by lia
theorem om366 {v0 v1 v2 : Nat} (h0 : (v0 ≤ (v1 + v2))) : (v0 ≤ (v1 + (v2 + (1 : Nat)))) := by lia
theorem om367 : ((- (1 : Int)) < (0 : Int)) := by exact Int.natCast_nonneg _
theorem om368 {v0 v1 : Nat} (h0 : (v0 = (v1 + (1 : Nat)))) : ((- ((v0 : Nat) : Int)) ≤ (- (1 : Int))) := by lia
theorem om369 : ((- ((2 : Int) ^ (63 : Nat))) ≤ (- (1 : Int))) := by exact Int.natCast_nonneg _
theorem om370 {v0 : Nat} : ((Int.toNat ((- (1 : Int)) + ((v0 : Nat) : Int))) = (v0 - (1 : Nat))) := by exact (congrArg Int.toNat (Int.add_comm (-1) v0)).trans (Int.toNat_sub v0 1)
theorem om371 : ((1 : Nat) ≤ (1000 : Nat)) := by lia
theorem om372 {v0 v1 v2 : Nat} (h0 : (v1 = v2)) (h1 : (v2 ≤ (100 : Nat))) (h2 : (v0 ≤ v1)) : (((2 : Nat) * v0) ≤ (1000 : Nat)) := by lia
theorem om373 {v0 : Nat} (h0 : (v0 ≤ (1000 : Nat))) : (¬ (((2 : Int) ^ (63 : Nat)) ≤ ((v0 : Nat) : Int))) := by lia
theorem om374 : ((3 : Nat) ≤ (10 : Nat)) := by lia
theorem om375 {v0 v1 v2 v3 v4 : Nat} (h0 : ((((v1 + (1 : Nat)) : Nat) : Int) < ((v2 : Nat) : Int))) (h1 : (v3 < v2)) (h2 : (v2 ≤ (100 : Nat))) (h3 : (v4 ≤ (v1 * (100 : Nat)))) (h4 : (v0 ≤ (v4 + v3))) : (v0 ≤ (16000 : Nat)) := by lia
theorem om376 {v0 v1 v2 v3 : Nat} (h0 : (v0 = (v3 + (1 : Nat)))) (h1 : (v3 ≤ (v1 + v2))) : (v0 ≤ (v1 + (v2 + (1 : Nat)))) := by lia
theorem om377 {v0 v1 v2 v3 : Nat} (h0 : ((((v1 + (1 : Nat)) : Nat) : Int) < ((v2 : Nat) : Int))) (h1 : (v2 ≤ (100 : Nat))) (h2 : (v3 ≤ (v1 * (100 : Nat)))) (h3 : (v0 ≤ (v3 + v2))) : (v0 ≤ (16000 : Nat)) := by lia
theorem om378 {v0 v1 v2 v3 v4 : Nat} {v5 v6 v7 v8 : Prop} (h0 : ((v2 + (1 : Nat)) ≤ (v3 + v4))) (h1 : (v4 ≤ (100 : Nat))) (h2 : (v3 ≤ (v1 * (100 : Nat)))) (h3 : (v5 ∧ (v6 ∧ (v7 ∧ ((v0 = v2) ∧ v8))))) : (v0 ≤ ((v1 * (100 : Nat)) + (100 : Nat))) := by lia
theorem om379 {v0 v1 v2 : Nat} (h0 : ((((v1 + (1 : Nat)) : Nat) : Int) < ((v2 : Nat) : Int))) (h1 : (v0 ≤ ((v1 * (100 : Nat)) + (100 : Nat)))) (h2 : (v2 ≤ (100 : Nat))) : (v0 ≤ (16000 : Nat)) := by lia
theorem om380 {v0 v1 : Nat} (h0 : (v0 ≤ ((v1 * (100 : Nat)) + (99 : Nat)))) : (v0 ≤ ((v1 * (100 : Nat)) + (100 : Nat))) := by exact Nat.le_succ_of_le h0
theorem om381 {v0 v1 v2 : Nat} (h0 : ((((v1 + (1 : Nat)) : Nat) : Int) < ((v2 : Nat) : Int))) (h1 : (v0 = (v1 + (1 : Nat)))) (h2 : (v2 ≤ (100 : Nat))) : (v0 ≤ (16777216 : Nat)) := by lia
theorem om382 : ((2 : Nat) < ((2 : Nat) ^ (63 : Nat))) := by lia
theorem om383 {v0 v1 v2 : Nat} (h0 : ((((v1 + (1 : Nat)) : Nat) : Int) < ((v2 : Nat) : Int))) (h1 : (v0 = v1)) (h2 : (v2 ≤ (100 : Nat))) : (v0 ≤ (16777216 : Nat)) := by lia
theorem om384 {v0 v1 : Nat} (h0 : (v0 ≤ ((v1 * (100 : Nat)) + (100 : Nat)))) : (v0 ≤ ((v1 + (1 : Nat)) * (100 : Nat))) := by lia
theorem om385 {v0 v1 v2 v3 v4 : Int} {v5 : Prop} (h0 : (v0 < v2)) (h1 : (¬ ((v1 < v2) ∨ ((v1 = v2) ∧ ((v3 < v4) ∨ ((v3 = v4) ∧ v5)))))) : (v0 < v1) := by omega
theorem om386 {v0 : Nat} (h0 : (v0 ≤ (100 : Nat))) : (v0 ≤ (16384 : Nat)) := by lia
theorem om387 {v0 v1 : Nat} (h0 : (v1 ≤ (100 : Nat))) : ((min v0 v1) ≤ (100 : Nat)) := by grind
theorem om388 {v0 : Nat} (h0 : (v0 ≤ (100 : Nat))) : (v0 ≤ (16000 : Nat)) := by lia
theorem om389 {v0 : Prop} {v1 v2 : Nat} (h0 : (v1 < v2)) (h1 : (v1 = v2)) : v0 := by lia
theorem om390 : ((4 : Nat) ≤ (4 : Nat)) := by lia
theorem om391 {v0 v1 v2 : Nat} (h0 : ((v1 + (v0 + (1 : Nat))) = v2)) (h1 : (v2 ≤ (100 : Nat))) : ((v0 + (1 : Nat)) ≤ (16000 : Nat)) := by lia
theorem om392 {v0 v1 : Nat} (h0 : ((v1 + v0) = v1)) : (v0 = (0 : Nat)) := by lia
theorem om393 {v0 v1 v2 v3 v4 v5 : Nat} (h0 : ((v4 < v3) ∨ ((v4 = v3) ∧ (v1 ≤ v0)))) (h1 : ((v5 < v2) ∨ ((v5 = v2) ∧ (v0 ≤ v1)))) (h2 : (v4 = v2)) (h3 : (v5 = v3)) : ((v0 = v1) ∧ (v2 = v3)) := by lia
theorem om394 {v0 v1 : Nat} (h0 : (v0 < v1)) : (¬ (v0 = v1)) := by lia
theorem om395 {v0 v1 : Nat} (h0 : ((0 : Nat) < v1)) (h1 : (v0 ≤ (v1 - (1 : Nat)))) : ((v0 + (1 : Nat)) ≤ v1) := by exact Nat.add_le_of_le_sub h0 h1
theorem om396 {v0 v1 : Nat} (h0 : (v0 < v1)) (h1 : (v1 ≤ v0)) : False := by lia
theorem om397 {v0 : Nat} (h0 : (((2 : Nat) * (v0 + (1 : Nat))) ≤ (1 : Nat))) : False := by lia
theorem om398 {v0 v1 : Nat} (h0 : (((2 : Nat) * (v0 + (1 : Nat))) ≤ ((2 : Nat) * (v1 + (1 : Nat))))) : (v0 ≤ v1) := by lia
theorem om399 {v0 v1 v2 v3 : Nat} {v4 : Prop} (h0 : (¬ (((- ((v0 : Nat) : Int)) < (- ((v1 : Nat) : Int))) ∨ (((- ((v0 : Nat) : Int)) = (- ((v1 : Nat) : Int))) ∧ ((((v2 : Nat) : Int) < ((v3 : Nat) : Int)) ∨ ((((v2 : Nat) : Int) = ((v3 : Nat) : Int)) ∧ v4)))))) : (v0 ≤ v1) := by omega
theorem om400 {v0 v1 : Nat} (h0 : (v0 = v1)) : ((- ((v0 : Nat) : Int)) = (- ((v1 : Nat) : Int))) := by lia
theorem om401 {v0 v1 : Nat} (h0 : (v0 < v1)) : (((v0 : Nat) : Int) < ((v1 : Nat) : Int)) := by lia
theorem om402 {v0 : Int} (h0 : (((0 : Int) ≤ v0) ∧ (v0 < (10 : Int)))) : (¬ ((47 : Nat) = (Int.toNat ((48 : Int) + v0)))) := by lia
theorem om403 {v0 v1 : Int} (h0 : ((0 : Int) ≤ v1)) (h1 : (¬ (v0 = v1))) : (¬ ((Int.toNat ((48 : Int) + v0)) = (Int.toNat ((48 : Int) + v1)))) := by grind
theorem om404 : ((8 : Nat) ≤ (9 : Nat)) := by lia
theorem om405 {v0 v1 : Nat} (h0 : (v0 = v1)) (h1 : (v1 ≤ (100 : Nat))) : (¬ (((2 : Int) ^ (63 : Nat)) ≤ ((v0 : Nat) : Int))) := by lia
theorem om406 : ((1 : Nat) ≤ (200 : Nat)) := by lia
theorem om407 {v0 : Nat} (h0 : (v0 ≤ (100 : Nat))) : (((2 : Nat) * v0) ≤ (200 : Nat)) := by lia
theorem om408 {v0 : Nat} (h0 : ((0 : Nat) = v0)) (h1 : ((1 : Nat) ≤ v0)) : False := by lia
theorem om409 {v0 : Nat} (h0 : (v0 ≤ (200 : Nat))) : (v0 ≤ (16777216 : Nat)) := by lia
theorem om410 {v0 v1 : Nat} (h0 : (v1 ≤ (200 : Nat))) (h1 : (v0 ≤ (v1 + (1 : Nat)))) : ((v0 + (1 : Nat)) ≤ (16777216 : Nat)) := by lia
theorem om411 : (¬ (((0 : Nat) + (1 : Nat)) = (0 : Nat))) := by lia
theorem om412 {v0 : Nat} : (¬ ((v0 + (1 : Nat)) = (0 : Nat))) := by lia
theorem om413 {v0 : Nat} (h0 : (v0 ≤ (100 : Nat))) : ((v0 + (1 : Nat)) ≤ (16777216 : Nat)) := by lia
theorem om414 {v0 : Int} (h0 : (((0 : Int) ≤ v0) ∧ (v0 < (10 : Int)))) : (¬ ((Int.toNat ((48 : Int) + v0)) = (46 : Nat))) := by lia
theorem om415 {v0 v1 : Nat} (h0 : ((v0 + ((8 : Nat) * (9 : Nat))) < v1)) : (((v0 + (3 : Nat)) + (10 : Nat)) < v1) := by lia
theorem om416 {v0 v1 v2 : Nat} (h0 : (v0 = (1 : Nat))) (h1 : (v1 ≤ (((2 : Nat) * v2) + (1 : Nat)))) (h2 : (v2 ≤ (100 : Nat))) : ((v0 + v1) ≤ (16777216 : Nat)) := by lia
theorem om417 {v0 v1 : Nat} (h0 : (v0 < v1)) (h1 : (v1 ≤ (16384 : Nat))) : (v0 < ((2 : Nat) ^ (63 : Nat))) := by lia
theorem om418 {v0 : Nat} (h0 : ((0 : Int) < ((v0 : Nat) : Int))) : ((0 : Nat) < v0) := by lia
theorem om419 {v0 : Nat} (h0 : ((0 : Int) < ((v0 : Nat) : Int))) : ((0 : Int) ≤ (((v0 : Nat) : Int) - (1 : Int))) := by lia
theorem om420 {v0 v1 v2 : Nat} (h0 : (v0 < v1)) (h1 : (v1 = v2)) (h2 : (v2 ≤ (16384 : Nat))) : (((v0 - (1 : Nat)) / (2 : Nat)) < ((2 : Nat) ^ (63 : Nat))) := by exact Nat.lt_of_le_of_lt (Nat.div_le_self _ _) (Nat.lt_of_le_of_lt (Nat.sub_le _ _) (Nat.lt_of_lt_of_le h0 (h1 ▸ Nat.le_trans h2 (by decide))))
theorem om421 {v0 : Nat} (h0 : ((0 : Int) < ((v0 : Nat) : Int))) : (¬ (v0 = (0 : Nat))) := by lia
theorem om422 {v0 : Nat} (h0 : ((0 : Int) < ((v0 : Nat) : Int))) : (((v0 - (1 : Nat)) / (2 : Nat)) < v0) := by exact Nat.lt_of_le_of_lt (Nat.div_le_self _ _) (Nat.sub_lt (Int.ofNat_lt.mp h0) Nat.one_pos)
theorem om423 {v0 : Nat} (h0 : (v0 ≤ (16000 : Nat))) : (v0 ≤ (16777216 : Nat)) := by lia
theorem om424 {v0 : Nat} (h0 : (v0 ≤ (16000 : Nat))) : (v0 ≤ (16384 : Nat)) := by lia
theorem om425 {v0 v1 : Nat} (h0 : (v0 = (v1 + (1 : Nat)))) : ((0 : Nat) < v0) := by exact Nat.lt_of_sub_eq_succ h0
theorem om426 {v0 v1 v2 : Nat} (h0 : ((((((2 : Nat) * v0) + (1 : Nat)) : Nat) : Int) < ((v2 : Nat) : Int))) (h1 : (v1 = v2)) : ((((2 : Nat) * v0) + (1 : Nat)) < v1) := by lia
theorem om427 {v0 v1 v2 : Nat} (h0 : (((((((2 : Nat) * v0) + (1 : Nat)) : Nat) : Int) + (1 : Int)) < ((v2 : Nat) : Int))) (h1 : (v1 = v2)) : ((((2 : Nat) * v0) + (2 : Nat)) < v1) := by lia
theorem om428 {v0 v1 : Nat} (h0 : (((((((2 : Nat) * v1) + (1 : Nat)) : Nat) : Int) + (1 : Int)) < ((v0 : Nat) : Int))) : ((v0 - (((2 : Nat) * v1) + (1 : Nat))) < (v0 - v1)) := by exact om92 (Int.ofNat_lt.mp (Int.lt_trans (Int.lt_succ _) h0))
theorem om429 {v0 v1 : Nat} (h0 : (((((((2 : Nat) * v0) + (1 : Nat)) : Nat) : Int) + (1 : Int)) < ((v1 : Nat) : Int))) : ((((2 : Nat) * v0) + (1 : Nat)) < v1) := by lia
theorem om430 {v0 v1 : Nat} (h0 : (((((((2 : Nat) * v1) + (1 : Nat)) : Nat) : Int) + (1 : Int)) < ((v0 : Nat) : Int))) : ((v0 - (((2 : Nat) * v1) + (2 : Nat))) < (v0 - v1)) := by exact om303 (Int.ofNat_lt.mp (Int.lt_trans (Int.lt_succ _) h0))
theorem om431 {v0 v1 : Nat} (h0 : (((((((2 : Nat) * v0) + (1 : Nat)) : Nat) : Int) + (1 : Int)) < ((v1 : Nat) : Int))) : ((((2 : Nat) * v0) + (2 : Nat)) < v1) := by lia
theorem om432 {v0 v1 v2 : Nat} (h0 : (v0 = v2)) (h1 : (¬ (((((((2 : Nat) * v1) + (1 : Nat)) : Nat) : Int) + (1 : Int)) < ((v2 : Nat) : Int)))) : (v0 ≤ (((2 : Nat) * v1) + (2 : Nat))) := by lia
theorem om433 {v0 v1 : Nat} (h0 : ((((((2 : Nat) * v0) + (1 : Nat)) : Nat) : Int) < ((v1 : Nat) : Int))) (h1 : (v1 ≤ (16000 : Nat))) : ((((2 : Nat) * v0) + (1 : Nat)) < ((2 : Nat) ^ (63 : Nat))) := by lia
theorem om434 {v0 v1 : Nat} (h0 : ((((((2 : Nat) * v0) + (1 : Nat)) : Nat) : Int) < ((v1 : Nat) : Int))) (h1 : (v1 ≤ (16000 : Nat))) : (v0 < ((2 : Nat) ^ (63 : Nat))) := by exact Nat.lt_of_lt_of_le (Nat.lt_of_le_of_lt (Nat.le_succ_of_le (Nat.le_mul_of_pos_left v0 (by decide))) (Int.ofNat_lt.mp h0)) (Nat.le_trans h1 (by decide))
theorem om435 {v0 v1 v2 : Nat} (h0 : ((((((2 : Nat) * v0) + (1 : Nat)) : Nat) : Int) < ((v2 : Nat) : Int))) (h1 : (v1 = v2)) : (v0 < v1) := by lia
theorem om436 {v0 v1 : Nat} (h0 : ((((((2 : Nat) * v1) + (1 : Nat)) : Nat) : Int) < ((v0 : Nat) : Int))) : ((v0 - (((2 : Nat) * v1) + (1 : Nat))) < (v0 - v1)) := by exact om92 (Int.ofNat_lt.mp h0)
theorem om437 {v0 v1 : Nat} (h0 : ((((((2 : Nat) * v0) + (1 : Nat)) : Nat) : Int) < ((v1 : Nat) : Int))) : ((((2 : Nat) * v0) + (1 : Nat)) < v1) := by exact Int.ofNat_lt.mp h0
theorem om438 {v0 v1 v2 : Nat} (h0 : (v1 = v2)) (h1 : (¬ ((((((2 : Nat) * v0) + (1 : Nat)) : Nat) : Int) < ((v2 : Nat) : Int)))) : (¬ ((((2 : Nat) * v0) + (1 : Nat)) < v1)) := by lia
theorem om439 {v0 v1 v2 : Nat} (h0 : (v0 < v1)) (h1 : (v1 = v2)) (h2 : (v2 ≤ (16000 : Nat))) : (v0 < ((2 : Nat) ^ (63 : Nat))) := by lia
theorem om440 {v0 v1 : Nat} (h0 : (v0 = v1)) (h1 : (v1 ≤ (16000 : Nat))) : (v0 ≤ (16384 : Nat)) := by lia
theorem om441 {v0 : Nat} (h0 : ((v0 + (2 : Nat)) ≤ (16000 : Nat))) : (v0 ≤ (16777214 : Nat)) := by lia
theorem om442 {v0 : Nat} (h0 : ((v0 + (2 : Nat)) ≤ (16000 : Nat))) : (v0 ≤ (16383 : Nat)) := by lia
theorem om443 {v0 : Nat} (h0 : ((v0 + (2 : Nat)) ≤ (16000 : Nat))) : (v0 ≤ (15999 : Nat)) := by lia
theorem om444 {v0 v1 : Nat} (h0 : (v0 = v1)) (h1 : (v1 ≤ (60 : Nat))) : (v0 ≤ (16384 : Nat)) := by lia
theorem om445 {v0 : Nat} (h0 : (v0 ≤ (60 : Nat))) : (v0 < (100000 : Nat)) := by lia
theorem om446 {v0 v1 : Nat} (h0 : ((2 : Nat) ≤ v1)) (h1 : (v0 = v1)) : ((2 : Nat) ≤ v0) := by (subst_vars; assumption)
theorem om447 {v0 v1 : Nat} (h0 : (v0 = v1)) (h1 : (v1 ≤ (60 : Nat))) : (v0 < (64 : Nat)) := by lia
theorem om448 : ((5 : Nat) ≤ (12 : Nat)) := by lia
theorem om449 {v0 : Int} (h0 : (((2 : Int) ≤ v0) ∧ (v0 ≤ (5 : Int)))) : ((0 : Int) < v0) := by lia
theorem om450 {v0 v1 v2 : Nat} (h0 : (v1 = v2)) (h1 : (v2 ≤ (60 : Nat))) : ((min v0 v1) ≤ (16777216 : Nat)) := by grind
theorem om451 {v0 v1 v2 : Nat} (h0 : (v1 < v2)) (h1 : (v2 ≤ (60 : Nat))) (h2 : (v0 ≤ v1)) : (v0 ≤ (1000 : Nat)) := by lia
theorem om452 {v0 v1 : Nat} (h0 : (v1 ≤ (60 : Nat))) (h1 : (v0 ≤ v1)) : (v0 ≤ (1000 : Nat)) := by lia
theorem om453 {v0 : Nat} (h0 : (¬ (v0 = (1 : Nat)))) : (¬ (((v0 : Nat) : Int) = (1 : Int))) := by lia
theorem om454 : ((10 : Nat) ≤ (12 : Nat)) := by lia
theorem om455 {v0 v1 : Nat} (h0 : (v1 ≤ (100 : Nat))) (h1 : (v0 ≤ v1)) : (v0 ≤ (16384 : Nat)) := by lia
theorem om456 {v0 v1 : Nat} (h0 : (v1 ≤ (100 : Nat))) : ((min v0 v1) ≤ (1000 : Nat)) := by grind
theorem om457 : ((11 : Nat) ≤ (12 : Nat)) := by lia
theorem om458 {v0 v1 v2 : Nat} (h0 : ((v0 + (1 : Nat)) = v2)) (h1 : ((v1 + (1 : Nat)) = v2)) : (v0 = v1) := by lia
theorem om459 {v0 : Nat} (h0 : (v0 ≤ (1 : Nat))) : (v0 ≤ (16 : Nat)) := by lia
theorem om460 {v0 v1 v2 : Nat} (h0 : (v0 ≤ (1 : Nat))) (h1 : (v1 ≤ v2)) : ((v0 + v1) ≤ (v2 + (1 : Nat))) := by lia
theorem om461 {v0 v1 : Nat} (h0 : (v1 ≤ (1000 : Nat))) (h1 : (v0 ≤ v1)) : ((v0 + v1) ≤ (1048576 : Nat)) := by lia
theorem om462 {v0 v1 v2 v3 v4 : Nat} (h0 : (v0 ≤ (((v1 + v3) + v4) + ((2 : Nat) * v2)))) (h1 : (v3 ≤ (1 : Nat))) (h2 : (v4 ≤ (1 : Nat))) : (v0 ≤ (v1 + ((2 : Nat) * (v2 + (1 : Nat))))) := by lia
theorem om463 {v0 v1 : Nat} (h0 : (v0 ≤ (1 : Nat))) : ((v0 + ((2 : Nat) * v1)) ≤ (((2 : Nat) * (v1 + (1 : Nat))) + (1 : Nat))) := by lia
theorem om464 {v0 v1 v2 : Nat} (h0 : (v0 = (1 : Nat))) (h1 : (v1 ≤ (((2 : Nat) * v2) + (1 : Nat)))) (h2 : (v2 ≤ (1000 : Nat))) : ((v0 + v1) ≤ (16777216 : Nat)) := by lia
theorem om465 {v0 : Int} (h0 : ((0 : Int) ≤ v0)) : (¬ (v0 < (0 : Int))) := by lia
theorem om466 {v0 : Int} {v1 : Nat} : ((max (0 : Int) (min v0 ((v1 : Nat) : Int))) = (((min (Int.toNat v0) v1) : Nat) : Int)) := by cases v0 with | ofNat n => exact (congrArg (max 0) (Lean.Omega.Int.ofNat_min n v1).symm).trans (Int.max_eq_right (Int.natCast_nonneg _)) | negSucc n => exact (congrArg (max 0) (Int.min_eq_left (Int.le_trans (Int.le_of_lt (Int.negSucc_lt_zero n)) (Int.natCast_nonneg v1)))).trans (Int.max_eq_left (Int.le_of_lt (Int.negSucc_lt_zero n)) |>.trans (congrArg Nat.cast (Nat.zero_min v1).symm))
theorem om467 {v0 : Nat} : (((((0 : Nat) + (1 : Nat)) + (1 : Nat)) + ((2 : Nat) * v0)) = ((2 : Nat) * (v0 + (1 : Nat)))) := by lia
theorem om468 {v0 : Int} (h0 : ((0 : Int) ≤ v0)) : (¬ ((Int.toNat ((48 : Int) + v0)) = (47 : Nat))) := by lia
theorem om469 {v0 : Int} (h0 : (((0 : Int) ≤ v0) ∧ (v0 < (10 : Int)))) : (¬ ((Int.toNat ((48 : Int) + v0)) = (47 : Nat))) := by lia
theorem om470 {v0 : Int} (h0 : ((1 : Int) ≤ v0)) : ((0 : Int) ≤ v0) := by lia
theorem om471 {v0 : Int} (h0 : ((1 : Int) ≤ v0)) : ((0 : Int) < v0) := by (subst_vars; assumption)
theorem om472 {v0 v1 v2 : Int} (h0 : ((0 : Int) ≤ v2)) (h1 : (v1 < ((2 : Int) ^ (20 : Nat)))) (h2 : (v0 < ((2 : Int) ^ (40 : Nat)))) (h3 : (v2 ≤ ((v0 + v1) - (1 : Int)))) : (((((((- ((2 : Int) ^ (63 : Nat))) ≤ (0 : Int)) ∧ ((0 : Int) < ((2 : Int) ^ (63 : Nat)))) ∧ (((- ((2 : Int) ^ (63 : Nat))) ≤ v0) ∧ (v0 < ((2 : Int) ^ (63 : Nat))))) ∧ (((- ((2 : Int) ^ (63 : Nat))) ≤ v1) ∧ (v1 < ((2 : Int) ^ (63 : Nat))))) ∧ (((- ((2 : Int) ^ (63 : Nat))) ≤ v2) ∧ (v2 < ((2 : Int) ^ (63 : Nat))))) ∧ ((v2 = (0 : Int)) ∨ (((- ((2 : Int) ^ (63 : Nat))) ≤ (v0 + (v1 - (1 : Int)))) ∧ ((v0 + (v1 - (1 : Int))) < ((2 : Int) ^ (63 : Nat)))))) := by lia
theorem om473 {v0 : Int} {v1 : Nat} : (((v0 + ((v1 : Nat) : Int)) - (1 : Int)) = ((((v1 : Nat) : Int) - (1 : Int)) + v0)) := by lia
theorem om474 {v0 : Nat} (h0 : ((1 : Nat) ≤ v0)) : (¬ (((v0 : Nat) : Int) = (0 : Int))) := by lia
theorem om475 {v0 : Nat} (h0 : ((1 : Nat) ≤ v0)) : ((0 : Int) ≤ (((v0 : Nat) : Int) - (1 : Int))) := by lia
theorem om476 {v0 : Nat} : ((((v0 : Nat) : Int) - (1 : Int)) < ((v0 : Nat) : Int)) := by lia
theorem om477 {v0 v1 : Nat} (h0 : (v1 = v0)) : (v0 ≤ v1) := by lia
theorem om478 {v0 v1 : Nat} (h0 : (v0 = v1)) : (v0 ≤ v1) := by lia
theorem om479 {v0 v1 v2 : Nat} (h0 : (v0 = v2)) : (v0 ≤ (v1 + v2)) := by lia
theorem om480 {v0 v1 : Nat} : (((v0 + v1) - v1) = v0) := by exact Eq.symm (Nat.eq_sub_of_add_eq rfl)
theorem om481 {v0 : Int} (h0 : ((1 : Int) ≤ v0)) (h1 : (v0 < (1000000 : Int))) : ((Int.natAbs v0) < (1073741824 : Nat)) := by grind
theorem om482 {v0 : Nat} (h0 : (v0 ≤ ((100 : Nat) * (100 : Nat)))) : (v0 ≤ (16777216 : Nat)) := by lia
theorem om483 {v0 : Int} : (((0 : Int) + v0) = v0) := by lia
theorem om486 {v0 v1 : Nat} : (((v0 + v1) - v0) = v1) := by exact Eq.symm (Nat.eq_sub_of_add_eq' rfl)
theorem om487 {v0 v1 v2 : Nat} (h0 : (v1 = v2)) (h1 : (v2 ≤ (100 : Nat))) : ((min v0 v1) ≤ (100 : Nat)) := by grind
theorem om488 {v0 : Nat} (h0 : (v0 = (1 : Nat))) : ((((1 : Nat) + v0) + (1 : Nat)) ≤ (16777216 : Nat)) := by lia
theorem om489 {v0 v1 : Nat} (h0 : (v1 = (1 : Nat))) (h1 : (v0 ≤ (100 : Nat))) : (((((2 : Nat) * v0) + v1) + (1 : Nat)) ≤ (16777216 : Nat)) := by lia
theorem om490 {v0 v1 : Nat} (h0 : (v1 ≤ (100 : Nat))) : ((min v0 v1) ≤ (16777216 : Nat)) := by grind
theorem om491 {v0 : Int} (h0 : (((2 : Int) ≤ v0) ∧ (v0 ≤ (5 : Int)))) : ((v0 = (2 : Int)) ∨ ((v0 = (3 : Int)) ∨ ((v0 = (4 : Int)) ∨ (v0 = (5 : Int))))) := by lia
theorem om492 {v0 : Nat} : ((- ((2 : Int) ^ (63 : Nat))) ≤ ((v0 : Nat) : Int)) := by exact Int.natCast_nonneg _
theorem om493 {v0 : Nat} (h0 : (v0 ≤ (16384 : Nat))) : (((v0 : Nat) : Int) < ((2 : Int) ^ (63 : Nat))) := by lia
theorem om494 {v0 v1 : Nat} (h0 : ((v0 + v1) ≤ (10000 : Nat))) : (v0 ≤ (10000 : Nat)) := by lia
theorem om495 {v0 v1 v2 : Nat} (h0 : ((v0 + v2) ≤ (10000 : Nat))) : ((v0 + (min v1 v2)) ≤ (16777216 : Nat)) := by exact Nat.le_trans (Nat.add_le_add_left (Nat.min_le_right _ _) _) (Nat.le_trans h0 (by decide))
theorem om496 {v0 : Nat} (h0 : (v0 ≤ (10000 : Nat))) : (v0 ≤ (16777216 : Nat)) := by lia
theorem om497 {v0 v1 : Int} (h0 : (((0 : Int) ≤ v0) ∧ (v0 < (10 : Int)))) (h1 : ((Int.toNat ((48 : Int) + v1)) = (Int.toNat ((48 : Int) + v0)))) (h2 : (¬ (v1 = v0))) : False := by grind
theorem om498 {v0 v1 : Int} (h0 : (((0 : Int) ≤ v1) ∧ (v1 < (10 : Int)))) (h1 : (v0 < v1)) : ((Int.toNat ((48 : Int) + v0)) < (Int.toNat ((48 : Int) + v1))) := by exact (Int.toNat_lt_toNat (show 0 < 48 + v1 from Int.add_pos_of_pos_of_nonneg (by decide) h0.1)).mpr (Int.add_lt_add_left h1 48)
theorem om499 {v0 v1 : Int} (h0 : (¬ (v0 < v1))) : (¬ ((Int.toNat ((48 : Int) + v0)) < (Int.toNat ((48 : Int) + v1)))) := by exact Nat.not_lt.mpr (Int.toNat_le_toNat (Int.add_le_add_left (Int.not_lt.mp h0) 48))
theorem om500 {v0 v1 : Int} (h0 : (v0 < v1)) : (v0 ≤ v1) := by lia
theorem om501 {v0 v1 v2 : Int} (h0 : (v0 < v2)) (h1 : (v2 < v1)) : (¬ (v0 = v1)) := by lia
theorem om502 {v0 v1 v2 : Int} (h0 : (v0 < v2)) (h1 : (v2 < v1)) : (v0 < v1) := by exact Int.lt_trans h0 h1
theorem om503 {v0 v1 : Int} (h0 : (v1 ≤ v0)) (h1 : (v0 ≤ v1)) : (v0 = v1) := by lia
theorem om504 {v0 v1 v2 : Nat} (h0 : ((v0 ≤ v1) ∧ (v0 ≤ v2))) : ((v0 ≤ v1) ∧ (v0 ≤ v2)) := by omega
theorem om505 {v0 v1 : Nat} (h0 : ((0 : Nat) < v1)) : ((min v0 (v1 - (1 : Nat))) < v1) := by exact Nat.lt_of_le_of_lt (Nat.min_le_right _ _) (Nat.sub_lt h0 Nat.one_pos)
theorem om506 {v0 v1 v2 v3 : Nat} (h0 : ((v0 ≤ v2) ∧ (v0 ≤ v3))) (h1 : (v3 = v1)) : (v0 ≤ v1) := by lia
theorem om507 {v0 v1 : Nat} (h0 : (v0 ≤ v1)) (h1 : (v1 ≤ v0)) : (v0 = v1) := by lia
section
variable {w : World} {A : Around} {s : Shared} {B : Heap} {m : Str → Option Value} {O X : Led} {env : Env}

theorem wp_noted {α : Type} {M : Model} {t : Sem α} {Q : α → Shared → Prop} {E : Value → Shared → Prop} (h : wpAny M A t Q (fun _ _ => False) s) : wpAny M A t Q E s :=
  wpAny_mono h (fun _ _ x => x) fun _ _ x => x.elim

noncomputable def Turned (s : Shared) (C : Heap) (L : Addr) (X : Led) (J : Heap → (Str → Option Value) → Led → Prop) (s' : Shared) : Prop :=
  ∃ h' tk' C' m' O', s' = { s with heap := h', toks := tk' } ∧ Kp C C' ∧ St C' L h' m' (O' ++ X) ∧ J C' m' O'

noncomputable def turnPost (s : Shared) (C : Heap) (L : Addr) (X : Led) (J : Heap → (Str → Option Value) → Led → Prop) (Q : Flow → Shared → Prop) (f : Flow) (s' : Shared) : Prop :=
  match f with
  | .next | .cont => Turned s C L X J s'
  | .brk => Q .next s'
  | .ret v => Q (.ret v) s'

theorem newest {l : List Addr} {h : Heap} (hx : ∀ b ∈ l, ∃ o, h.get? b = some o) : ∃ X : Led, X.map (·.1) = l ∧ ∀ p ∈ X, h.get? p.1 = some p.2 := by
  induction l with
  | nil => exact ⟨[], rfl, fun _ hp => by cases hp⟩
  | cons a r ih =>
    refine via fun M_ k_ => ?_
    obtain ⟨o, ho⟩ := hx a List.mem_cons_self
    refine k_ ?_
    clear k_ M_
    refine via fun M_ k_ => ?_
    obtain ⟨X, e, hX⟩ := ih fun b hb => hx b (List.mem_cons_of_mem _ hb)
    refine k_ ?_
    clear k_ M_
    refine ⟨(a, o) :: X, by rw [List.map_cons, e], fun p hp => ?_⟩
    rcases List.mem_cons.mp hp with rfl | hp
    · exact ho
    · exact hX p hp

theorem St.butX {L : Addr} {h h' : Heap} {X' : Led} (S : St B L h m (O ++ X)) (k : ∀ b x, b ∉ X.map (·.1) → h.get? b = some x → h'.get? b = some x) (e : X'.map (·.1) = X.map (·.1)) (hX : ∀ p ∈ X', h'.get? p.1 = some p.2) :
    St B L h' m (O ++ X') := by
  have nd := S.nd
  rw [List.map_append, List.nodup_append] at nd
  have off : ∀ a ∈ X.map (·.1), a ≠ L ∧ B.get? a = none := fun a ha => by
    refine via fun M_ k_ => ?_
    obtain ⟨p, hp, q⟩ := List.mem_map.mp ha
    refine k_ ?_
    clear k_ M_
    exact q ▸ (S.nw p (List.mem_append_right _ hp)).2
  refine via fun M_ k_ => ?_
  obtain ⟨oL, es, ep, hL, r⟩ := S.ns
  refine k_ ?_
  clear k_ M_
  refine ⟨⟨oL, es, ep, k _ _ (fun q => (off _ q).1 rfl) hL, r⟩, fun b x q => k b x (fun z => ?_) (S.kp b x q), S.off, fun p hp => ?_, ?_⟩
  · have := (off _ z).2; rw [q] at this; cases this
  · rcases List.mem_append.mp hp with q | q
    · have P := S.nw p (List.mem_append_left _ q)
      exact ⟨k _ _ (fun z => nd.2.2 _ (List.mem_map_of_mem q) _ z rfl) P.1, P.2⟩
    · have z : p.1 ∈ X.map (·.1) := e ▸ List.mem_map_of_mem q
      exact ⟨hX p q, off _ z⟩
  · rw [List.map_append, e, ← List.map_append]; exact S.nd

theorem leans {B C C' : Heap} {L L' : Addr} {h h' : Heap} {m m' : Str → Option Value} {P P' Y : Led} {fp : List Addr} (hfp : ∀ b ∈ fp, (∃ o, B.get? b = some o) ∨ b ∈ Y.map (·.1)) (kC : Kp B C) (kC' : Kp B C')
    (S : St C L h m (P ++ Y)) (S' : St C' L' h' m' (P' ++ Y)) : ∀ b ∈ fp, ∀ o, h.get? b = some o → h'.get? b = some o := by
  intro b hb o e
  rcases hfp b hb with ⟨o', z⟩ | z
  · have q₂ := S.kp _ _ (kC _ _ z)
    rw [q₂] at e; cases e
    exact S'.kp _ _ (kC' _ _ z)
  · refine via fun M_ k_ => ?_
    obtain ⟨p, hp, z⟩ := List.mem_map.mp z
    refine k_ ?_
    clear k_ M_
    have q₂ := (S.nw p (List.mem_append_right _ hp)).1
    have q' := (S'.nw p (List.mem_append_right _ hp)).1
    rw [z] at q₂ q'
    rw [q₂] at e; cases e; exact q'
theorem fp_in {B : Heap} {fp wr : List Addr} {X₀ X : Led} (hfp : ∀ b ∈ fp, b ∈ wr ∨ (∃ o, B.get? b = some o) ∨ b ∈ X₀.map (·.1)) (e : X.map (·.1) = wr) : ∀ b ∈ fp, (∃ o, B.get? b = some o) ∨ b ∈ (X₀ ++ X).map (·.1) := by
  intro b hb
  rw [List.map_append]
  rcases hfp b hb with z | z | z
  · exact .inr (List.mem_append_right _ (e ▸ z))
  · exact .inl z
  · exact .inr (List.mem_append_left _ z)
theorem St.ends {B : Heap} {L : Addr} {h h₁ : Heap} {m : Str → Option Value} {P X : Led} {wr : List Addr} (S : St B L h m (P ++ X)) (hXw : X.map (·.1) = wr) (hk : ∀ b o, b ∉ wr → h.get? b = some o → h₁.get? b = some o) : St B L h₁ m P := by
  have So : St B L h m P := S.drop (List.sublist_append_left _ _)
  have offX : ∀ b, b ∈ wr → b ≠ L ∧ B.get? b = none ∧ b ∉ P.map (·.1) := fun b hb => by
    rw [← hXw] at hb
    refine via fun M_ k_ => ?_
    obtain ⟨p, hp, q⟩ := List.mem_map.mp hb
    refine k_ ?_
    clear k_ M_
    have z := (S.nw p (List.mem_append_right _ hp)).2
    have nd := S.nd
    rw [List.map_append, List.nodup_append] at nd
    exact ⟨q ▸ z.1, q ▸ z.2, fun y => nd.2.2 _ y _ (List.mem_map_of_mem hp) q.symm⟩
  refine via fun M_ k_ => ?_
  obtain ⟨oL, es, ep, hL, r⟩ := So.ns
  refine k_ ?_
  clear k_ M_
  refine ⟨⟨oL, es, ep, hk _ _ (fun q => (offX _ q).1 rfl) hL, r⟩, fun b o e => hk b o (fun q => ?_) (So.kp b o e), So.off, fun p hp => ⟨hk _ _ (fun q => (offX _ q).2.2 (List.mem_map_of_mem hp)) (So.nw p hp).1, (So.nw p hp).2⟩, So.nd⟩
  have := (offX _ q).2.1; rw [e] at this; cases this

theorem for_walk {L : Addr} {x : Str} {px : Pos} {body : List Stmt} {I : Addr} {fp wr : List Addr} {n : Nat} {P : Nat → Value → Prop} {It : Nat → Heap → Prop} {R : Result → Shared → Prop} {Q : Flow → Shared → Prop}
    (J : Nat → Heap → (Str → Option Value) → Led → Prop)
    (hL : env.locals = L) (hx : env.kindOf x = some .local) (hk : env.scope.kind = .function)
    (W : Walks P0 w A I fp wr n P It) (X₀ : Led) (hfp : ∀ b ∈ fp, b ∈ wr ∨ (∃ o, B.get? b = some o) ∨ b ∈ X₀.map (·.1)) (hlive : ∀ i h, It i h → ∀ b ∈ wr, ∃ o, h.get? b = some o)
    (hit : It 0 s.heap) (S : St B L s.heap m (O ++ (X₀ ++ X))) (hXw : X.map (·.1) = wr) (hJ : J 0 B m O)
    (turn : ∀ i v C h m O X tk, i < n → P i v → Kp B C → J i C m O → St C L h (fun y => if y = x then some v else m y) (O ++ X) →
      wpAny (model P0 w) A (execs body env) (turnPost s C L X (J (i + 1)) Q) (fun _ _ => False) { s with heap := h, toks := tk })
    (done : ∀ C h m O tk, Kp B C → J n C m O → St C L h m (O ++ X₀) → Q .next { s with heap := h, toks := tk })
    (hR : ∀ f s', Q f s' → R (.ok f) s') :
    codeAny (model P0 w) A (.forLoop (.Name x px) (.ref I) body [] env) R s := by
  subst hL
  refine codeAny_forLoop_any (fun k s' => ∃ i h tk C m O X, k = n - i ∧ i ≤ n ∧ s' = { s with heap := h, toks := tk } ∧ Kp B C ∧ St C env.locals h m (O ++ (X₀ ++ X)) ∧ X.map (·.1) = wr ∧ It i h ∧ J i C m O) ?_ n
    ⟨0, s.heap, s.toks, B, m, O, X, rfl, Nat.zero_le _, rfl, kp_refl _, S, hXw, hit, hJ⟩
  intro k s' hq1_
  refine via fun M_ k_ => ?_
  obtain ⟨i, h, tk, C, m, O, X, rfl, hi, rfl, kC, S, hXw, hit, hJ⟩ := hq1_
  refine k_ ?_
  clear k_ M_
  by_cases hlt : i < n
  · refine W.item i _ _ _ hlt hit fun v h₁ tk₁ hP hit₁ hk₁ => ?_
    refine via fun M_ k_ => ?_
    obtain ⟨X₁, e₁, hX₁⟩ := newest (hlive _ _ hit₁)
    refine k_ ?_
    clear k_ M_
    have S₁ : St C env.locals h₁ m (O ++ (X₀ ++ X₁)) := by
      have := St.butX (O := O ++ X₀) (by rw [List.append_assoc]; exact S) (fun b x hb e => hk₁ b x (hXw ▸ hb) e) (e₁.trans hXw.symm) hX₁
      rw [List.append_assoc] at this; exact this
    refine wpAny_of_eq (show letOwnedTupleGo (.Name x px) (.ref I) v = pure () from rfl) ?_
    refine wpAny_assign_Name (wpAny_storeName_local hx S₁.ns (fun h₂ hn₂ hs₂ => ?_) (by rw [hk]; rfl))
    have S₂ := S₁.set hn₂ hs₂
    have hit₂ : It (i + 1) h₂ := W.frame _ _ _ hit₁ (leans (fp_in hfp e₁) kC kC S₁ S₂)
    refine wp_noted (wpAny_mono (turn i v C h₂ m O (X₀ ++ X₁) _ hlt hP kC hJ S₂) (fun f s₃ p => ?_) fun _ _ e => e)
    have fin : Turned s C env.locals (X₀ ++ X₁) (J (i + 1)) s₃ → ∃ k', k' < n - i ∧ ∃ i h tk C m O X, k' = n - i ∧ i ≤ n ∧ s₃ = { s with heap := h, toks := tk } ∧ Kp B C ∧ St C env.locals h m (O ++ (X₀ ++ X)) ∧ X.map (·.1) = wr ∧ It i h ∧ J i C m O := by
      intro hq2_
      refine via fun M_ k_ => ?_
      obtain ⟨h', tk', C', m', O', rfl, kC', S', hJ'⟩ := hq2_
      refine k_ ?_
      clear k_ M_
      exact ⟨n - (i + 1), by exact om33 hlt, i + 1, h', tk', C', m', O', X₁, rfl, hlt, rfl, kC.trans kC', S', e₁, W.frame _ _ _ hit₂ (leans (fp_in hfp e₁) kC (kC.trans kC') S₂ S'), hJ'⟩
    cases f with
    | next => exact fin p
    | cont => exact fin p
    | brk => exact hR _ _ p
    | ret v => exact hR _ _ p
  · have hin : i = n := by exact om17 hi hlt
    subst hin
    refine W.done _ _ _ hit fun h₁ tk₁ hk₁ => ?_
    exact wpAny_execs_nil (hR _ _ (done C h₁ m O tk₁ kC hJ (St.ends (X := X) (by rw [List.append_assoc]; exact S) hXw hk₁)))

theorem while_inv {L : Addr} {test : Expr} {body : List Stmt} {R : Result → Shared → Prop} {Q : Flow → Shared → Prop} (J : Nat → Heap → (Str → Option Value) → Led → Prop) (n : Nat) (hL : env.locals = L)
    (S : St B L s.heap m (O ++ X)) (hJ : J n B m O)
    (turn : ∀ k C h m O tk, Kp B C → J k C m O → St C L h m (O ++ X) →
      wpAny (model P0 w) A (isTrue test env (eval test env)) (fun b s₂ =>
        if b then wpAny (model P0 w) A (execs body env) (turnPost s C L X (fun C m O => ∃ k', k' < k ∧ J k' C m O) Q) (fun _ _ => False) s₂ else Q .next s₂) (fun _ _ => False) { s with heap := h, toks := tk })
    (hR : ∀ f s', Q f s' → R (.ok f) s') :
    codeAny (model P0 w) A (.whileLoop test body [] env) R s := by
  subst hL
  refine codeAny_whileLoop (fun k s' => ∃ h tk C m O, s' = { s with heap := h, toks := tk } ∧ Kp B C ∧ St C env.locals h m (O ++ X) ∧ J k C m O) ?_ n
    ⟨s.heap, s.toks, B, m, O, rfl, kp_refl _, S, hJ⟩
  intro k s' hq3_
  refine via fun M_ k_ => ?_
  obtain ⟨h, tk, C, m, O, rfl, kC, S, hJ⟩ := hq3_
  refine k_ ?_
  clear k_ M_
  refine wpAny_mono (turn k C h m O tk kC hJ S) (fun b s₂ p => ?_) fun _ _ x => x.elim
  cases b with
  | false => exact wpAny_execs_nil (hR _ _ p)
  | true =>
    refine wp_noted (wpAny_mono p (fun f s₃ q => ?_) fun _ _ e => e)
    have fin : Turned s C env.locals X (fun C m O => ∃ k', k' < k ∧ J k' C m O) s₃ → ∃ k', k' < k ∧ ∃ h tk C m O, s₃ = { s with heap := h, toks := tk } ∧ Kp B C ∧ St C env.locals h m (O ++ X) ∧ J k' C m O := by
      intro hq4_
      refine via fun M_ k_ => ?_
      obtain ⟨h', tk', C', m', O', rfl, kC', S', k', hk', hJ'⟩ := hq4_
      refine k_ ?_
      clear k_ M_
      exact ⟨k', hk', h', tk', C', m', O', rfl, kC.trans kC', S', hJ'⟩
    cases f with
    | next => exact fin q
    | cont => exact fin q
    | brk => exact hR _ _ q
    | ret v => exact hR _ _ q
end
section
variable {w : World} {A : Around} {s : Shared} {B : Heap} {m : Str → Option Value} {O X : Led} {env : Env}

noncomputable def Elt (s : Shared) (C : Heap) (L : Addr) (D : Addr) (e : Nat) (acc : List Value) (X : Led) (J : Heap → Led → Prop) (s' : Shared) : Prop :=
  ∃ h' tk' C' m' O', s' = { s with heap := h', toks := tk' } ∧ Kp C C' ∧ St C' L h' m' ((D, lobj acc e) :: (O' ++ X)) ∧ J C' O'

theorem tests_nil {cenv : Env} {Q : Bool → Shared → Prop} {E : Value → Shared → Prop} (h : Q true s) :
    wpAny (model P0 w) A (forIn ([] : List Expr) true fun c r => if r = true then do let ok ← isTrue c cenv (eval c cenv); pure (ForInStep.yield ok) else pure (ForInStep.yield r)) Q E s := wpAny_pure h
theorem tests_one {cenv : Env} {c : Expr} {Q : Bool → Shared → Prop} {E : Value → Shared → Prop} (h : wpAny (model P0 w) A (isTrue c cenv (eval c cenv)) Q E s) :
    wpAny (model P0 w) A (forIn [c] true fun c r => if r = true then do let ok ← isTrue c cenv (eval c cenv); pure (ForInStep.yield ok) else pure (ForInStep.yield r)) Q E s := by
  rw [List.forIn_cons]
  refine wpAny_bind ?_
  rw [if_pos rfl]
  refine wpAny_bind (wpAny_mono h (fun b s' q => ?_) fun _ _ x => x)
  exact wpAny_pure (wpAny_pure q)

theorem lcomp_loop {elt target iter : Expr} {ifs : List Expr} {scope : Scope} {pos : Pos} {I D : Addr} {fp wr : List Addr} {n : Nat} {P : Nat → Value → Prop} {It : Nat → Heap → Prop} {R : Result → Shared → Prop} {cenv : Env} {e₀ : Nat}
    (J : Nat → Heap → Led → List Value → Prop)
    (W : Walks P0 w A I fp wr n P It) (X₀ : Led) (hfp : ∀ b ∈ fp, b ∈ wr ∨ (∃ o, B.get? b = some o) ∨ b ∈ X₀.map (·.1)) (hlive : ∀ i h, It i h → ∀ b ∈ wr, ∃ o, h.get? b = some o)
    (hit : It 0 s.heap) (S : St B cenv.locals s.heap m ((D, lobj [] e₀) :: (O ++ (X₀ ++ X)))) (hXw : X.map (·.1) = wr) (hJ : J 0 B O []) (hsz : n ≤ sizeLine)
    (ht : ∀ v, letOwnedTupleGo target (.ref I) v = pure ())
    (turn : ∀ i v C h m O X e acc tk, i < n → P i v → Kp B C → J i C O acc → St C cenv.locals h m ((D, lobj acc e) :: (O ++ X)) →
      wpAny (model P0 w) A (assign target cenv v) (fun _ s₂ => wpAny (model P0 w) A (forIn ifs true fun c r => if r = true then do let ok ← isTrue c cenv (eval c cenv); pure (ForInStep.yield ok) else pure (ForInStep.yield r))
        (fun ok s₃ => if ok = true then wpAny (model P0 w) A (eval elt cenv) (fun y s₄ => Elt s C cenv.locals D e acc X (fun C' O' => J (i + 1) C' O' (acc ++ [y])) s₄) (fun _ _ => False) s₃
          else Elt s C cenv.locals D e acc X (fun C' O' => J (i + 1) C' O' acc) s₃) (fun _ _ => False) s₂) (fun _ _ => False) { s with heap := h, toks := tk })
    (done : ∀ C h m O acc e tk, Kp B C → J n C O acc → St C cenv.locals h m ((D, lobj acc e) :: (O ++ X₀)) → R (.ok .next) { s with heap := h, toks := tk }) :
    codeAny (model P0 w) A (.compLoop (.ListComp elt [⟨target, iter, ifs, 0⟩] scope pos) 0 (.ref I) (.ref D) cenv) R s := by
  refine codeAny_compLoop_tests (fun k s' => ∃ i h tk C m O X e acc, k = n + 1 - i ∧ i ≤ n ∧ acc.length ≤ i ∧ s' = { s with heap := h, toks := tk } ∧ Kp B C ∧ St C cenv.locals h m ((D, lobj acc e) :: (O ++ (X₀ ++ X))) ∧ X.map (·.1) = wr ∧ It i h ∧ J i C O acc) ?_ (n + 1)
    ⟨0, s.heap, s.toks, B, m, O, X, e₀, [], rfl, Nat.zero_le _, Nat.le_refl _, rfl, kp_refl _, S, hXw, hit, hJ⟩ ht
  intro k s' hq5_
  refine via fun M_ k_ => ?_
  obtain ⟨i, h, tk, C, m, O, X, e, acc, rfl, hi, hal, rfl, kC, S, hXw, hit, hJ⟩ := hq5_
  refine k_ ?_
  clear k_ M_
  by_cases hlt : i < n
  · refine W.item i _ _ _ hlt hit fun v h₁ tk₁ hP hit₁ hk₁ => ?_
    refine via fun M_ k_ => ?_
    obtain ⟨X₁, e₁, hX₁⟩ := newest (hlive _ _ hit₁)
    refine k_ ?_
    clear k_ M_
    have S₁ : St C cenv.locals h₁ m ((D, lobj acc e) :: (O ++ (X₀ ++ X₁))) := by
      have := St.butX (O := (D, lobj acc e) :: (O ++ X₀)) (by rw [List.cons_append, List.append_assoc]; exact S) (fun b x hb e => hk₁ b x (hXw ▸ hb) e) (e₁.trans hXw.symm) hX₁
      rw [List.cons_append, List.append_assoc] at this; exact this
    have keepIt : ∀ {C' h' m' acc' e'} {O' : Led}, Kp C C' → St C' cenv.locals h' m' ((D, lobj acc' e') :: (O' ++ (X₀ ++ X₁))) → It (i + 1) h' := fun {C' h' m' acc' e' O'} kC' S' =>
      W.frame _ _ _ hit₁ (leans (P := (D, lobj acc e) :: O) (P' := (D, lobj acc' e') :: O') (fp_in hfp e₁) kC (kC.trans kC') S₁ S')
    refine wp_noted (wpAny_mono (turn i v C h₁ m O (X₀ ++ X₁) e acc tk₁ hlt hP kC hJ S₁) (fun _ s₂ p₂ => ?_) fun _ _ x => x)
    refine wp_noted (wpAny_mono p₂ (fun ok s₃ p₃ => ?_) fun _ _ x => x)
    cases ok with
    | false =>
      refine via fun M_ k_ => ?_
      obtain ⟨h', tk', C', m', O', rfl, kC', S', hJ'⟩ := p₃
      refine k_ ?_
      clear k_ M_
      rw [if_neg Bool.false_ne_true]
      exact ⟨n + 1 - (i + 1), by exact om80 hlt, i + 1, h', tk', C', m', O', X₁, e, acc, rfl, hlt, by exact om5 hal, rfl, kC.trans kC', S', e₁, keepIt kC' S', hJ'⟩
    | true =>
      rw [if_pos rfl] at p₃ ⊢
      refine wp_noted (wpAny_mono p₃ (fun y s₄ p₄ => ?_) fun _ _ x => x)
      refine via fun M_ k_ => ?_
      obtain ⟨h', tk', C', m', O', rfl, kC', S', hJ'⟩ := p₄
      refine k_ ?_
      clear k_ M_
      have hD := S'.get (.head _)
      refine wpAny_list_append_plain (items := acc.toArray) ⟨e, hD⟩ (fun h₅ hl₅ hs₅ => ?_) (hsz := by rw [List.size_toArray]; exact om266 hlt hsz hal)
      refine via fun M_ k_ => ?_
      obtain ⟨e', hl₅⟩ := hl₅
      refine k_ ?_
      clear k_ M_
      have hl₅' : h₅.get? D = some (lobj (acc ++ [y]) e') := by rw [hl₅]; simp [lobj]
      have S₅ : St C' cenv.locals h₅ m' ((D, lobj (acc ++ [y]) e') :: (O' ++ (X₀ ++ X₁))) := St.sameBut (O₁ := []) S' hs₅ hl₅'
      exact ⟨n + 1 - (i + 1), by exact om80 hlt, i + 1, h₅, tk', C', m', O', X₁, e', acc ++ [y], rfl, hlt, by rw [List.length_append, List.length_singleton]; exact om34 hal, rfl, kC.trans kC', S₅, e₁, keepIt kC' S₅, hJ'⟩
  · have hin : i = n := by exact om17 hi hlt
    subst hin
    refine W.done _ _ _ hit fun h₁ tk₁ hk₁ => ?_
    exact done C h₁ m O acc e tk₁ kC hJ (St.ends (P := (D, lobj acc e) :: (O ++ X₀)) (X := X) (by rw [List.cons_append, List.append_assoc]; exact S) hXw hk₁)
end
section
variable {w : World} {A : Around} {s : Shared} {B : Heap} {m : Str → Option Value} {O X : Led} {env : Env}

noncomputable def CompAt (w : World) (A : Around) (env : Env) (e : Expr) (scope : Scope) (cl : List (Str × Addr)) (use : Option (Value → Sem Unit)) (newAcc : Sem Value) (Q E : Value → Shared → Prop) (it : Value) (s₂ : Shared) : Prop :=
  wpAny (model P0 w) A newAcc (fun acc s₃ => wpAny (model P0 w) A (newFunctionEnv scope env.globals cl [] env.qual none .none (some env)) (fun cenv s₄ =>
    codeAny (model P0 w) A (.compStart e 0 it acc { cenv with scope := relabel scope env }) (compPost (model P0 w) A E use Q acc cenv.locals) s₄) E s₃) E s₂

theorem lcomp_eval {elt target iter : Expr} {ifs : List Expr} {rest : List Comprehension} {scope : Scope} {pos : Pos} {cl : List (Str × Addr)} {Q E : Value → Shared → Prop}
    (hclos : closureFor scope env = pure cl) (hkind : scope.kind = .function) (hnames : ∀ y ∈ scope.names, y.2 = .local → scope.names.lookup y.1 = some .local) (hs : ∀ x, foldedSetIterable iter env x = pure x)
    (h : wpAny (model P0 w) A (eval iter env) (fun xv s₁ => wpAny (model P0 w) A (pyIter xv) (fun it s₂ => CompAt w A env (.ListComp elt (⟨target, iter, ifs, 0⟩ :: rest) scope pos) scope cl none (newList []) Q E it s₂) E s₁) E s) :
    wpAny (model P0 w) A (eval (.ListComp elt (⟨target, iter, ifs, 0⟩ :: rest) scope pos) env) Q E s := by
  rw [eval_ListComp]
  exact wpAny_comprehension_free (use := none) rfl hs hclos hkind hnames h

theorem scomp_eval {elt target iter : Expr} {ifs : List Expr} {rest : List Comprehension} {scope : Scope} {pos : Pos} {cl : List (Str × Addr)} {Q E : Value → Shared → Prop}
    (hclos : closureFor scope env = pure cl) (hkind : scope.kind = .function) (hnames : ∀ y ∈ scope.names, y.2 = .local → scope.names.lookup y.1 = some .local) (hs : ∀ x, foldedSetIterable iter env x = pure x)
    (h : wpAny (model P0 w) A (eval iter env) (fun xv s₁ => wpAny (model P0 w) A (pyIter xv) (fun it s₂ => CompAt w A env (.SetComp elt (⟨target, iter, ifs, 0⟩ :: rest) scope pos) scope cl none (newSet (.type "set")) Q E it s₂) E s₁) E s) :
    wpAny (model P0 w) A (eval (.SetComp elt (⟨target, iter, ifs, 0⟩ :: rest) scope pos) env) Q E s := by
  rw [arm_eval_SetComp]
  exact wpAny_comprehension_free (use := none) rfl hs hclos hkind hnames h

theorem lcomp_assign {elt target iter : Expr} {ifs : List Expr} {rest : List Comprehension} {scope : Scope} {pos py spos : Pos} {y : Str} {cl : List (Str × Addr)} {Q : Flow → Shared → Prop} {E : Value → Shared → Prop}
    (hsw : swapsWith (.ListComp elt (⟨target, iter, ifs, 0⟩ :: rest) scope pos) (some (.Name y py)) spos.line env = pure true)
    (hclos : closureFor scope env = pure cl) (hkind : scope.kind = .function) (hnames : ∀ y ∈ scope.names, y.2 = .local → scope.names.lookup y.1 = some .local) (hs : ∀ x, foldedSetIterable iter env x = pure x)
    (h : wpAny (model P0 w) A (eval iter env) (fun xv s₁ => wpAny (model P0 w) A (pyIter xv) (fun it s₂ => CompAt w A env (.ListComp elt (⟨target, iter, ifs, 0⟩ :: rest) scope pos) scope cl (some (assign (.Name y py) env)) (newList []) (fun _ => Q .next) E it s₂) E s₁) E s) :
    wpAny (model P0 w) A (exec (.Assign [.Name y py] (.ListComp elt (⟨target, iter, ifs, 0⟩ :: rest) scope pos) spos) env) Q E s := by
  rw [exec_Assign_Name_used _ _ _ _ hsw]
  refine wpAny_bind (wpAny_standAt (wpAny_bind ?_))
  show wpAny _ _ (comprehension _ _ _ _ _ _ _ (some (assign (.Name y py) env)) >>= _) _ _ _
  exact wpAny_bind (wpAny_mono (wpAny_comprehension_free (use := some (assign (.Name y py) env)) rfl hs hclos hkind hnames h) (fun _ _ q => wpAny_pure (wpAny_pure q)) fun _ _ x => x)

theorem St.back {C : Heap} {L Cl : Addr} {h h' : Heap} {mc : Str → Option Value} {P : Led} {oL : Obj} (S : St C Cl h mc (P ++ [(L, oL)])) (hns : ∀ h : Heap, h.get? L = some oL → h.Ns L m) (hs : Heap.SameBut Cl h h') : St C L h' m P := by
  have k : ∀ b x, b ≠ Cl → h.get? b = some x → h'.get? b = some x := fun b x hb e => (hs.2 b hb).trans e
  have PL := S.nw (L, oL) (by simp)
  have nd := S.nd
  rw [List.map_append, List.nodup_append] at nd
  refine ⟨hns h' (k _ _ PL.2.1 PL.1), fun b x e => k b x (fun q => ?_) (S.kp b x e), PL.2.2, fun p hp => ?_, nd.1⟩
  · have := S.off; rw [← q, e] at this; cases this
  · have Pp := S.nw p (List.mem_append_left _ hp)
    exact ⟨k _ _ Pp.2.1 Pp.1, fun q => nd.2.2 p.1 (List.mem_map_of_mem hp) L (by simp) q, Pp.2.2⟩

theorem St.inner {L : Addr} {h h₂ : Heap} {P : Led} (S : St B L h m P) (hn : h₂.Ns h.objs.size fun _ => none) (hs : Heap.SameBut h.objs.size (h.push { cls := .type "dict", data := .dict #[] }) h₂) :
    ∃ oL, (∀ h : Heap, h.get? L = some oL → h.Ns L m) ∧ St B h.objs.size h₂ (fun _ => none) (P ++ [(L, oL)]) := by
  obtain ⟨oL, es, ep, hL, r⟩ := S.ns
  have fr := S.fresh
  have k : Kp h h₂ := fun b o e => (hs.2 b (Nat.ne_of_lt (Heap.lt_size e))).trans (Heap.get?_push_of_some _ e)
  refine ⟨oL, fun h' e => ⟨oL, es, ep, e, r⟩, hn, S.kp.trans k, fr.1, fun p hp => ?_, ?_⟩
  · rcases List.mem_append.mp hp with q | q
    · have Pp := S.nw p q
      exact ⟨k _ _ Pp.1, Nat.ne_of_lt (Heap.lt_size Pp.1), Pp.2.2⟩
    · rw [List.mem_singleton.mp q]
      exact ⟨k _ _ hL, Nat.ne_of_lt (Heap.lt_size hL), S.off⟩
  · rw [List.map_append, List.nodup_append]
    refine ⟨S.nd, by simp, fun a ha b hb => ?_⟩
    simp only [List.map_cons, List.map_nil, List.mem_singleton] at hb
    obtain ⟨p, hp, q⟩ := List.mem_map.mp ha
    rw [hb, ← q]; exact (S.nw p hp).2.1

theorem comp_env0 {scope : Scope} {cl : List (Str × Addr)} {Q : Env → Shared → Prop} {E : Value → Shared → Prop} {L : Addr} {P : Led} (S : St B L s.heap m P) (hk : scope.kind = .function) (hcell : ∀ y ∈ scope.names, y.2 ≠ .cell)
    (h : ∀ h₂ oL, (∀ h : Heap, h.get? L = some oL → h.Ns L m) → St B s.heap.objs.size h₂ (fun _ => none) (P ++ [(L, oL)]) →
      Q (newEnv scope s.heap.objs.size env.globals cl env.qual none .none (some env) builtinsNs) { s with heap := h₂, toks := s.toks }) :
    wpAny (model P0 w) A (newFunctionEnv scope env.globals cl [] env.qual none .none (some env)) Q E s := by
  refine wpAny_newFunctionEnv hcell (by intro y hy; cases hy) (fun h₂ hn hs => ?_) hk
  obtain ⟨oL, hoL, S₂⟩ := S.inner hn hs
  exact h h₂ oL hoL S₂

theorem comp_env1 {scope : Scope} {cl : List (Str × Addr)} {x : Str} {Q : Env → Shared → Prop} {E : Value → Shared → Prop} {L : Addr} {P : Led} (S : St B L s.heap m P) (hk : scope.kind = .function)
    (hcf : ∀ n, cellsFrom n scope.names cl = (x, n) :: cl) (hpc : ∀ h, pushCells h scope.names = h.push (cobj none))
    (h : ∀ h₂ oL c, (∀ h : Heap, h.get? L = some oL → h.Ns L m) → St B s.heap.objs.size h₂ (fun _ => none) ((c, cobj none) :: (P ++ [(L, oL)])) →
      Q (newEnv scope s.heap.objs.size env.globals ((x, c) :: cl) env.qual none .none (some env) builtinsNs) { s with heap := h₂, toks := s.toks }) :
    wpAny (model P0 w) A (newFunctionEnv scope env.globals cl [] env.qual none .none (some env)) Q E s := by
  simp only [newFunctionEnv, Option.isSome_some, if_true]
  refine wpAny_bind (wpAny_alloc ?_)
  refine wpAny_bind (wpAny_layCells _ (fun name kind cells => by cases hkc : kind == NameKind.cell <;> simp [hkc]) _ _ _ _ ?_)
  rw [hcf, hpc]
  refine wpAny_bind ?_
  rw [List.forIn_nil]
  refine wpAny_pure (wpAny_pure ?_)
  obtain ⟨oL, hoL, S₂⟩ := S.inner (h₂ := s.heap.push { cls := .type "dict", data := .dict #[] }) (Heap.Ns.new _ _) (.refl ..)
  exact h _ oL _ hoL (S₂.push (cobj none) rfl)

theorem lcomp_at0 {elt target iter : Expr} {ifs : List Expr} {scope : Scope} {pos : Pos} {cl : List (Str × Addr)} {I : Addr} {fp wr : List Addr} {n : Nat} {P : Nat → Value → Prop} {It : Nat → Heap → Prop} {use : Option (Value → Sem Unit)} {Q E : Value → Shared → Prop}
    (J : Nat → Heap → Led → List Value → Prop) (hk : scope.kind = .function) (hcell : ∀ y ∈ scope.names, y.2 ≠ .cell)
    (W : Walks P0 w A I fp wr n P It) (X₀ : Led) (hfp : ∀ b ∈ fp, b ∈ wr ∨ (∃ o, B.get? b = some o) ∨ b ∈ X₀.map (·.1)) (hlive : ∀ i h, It i h → ∀ b ∈ wr, ∃ o, h.get? b = some o)
    (hit : It 0 s.heap) (S : St B env.locals s.heap m (O ++ (X₀ ++ X))) (hXw : X.map (·.1) = wr) (hJ : J 0 B O []) (hsz : n ≤ sizeLine)
    (ht : ∀ v, letOwnedTupleGo target (.ref I) v = pure ())
    (turn : ∀ Cl D i v C h m O X e acc tk, i < n → P i v → Kp B C → J i C O acc → St C (compEnvC scope cl Cl env).locals h m ((D, lobj acc e) :: (O ++ X)) →
      wpAny (model P0 w) A (assign target (compEnvC scope cl Cl env) v) (fun _ s₂ => wpAny (model P0 w) A (forIn ifs true fun c r => if r = true then do let ok ← isTrue c (compEnvC scope cl Cl env) (eval c (compEnvC scope cl Cl env)); pure (ForInStep.yield ok) else pure (ForInStep.yield r))
        (fun ok s₃ => if ok = true then wpAny (model P0 w) A (eval elt (compEnvC scope cl Cl env)) (fun y s₄ => Elt s C Cl D e acc X (fun C' O' => J (i + 1) C' O' (acc ++ [y])) s₄) (fun _ _ => False) s₃
          else Elt s C Cl D e acc X (fun C' O' => J (i + 1) C' O' acc) s₃) (fun _ _ => False) s₂) (fun _ _ => False) { s with heap := h, toks := tk })
    (done : ∀ D C h Cl mc oL O acc e tk, Kp B C → J n C O acc → (∀ h : Heap, h.get? env.locals = some oL → h.Ns env.locals m) → St C Cl h mc ((D, lobj acc e) :: (O ++ (X₀ ++ [(env.locals, oL)]))) →
      compPost (model P0 w) A E use Q (.ref D) Cl (.ok .next) { s with heap := h, toks := tk }) :
    CompAt w A env (.ListComp elt [⟨target, iter, ifs, 0⟩] scope pos) scope cl use (newList []) Q E (.ref I) s := by
  unfold CompAt
  refine newL S (by decide) fun D h₁ S₁ => comp_env0 S₁ hk hcell fun h₂ oL hoL S₂ => ?_
  have S₂' : St B h₁.objs.size h₂ (fun _ => none) ((D, lobj [] 0) :: (O ++ ((X₀ ++ [(env.locals, oL)]) ++ X))) := S₂.perm (by
    rw [List.cons_append, List.append_assoc, List.append_assoc, List.append_assoc]
    exact List.Perm.cons _ (List.Perm.append_left _ (List.Perm.append_left _ List.perm_append_comm)))
  have hfp' : ∀ b ∈ fp, b ∈ wr ∨ (∃ o, B.get? b = some o) ∨ b ∈ (X₀ ++ [(env.locals, oL)]).map (·.1) := fun b hb =>
    (hfp b hb).imp_right (Or.imp_right fun z => by rw [List.map_append]; exact List.mem_append_left _ z)
  have hit₂ : It 0 h₂ := W.frame _ _ _ hit (leans (P := O) (P' := (D, lobj [] 0) :: O ++ []) (Y := X₀ ++ X) (fp_in hfp hXw) (kp_refl _) (kp_refl _) S (S₂.drop (by
    rw [List.append_nil, List.cons_append]
    exact List.sublist_append_left _ _)))
  have loop : codeAny (model P0 w) A (.compLoop (.ListComp elt [⟨target, iter, ifs, 0⟩] scope pos) 0 (.ref I) (.ref D) (compEnvC scope cl h₁.objs.size env)) (compPost (model P0 w) A E use Q (.ref D) h₁.objs.size) { s with heap := h₂, toks := s.toks } := by
    refine lcomp_loop (cenv := compEnvC scope cl h₁.objs.size env) (B := B) J W (X₀ ++ [(env.locals, oL)]) hfp' hlive hit₂ S₂' hXw hJ hsz ht ?_ ?_
    · intro i v C h m O X e acc tk h1 h2 h3 h4 h5
      exact turn h₁.objs.size D i v C h m O X e acc tk h1 h2 h3 h4 h5
    · intro C h mc O acc e tk h1 h2 h3
      exact done D C h h₁.objs.size mc oL O acc e tk h1 h2 hoL h3
  exact codeAny_compStart_list loop (W.self 0 _ _ _ hit₂ loop)

theorem post_none {Q E : Value → Shared → Prop} {C : Heap} {h : Heap} {L Cl D : Addr} {mc : Str → Option Value} {oL : Obj} {tk : Nat} {P : Led} (hoL : ∀ h : Heap, h.get? L = some oL → h.Ns L m) (S : St C Cl h mc (P ++ [(L, oL)]))
    (hq : ∀ h', St C L h' m P → Q (.ref D) { s with heap := h', toks := tk }) : compPost (model P0 w) A E none Q (.ref D) Cl (.ok .next) { s with heap := h, toks := tk } :=
  ⟨mc, S.ns, fun h' hs => hq h' (S.back hoL hs)⟩

theorem post_name {L : Addr} {y : Str} {py : Pos} {Q : Flow → Shared → Prop} {E : Value → Shared → Prop} {C : Heap} {h : Heap} {Cl D : Addr} {mc : Str → Option Value} {oL : Obj} {tk : Nat} {P : Led} (hoL : ∀ h : Heap, h.get? L = some oL → h.Ns L m) (S : St C Cl h mc (P ++ [(L, oL)]))
    (hL : env.locals = L) (hk : env.scope.kind = .function) (hy : env.kindOf y = some .local)
    (hq : ∀ h' tk', St C L h' (fun z => if z = y then some (.ref D) else m z) P → Q .next { s with heap := h', toks := tk' }) :
    compPost (model P0 w) A E (some (assign (.Name y py) env)) (fun _ => Q .next) (.ref D) Cl (.ok .next) { s with heap := h, toks := tk } := by
  subst hL
  show wpAny _ _ (assign (.Name y py) env (.ref D)) _ _ _
  have PL := S.nw (env.locals, oL) (by simp)
  refine wpAny_assign_Name (wpAny_storeName_local hy (hoL h PL.1) (fun h₂ hn₂ hs₂ => ?_) (by rw [hk]; rfl))
  obtain ⟨oC, es, ep, hC, r⟩ := S.ns
  have hC₂ : h₂.get? Cl = some oC := (hs₂.2 Cl (Ne.symm PL.2.1)).trans hC
  refine ⟨mc, ⟨oC, es, ep, hC₂, r⟩, fun h' hs => hq h' _ ?_⟩
  have nd := S.nd
  rw [List.map_append, List.nodup_append] at nd
  have ne : ∀ p ∈ P, p.1 ≠ env.locals := fun p hp q => nd.2.2 p.1 (List.mem_map_of_mem hp) env.locals (by simp) q
  have hnC : env.locals ≠ Cl := PL.2.1
  refine ⟨hn₂.sameBut hs hnC, fun b x e => ?_, PL.2.2, fun p hp => ?_, nd.1⟩
  · refine (hs.2 b fun q => ?_).trans ((hs₂.2 b fun q => ?_).trans (S.kp b x e))
    · have := S.off; rw [← q, e] at this; cases this
    · have := PL.2.2; rw [← q, e] at this; cases this
  · have Pp := S.nw p (List.mem_append_left _ hp)
    exact ⟨(hs.2 _ Pp.2.1).trans ((hs₂.2 _ (ne p hp)).trans Pp.1), ne p hp, Pp.2.2⟩
end
theorem cellsAre_addrs {cm : Str → Option Value} : ∀ {cs : List (Str × Addr)} {cells : List (Addr × Obj)}, CellsAre cm cs cells → cells.map (·.1) = cs.map (·.2) := by
  intro cs cells h
  induction h with
  | nil => rfl
  | cons _ r ih => rw [List.map_cons, List.map_cons, ih]

section
variable {w : World} {A : Around} {s : Shared} {Q E : Value → Shared → Prop} {name qual : Str} {params : Arguments} {body : List Stmt} {scope : Scope} {dV kV doc pm cdv ct oc : Value} {an od : Option Addr} {osl : Array (Option Value)} {f : Addr} {args : List Value}
theorem enterC (binds : List (Str × Value)) (G : Gd w s.heap) (hroom : A.depth < recursionLimit)
    (ho : (KK w).lookup f = some ⟨oc, od, .func (fnOf name qual params body scope dV kV doc pm an cdv ct), osl⟩) (hcd : codeIn (KK w) cdv qual = true)
    (hbind : bindArgs (fnOf name qual params body scope dV kV doc pm an cdv ct) ⟨args, []⟩ = pure binds)
    (hkind : (binds.all fun y => scope.names.lookup y.1 == some .local || scope.names.lookup y.1 == some .cell) = true) (hnd : ((cellsFrom 0 scope.names []).map (·.1)).Nodup)
    (hco : scope.isCoroutine = false) (hgen : scope.isGenerator = false) (hk : scope.kind = .function)
    (h : ∀ L h₁ tk cells, CellsAre (bindC (envX qual scope L f cdv (cellsFrom (L + 1) scope.names [])).kindOf binds fun _ => none) (cellsFrom (L + 1) scope.names []) cells →
      St s.heap L h₁ (bindL (envX qual scope L f cdv (cellsFrom (L + 1) scope.names [])).kindOf binds fun _ => none) cells →
      wpAny (model P0 w) (A.deeper (envX qual scope L f cdv (cellsFrom (L + 1) scope.names []))) (execs body (envX qual scope L f cdv (cellsFrom (L + 1) scope.names [])))
        (fun fl s' => Q (match fl with | .ret v => v | _ => .none) s') (fun _ _ => False) { s with heap := h₁, toks := tk }) :
    wpAny (model P0 w) A (call (.ref f) args) Q E s := by
  refine wpAny_call (codeAny_call_cells hroom (G.k _ _ ho) rfl G.nolimit (codeRec_of G.k hcd) rfl hbind rfl (kindsX hkind _) (fun s₁ x => ?_) hco hgen hk)
  obtain ⟨h₁, tk, rfl, _⟩ := x.done
  obtain ⟨cells, NC, Y⟩ := Cl.news (h₀ := s.heap) (Nat.le_refl _) fun n c hm => ⟨x.cell n c (lookup_of_mem_nodup (cellsFrom_names scope.names 0 (s.heap.objs.size + 1) [] [] rfl ▸ hnd) hm), x.above n c hm⟩
  refine wpAny_mono (h s.heap.objs.size h₁ tk cells Y ⟨x.toInCall.ns, x.toInCall.keep, Heap.get?_none_of_le (Nat.le_refl _), NC, ?_⟩) (fun _ _ y => y) (fun _ _ y => y.elim)
  rw [cellsAre_addrs Y]
  exact List.pairwise_map.mpr x.apart
end

section
variable {w : World} {A : Around} {s : Shared} {B : Heap} {m : Str → Option Value} {O X : Led} {env : Env}
theorem lcomp_at1 {elt target iter : Expr} {ifs : List Expr} {scope : Scope} {pos : Pos} {cl : List (Str × Addr)} {xc : Str} {I : Addr} {fp wr : List Addr} {n : Nat} {P : Nat → Value → Prop} {It : Nat → Heap → Prop} {use : Option (Value → Sem Unit)} {Q E : Value → Shared → Prop}
    (J : Nat → Heap → Led → List Value → Prop) (hk : scope.kind = .function) (hcf : ∀ n, cellsFrom n scope.names cl = (xc, n) :: cl) (hpc : ∀ h, pushCells h scope.names = h.push (cobj none))
    (W : Walks P0 w A I fp wr n P It) (X₀ : Led) (hfp : ∀ b ∈ fp, b ∈ wr ∨ (∃ o, B.get? b = some o) ∨ b ∈ X₀.map (·.1)) (hlive : ∀ i h, It i h → ∀ b ∈ wr, ∃ o, h.get? b = some o)
    (hit : It 0 s.heap) (S : St B env.locals s.heap m (O ++ (X₀ ++ X))) (hXw : X.map (·.1) = wr) (hJ : J 0 B O []) (hsz : n ≤ sizeLine)
    (ht : ∀ v, letOwnedTupleGo target (.ref I) v = pure ())
    (turn : ∀ Cl c oc u D i v C h m O X e acc tk, i < n → P i v → Kp B C → J i C O acc → oc.data = .cell u → St C (compEnvC scope ((xc, c) :: cl) Cl env).locals h m ((D, lobj acc e) :: (((c, oc) :: O) ++ X)) →
      wpAny (model P0 w) A (assign target (compEnvC scope ((xc, c) :: cl) Cl env) v) (fun _ s₂ => wpAny (model P0 w) A (forIn ifs true fun c' r => if r = true then do let ok ← isTrue c' (compEnvC scope ((xc, c) :: cl) Cl env) (eval c' (compEnvC scope ((xc, c) :: cl) Cl env)); pure (ForInStep.yield ok) else pure (ForInStep.yield r))
        (fun ok s₃ => if ok = true then wpAny (model P0 w) A (eval elt (compEnvC scope ((xc, c) :: cl) Cl env)) (fun y s₄ => Elt s C Cl D e acc X (fun C' O' => ∃ oc u O'', O' = (c, oc) :: O'' ∧ oc.data = .cell u ∧ J (i + 1) C' O'' (acc ++ [y])) s₄) (fun _ _ => False) s₃
          else Elt s C Cl D e acc X (fun C' O' => ∃ oc u O'', O' = (c, oc) :: O'' ∧ oc.data = .cell u ∧ J (i + 1) C' O'' acc) s₃) (fun _ _ => False) s₂) (fun _ _ => False) { s with heap := h, toks := tk })
    (done : ∀ D C h Cl mc oL O acc e tk, Kp B C → J n C O acc → (∀ h : Heap, h.get? env.locals = some oL → h.Ns env.locals m) → St C Cl h mc ((D, lobj acc e) :: (O ++ (X₀ ++ [(env.locals, oL)]))) →
      compPost (model P0 w) A E use Q (.ref D) Cl (.ok .next) { s with heap := h, toks := tk }) :
    CompAt w A env (.ListComp elt [⟨target, iter, ifs, 0⟩] scope pos) scope cl use (newList []) Q E (.ref I) s := by
  unfold CompAt
  refine newL S (by decide) fun D h₁ S₁ => comp_env1 S₁ hk hcf hpc fun h₂ oL c hoL S₂ => ?_
  have S₂' : St B h₁.objs.size h₂ (fun _ => none) ((D, lobj [] 0) :: (((c, cobj none) :: O) ++ ((X₀ ++ [(env.locals, oL)]) ++ X))) := S₂.perm (by
    rw [List.cons_append, List.append_assoc, List.append_assoc, List.cons_append, List.append_assoc]
    refine (List.Perm.swap _ _ _).trans (List.Perm.cons _ (List.Perm.cons _ ?_))
    exact List.Perm.append_left _ (List.Perm.append_left _ List.perm_append_comm))
  have hfp' : ∀ b ∈ fp, b ∈ wr ∨ (∃ o, B.get? b = some o) ∨ b ∈ (X₀ ++ [(env.locals, oL)]).map (·.1) := fun b hb =>
    (hfp b hb).imp_right (Or.imp_right fun z => by rw [List.map_append]; exact List.mem_append_left _ z)
  have hit₂ : It 0 h₂ := W.frame _ _ _ hit (leans (P := O) (P' := (c, cobj none) :: (D, lobj [] 0) :: O ++ []) (Y := X₀ ++ X) (fp_in hfp hXw) (kp_refl _) (kp_refl _) S (S₂.drop (by
    rw [List.append_nil, List.cons_append, List.cons_append]
    exact List.Sublist.cons_cons _ (List.sublist_append_left _ _))))
  have loop : codeAny (model P0 w) A (.compLoop (.ListComp elt [⟨target, iter, ifs, 0⟩] scope pos) 0 (.ref I) (.ref D) (compEnvC scope ((xc, c) :: cl) h₁.objs.size env)) (compPost (model P0 w) A E use Q (.ref D) h₁.objs.size) { s with heap := h₂, toks := s.toks } := by
    refine lcomp_loop (cenv := compEnvC scope ((xc, c) :: cl) h₁.objs.size env) (B := B) (fun i C O acc => ∃ oc u O'', O = (c, oc) :: O'' ∧ oc.data = .cell u ∧ J i C O'' acc) W (X₀ ++ [(env.locals, oL)]) hfp' hlive hit₂ S₂' hXw ⟨_, _, O, rfl, rfl, hJ⟩ hsz ht ?_ ?_
    · rintro i v C h m _ X e acc tk h1 h2 h3 ⟨oc, u, O, rfl, hu, h4⟩ h5
      exact turn h₁.objs.size c oc u D i v C h m O X e acc tk h1 h2 h3 h4 hu h5
    · rintro C h mc _ acc e tk h1 ⟨oc, u, O, rfl, hu, h2⟩ h3
      refine done D C h h₁.objs.size mc oL O acc e tk h1 h2 hoL (h3.drop ?_)
      exact List.Sublist.cons_cons _ (List.Sublist.cons _ (List.Sublist.refl _))
  exact codeAny_compStart_list loop (W.self 0 _ _ _ hit₂ loop)
end
noncomputable def Src (w : World) (A : Around) (B : Heap) (X₀ X : Led) (h : Heap) (I : Addr) (n : Nat) (P : Nat → Value → Prop) : Prop :=
  ∃ fp wr It, Walks P0 w A I fp wr n P It ∧ (∀ b ∈ fp, b ∈ wr ∨ (∃ o, B.get? b = some o) ∨ b ∈ X₀.map (·.1)) ∧ (∀ i h, It i h → ∀ b ∈ wr, ∃ o, h.get? b = some o) ∧ It 0 h ∧ X.map (·.1) = wr

section
variable {w : World} {A : Around} {s : Shared} {B : Heap} {L : Addr} {m : Str → Option Value} {O X X₀ : Led} {env : Env}

theorem St.pushEnd (S : St B L s.heap m (O ++ X₀)) (o : Obj) (hf : o.isFreed = false) : St B L (s.heap.push o) m (O ++ (X₀ ++ [(s.heap.objs.size, o)])) :=
  (S.push o hf).perm (by rw [← List.append_assoc]; exact List.perm_append_comm (l₁ := [(s.heap.objs.size, o)]))

theorem iterList {l : Addr} {items : Array Value} {Q E : Value → Shared → Prop} (X₀ : Led) (hh : A.handled = none) (hl : B.IsList l items) (S : St B L s.heap m (O ++ X₀))
    (h : ∀ I o h', St B L h' m (O ++ (X₀ ++ [(I, o)])) → Src w A B X₀ [(I, o)] h' I items.size (fun i v => items[i]? = some v) → Q (.ref I) { s with heap := h' }) :
    wpAny (model P0 w) A (pyIter (.ref l)) Q E s := by
  have hls : s.heap.IsList l items := hl.at fun o e => S.kp l o e
  obtain ⟨ol, hol, _⟩ := id hl
  have hlt : l < s.heap.objs.size := Heap.lt_size (S.kp _ _ hol)
  refine wpAny_pyIter_list hls (h _ _ _ (S.pushEnd _ rfl) ⟨[s.heap.objs.size, l], [s.heap.objs.size], _, Walks.list hh s.heap.objs.size l (Nat.ne_of_lt hlt) items, ?_, ?_, ?_, rfl⟩)
  · intro b hb
    rcases List.mem_cons.mp hb with q | q
    · exact .inl (by rw [q]; exact List.mem_cons_self)
    · exact .inr (.inl ⟨ol, by rw [List.mem_singleton.mp q]; exact hol⟩)
  · rintro i h' ⟨⟨o, ho, _⟩, _⟩ b hb
    exact ⟨o, by rw [List.mem_singleton.mp hb]; exact ho⟩
  · exact ⟨⟨_, Heap.get?_push_size _ rfl, rfl, rfl⟩, hls.at fun o e => Heap.get?_push_of_some _ e⟩

theorem iterListO {l : Addr} {xs : List Value} {e : Nat} {Q E : Value → Shared → Prop} (hh : A.handled = none) (S : St B L s.heap m (O ++ [(l, lobj xs e)]))
    (h : ∀ I o h', St B L h' m (O ++ ([(l, lobj xs e)] ++ [(I, o)])) → Src w A B [(l, lobj xs e)] [(I, o)] h' I xs.length (fun i v => xs[i]? = some v) → Q (.ref I) { s with heap := h' }) :
    wpAny (model P0 w) A (pyIter (.ref l)) Q E s := by
  have hol := S.get (a := l) (o := lobj xs e) (by simp)
  have hls : s.heap.IsList l xs.toArray := ⟨_, hol, rfl, e, rfl⟩
  have hlt : l < s.heap.objs.size := Heap.lt_size hol
  have W := Walks.list (prog := P0) (w := w) (A := A) hh s.heap.objs.size l (Nat.ne_of_lt hlt) xs.toArray
  rw [List.size_toArray] at W
  refine wpAny_pyIter_list hls (h _ _ _ (S.pushEnd _ rfl) ⟨[s.heap.objs.size, l], [s.heap.objs.size], _, by simpa using W, ?_, ?_, ?_, rfl⟩)
  · intro b hb
    rcases List.mem_cons.mp hb with q | q
    · exact .inl (by rw [q]; exact List.mem_cons_self)
    · exact .inr (.inr (by rw [List.mem_singleton.mp q]; simp))
  · rintro i h' ⟨⟨o, ho, _⟩, _⟩ b hb
    exact ⟨o, by rw [List.mem_singleton.mp hb]; exact ho⟩
  · exact ⟨⟨_, Heap.get?_push_size _ rfl, rfl, rfl⟩, hls.at fun o e => Heap.get?_push_of_some _ e⟩

theorem iterTuple {t : Addr} {items : Array Value} {Q E : Value → Shared → Prop} (X₀ : Led) (hh : A.handled = none) (hl : B.IsTuple t items) (S : St B L s.heap m (O ++ X₀))
    (h : ∀ I o h', St B L h' m (O ++ (X₀ ++ [(I, o)])) → Src w A B X₀ [(I, o)] h' I items.size (fun i v => items[i]? = some v) → Q (.ref I) { s with heap := h' }) :
    wpAny (model P0 w) A (pyIter (.ref t)) Q E s := by
  have hls : s.heap.IsTuple t items := hl.at fun o e => S.kp t o e
  obtain ⟨ol, hol, _⟩ := id hl
  have hlt : t < s.heap.objs.size := Heap.lt_size (S.kp _ _ hol)
  refine wpAny_pyIter_tuple hls (h _ _ _ (S.pushEnd _ rfl) ⟨[s.heap.objs.size, t], [s.heap.objs.size], _, Walks.tuple hh s.heap.objs.size t (Nat.ne_of_lt hlt) items, ?_, ?_, ?_, rfl⟩)
  · intro b hb
    rcases List.mem_cons.mp hb with q | q
    · exact .inl (by rw [q]; exact List.mem_cons_self)
    · exact .inr (.inl ⟨ol, by rw [List.mem_singleton.mp q]; exact hol⟩)
  · rintro i h' ⟨⟨o, ho, _⟩, _⟩ b hb
    exact ⟨o, by rw [List.mem_singleton.mp hb]; exact ho⟩
  · exact ⟨⟨_, Heap.get?_push_size _ rfl, rfl, rfl⟩, hls.at fun o e => Heap.get?_push_of_some _ e⟩

theorem callRange1 {n : Int} {t : Tok} {Q E : Value → Shared → Prop} (S : St B L s.heap m O)
    (h : ∀ r h' tk u v, St B L h' m O → IsRange h' r 0 n 1 u t v → Q (.ref r) { s with heap := h', toks := tk }) : wpAny (model P0 w) A (call (.type "range") [.int n t]) Q E s :=
  call_range_1 (h _ _ _ _ _ (S.keep fun b o e => Heap.get?_push_of_some _ e) (IsRange.new ..))
theorem callRange2 {a n : Int} {t u : Tok} {Q E : Value → Shared → Prop} (S : St B L s.heap m O)
    (h : ∀ r h' tk v, St B L h' m O → IsRange h' r a n 1 t u v → Q (.ref r) { s with heap := h', toks := tk }) : wpAny (model P0 w) A (call (.type "range") [.int a t, .int n u]) Q E s :=
  call_range_2 (h _ _ _ _ (S.keep fun b o e => Heap.get?_push_of_some _ e) (IsRange.new ..))

theorem iterRangeAny {r : Addr} {a b c : Int} {t u v : Tok} {Q E : Value → Shared → Prop} (X₀ : Led) (n : Nat) (hh : A.handled = none) (hr : IsRange s.heap r a b c t u v) (hs : Builtin.Range.small a b c = true) (hn : Builtin.Range.rangeSize a b c = n) (S : St B L s.heap m (O ++ X₀))
    (h : ∀ I o h', St B L h' m (O ++ (X₀ ++ [(I, o)])) → Src w A B X₀ [(I, o)] h' I n (fun i v => ∃ t, v = .int (a + i * c) t) → Q (.ref I) { s with heap := h' }) :
    wpAny (model P0 w) A (pyIter (.ref r)) Q E s := by
  refine wpAny_pyIter_range hr hs (h _ _ _ (S.pushEnd _ rfl) ⟨[s.heap.objs.size], [s.heap.objs.size], _, Walks.range hh s.heap.objs.size a c n, fun b hb => .inl hb, ?_, ?_, rfl⟩)
  · intro i h' ho b hb
    rw [List.mem_singleton.mp hb]
    exact ⟨_, ho⟩
  · show IsRangeIter _ _ _ _ _
    rw [hn]
    simp only [Int.natCast_zero, Int.zero_mul, Int.add_zero, Int.sub_zero]
    exact Heap.get?_push_size _ rfl

theorem iterRange1 {r : Addr} {n : Nat} {a : Int} {t u v : Tok} {Q E : Value → Shared → Prop} (X₀ : Led) (hh : A.handled = none) (hr : IsRange s.heap r a (a + n) 1 t u v) (ha : 0 ≤ a) (hs : a + n < 2 ^ 62) (S : St B L s.heap m (O ++ X₀))
    (h : ∀ I o h', St B L h' m (O ++ (X₀ ++ [(I, o)])) → Src w A B X₀ [(I, o)] h' I n (fun i v => ∃ t, v = .int (a + i) t) → Q (.ref I) { s with heap := h' }) :
    wpAny (model P0 w) A (pyIter (.ref r)) Q E s := by
  refine iterRangeAny X₀ n hh hr (small_one (by exact om267 ha) (by exact om268 hs) (by exact om269 ha) hs) ?_ S ?_
  · rw [rangeSize_one]; split <;> (first | exact om270 | omega)
  · intro I o h' S' sr
    refine h I o h' S' ?_
    simpa using sr

theorem iterBytes {b : Array UInt8} {t : Tok} {Q E : Value → Shared → Prop} (X₀ : Led) (hh : A.handled = none) (S : St B L s.heap m (O ++ X₀))
    (h : ∀ I o h', St B L h' m (O ++ (X₀ ++ [(I, o)])) → Src w A B X₀ [(I, o)] h' I b.size (fun i v => ∃ n u, b[i]? = some n ∧ v = .int n.toNat u) → Q (.ref I) { s with heap := h' }) :
    wpAny (model P0 w) A (pyIter (.bytes b t)) Q E s := by
  refine KBw.pyIter_bytes (h _ _ _ (S.pushEnd _ rfl) ⟨[s.heap.objs.size], [s.heap.objs.size], _, KBw.walks hh s.heap.objs.size b t, fun b hb => .inl hb, ?_, ⟨_, Heap.get?_push_size _ rfl, rfl, rfl⟩, rfl⟩)
  rintro i h' ⟨o, ho, _⟩ b hb
  exact ⟨o, by rw [List.mem_singleton.mp hb]; exact ho⟩

theorem for_src {x : Str} {px : Pos} {body : List Stmt} {I : Addr} {n : Nat} {P : Nat → Value → Prop} {R : Result → Shared → Prop} {Q : Flow → Shared → Prop}
    (J : Nat → Heap → (Str → Option Value) → Led → Prop) (sr : Src w A B X₀ X s.heap I n P)
    (hL : env.locals = L) (hx : env.kindOf x = some .local) (hk : env.scope.kind = .function) (S : St B L s.heap m (O ++ (X₀ ++ X))) (hJ : J 0 B m O)
    (turn : ∀ i v C h m O X tk, i < n → P i v → Kp B C → J i C m O → St C L h (fun y => if y = x then some v else m y) (O ++ X) →
      wpAny (model P0 w) A (execs body env) (turnPost s C L X (J (i + 1)) Q) (fun _ _ => False) { s with heap := h, toks := tk })
    (done : ∀ C h m O tk, Kp B C → J n C m O → St C L h m (O ++ X₀) → Q .next { s with heap := h, toks := tk })
    (hR : ∀ f s', Q f s' → R (.ok f) s') :
    codeAny (model P0 w) A (.forLoop (.Name x px) (.ref I) body [] env) R s := by
  obtain ⟨fp, wr, It, W, h1, h2, h3, h4⟩ := sr
  exact for_walk J hL hx hk W X₀ h1 h2 h3 S h4 hJ turn done hR

theorem lcomp_src0 {elt target iter : Expr} {ifs : List Expr} {scope : Scope} {pos : Pos} {cl : List (Str × Addr)} {I : Addr} {n : Nat} {P : Nat → Value → Prop} {use : Option (Value → Sem Unit)} {Q E : Value → Shared → Prop}
    (J : Nat → Heap → Led → List Value → Prop) (sr : Src w A B X₀ X s.heap I n P) (hk : scope.kind = .function) (hcell : ∀ y ∈ scope.names, y.2 ≠ .cell)
    (hL : env.locals = L) (S : St B L s.heap m (O ++ (X₀ ++ X))) (hJ : J 0 B O []) (hsz : n ≤ sizeLine)
    (ht : ∀ v, letOwnedTupleGo target (.ref I) v = pure ())
    (turn : ∀ Cl D i v C h m O X e acc tk, i < n → P i v → Kp B C → J i C O acc → St C Cl h m ((D, lobj acc e) :: (O ++ X)) →
      wpAny (model P0 w) A (assign target (compEnvC scope cl Cl env) v) (fun _ s₂ => wpAny (model P0 w) A (forIn ifs true fun c r => if r = true then do let ok ← isTrue c (compEnvC scope cl Cl env) (eval c (compEnvC scope cl Cl env)); pure (ForInStep.yield ok) else pure (ForInStep.yield r))
        (fun ok s₃ => if ok = true then wpAny (model P0 w) A (eval elt (compEnvC scope cl Cl env)) (fun y s₄ => Elt s C Cl D e acc X (fun C' O' => J (i + 1) C' O' (acc ++ [y])) s₄) (fun _ _ => False) s₃
          else Elt s C Cl D e acc X (fun C' O' => J (i + 1) C' O' acc) s₃) (fun _ _ => False) s₂) (fun _ _ => False) { s with heap := h, toks := tk })
    (done : ∀ D C h Cl mc oL O acc e tk, Kp B C → J n C O acc → (∀ h : Heap, h.get? L = some oL → h.Ns L m) → St C Cl h mc (((D, lobj acc e) :: (O ++ X₀)) ++ [(L, oL)]) →
      compPost (model P0 w) A E use Q (.ref D) Cl (.ok .next) { s with heap := h, toks := tk }) :
    CompAt w A env (.ListComp elt [⟨target, iter, ifs, 0⟩] scope pos) scope cl use (newList []) Q E (.ref I) s := by
  subst hL
  obtain ⟨fp, wr, It, W, h1, h2, h3, h4⟩ := sr
  exact lcomp_at0 J hk hcell W X₀ h1 h2 h3 S h4 hJ hsz ht turn fun D C h Cl mc oL O acc e tk q1 q2 q3 q4 => done D C h Cl mc oL O acc e tk q1 q2 q3 (by rw [List.cons_append, List.append_assoc]; exact q4)

theorem lcomp_src1 {elt target iter : Expr} {ifs : List Expr} {scope : Scope} {pos : Pos} {cl : List (Str × Addr)} {xc : Str} {I : Addr} {n : Nat} {P : Nat → Value → Prop} {use : Option (Value → Sem Unit)} {Q E : Value → Shared → Prop}
    (J : Nat → Heap → Led → List Value → Prop) (sr : Src w A B X₀ X s.heap I n P) (hk : scope.kind = .function) (hcf : ∀ n, cellsFrom n scope.names cl = (xc, n) :: cl) (hpc : ∀ h, pushCells h scope.names = h.push (cobj none))
    (hL : env.locals = L) (S : St B L s.heap m (O ++ (X₀ ++ X))) (hJ : J 0 B O []) (hsz : n ≤ sizeLine)
    (ht : ∀ v, letOwnedTupleGo target (.ref I) v = pure ())
    (turn : ∀ Cl c oc u D i v C h m O X e acc tk, i < n → P i v → Kp B C → J i C O acc → oc.data = .cell u → St C Cl h m ((D, lobj acc e) :: (((c, oc) :: O) ++ X)) →
      wpAny (model P0 w) A (assign target (compEnvC scope ((xc, c) :: cl) Cl env) v) (fun _ s₂ => wpAny (model P0 w) A (forIn ifs true fun c' r => if r = true then do let ok ← isTrue c' (compEnvC scope ((xc, c) :: cl) Cl env) (eval c' (compEnvC scope ((xc, c) :: cl) Cl env)); pure (ForInStep.yield ok) else pure (ForInStep.yield r))
        (fun ok s₃ => if ok = true then wpAny (model P0 w) A (eval elt (compEnvC scope ((xc, c) :: cl) Cl env)) (fun y s₄ => Elt s C Cl D e acc X (fun C' O' => ∃ oc u O'', O' = (c, oc) :: O'' ∧ oc.data = .cell u ∧ J (i + 1) C' O'' (acc ++ [y])) s₄) (fun _ _ => False) s₃
          else Elt s C Cl D e acc X (fun C' O' => ∃ oc u O'', O' = (c, oc) :: O'' ∧ oc.data = .cell u ∧ J (i + 1) C' O'' acc) s₃) (fun _ _ => False) s₂) (fun _ _ => False) { s with heap := h, toks := tk })
    (done : ∀ D C h Cl mc oL O acc e tk, Kp B C → J n C O acc → (∀ h : Heap, h.get? L = some oL → h.Ns L m) → St C Cl h mc (((D, lobj acc e) :: (O ++ X₀)) ++ [(L, oL)]) →
      compPost (model P0 w) A E use Q (.ref D) Cl (.ok .next) { s with heap := h, toks := tk }) :
    CompAt w A env (.ListComp elt [⟨target, iter, ifs, 0⟩] scope pos) scope cl use (newList []) Q E (.ref I) s := by
  subst hL
  obtain ⟨fp, wr, It, W, h1, h2, h3, h4⟩ := sr
  exact lcomp_at1 J hk hcf hpc W X₀ h1 h2 h3 S h4 hJ hsz ht turn fun D C h Cl mc oL O acc e tk q1 q2 q3 q4 => done D C h Cl mc oL O acc e tk q1 q2 q3 (by rw [List.cons_append, List.append_assoc]; exact q4)

theorem try_quiet {body : List Stmt} {h₀ : ExceptHandler} {hs : List ExceptHandler} {pos : Pos} {Q : Flow → Shared → Prop} {E : Value → Shared → Prop} (h : wpAny (model P0 w) A (execs body env) Q (fun _ _ => False) s) :
    wpAny (model P0 w) A (exec (.Try body (h₀ :: hs) [] [] pos) env) Q E s := by
  refine wpAny_Try_except (wpAny_mono h (fun f s₁ q => ?_) fun _ _ x => x.elim)
  cases f <;> first | exact wpAny_execs_nil q | exact q
theorem for_st {target iter : Expr} {body : List Stmt} {pos : Pos} {Q : Flow → Shared → Prop} {E : Value → Shared → Prop}
    (h : wpAny (model P0 w) A (eval iter env) (fun x s₁ => wpAny (model P0 w) A (pyIter x) (fun it s₂ => codeAny (model P0 w) A (.forLoop target it body [] env) (fun r s' => match r with | .ok f => Q f s' | .error _ => False) s₂) (fun _ _ => False) s₁) (fun _ _ => False) s)
    (hs : ∀ x, foldedSetIterable iter env x = pure x) : wpAny (model P0 w) A (exec (.For target iter body [] pos) env) Q E s :=
  wp_noted (wpAny_For (wpAny_mono h (fun x s₁ q => wpAny_mono q (fun it s₂ q => codeAny_mono q fun r s' z => by cases r with | ok f => exact z | error e => exact z.elim) fun _ _ x => x) fun _ _ x => x) hs)
theorem while_st {test : Expr} {body : List Stmt} {pos : Pos} {Q : Flow → Shared → Prop} {E : Value → Shared → Prop}
    (h : codeAny (model P0 w) A (.whileLoop test body [] env) (fun r s' => match r with | .ok f => Q f s' | .error _ => False) s) : wpAny (model P0 w) A (exec (.While test body [] pos) env) Q E s :=
  wp_noted (wpAny_While (codeAny_mono h fun r s' z => by cases r with | ok f => exact z | error e => exact z.elim))
end
theorem turn_next {s : Shared} {C : Heap} {L : Addr} {X : Led} {J : Heap → (Str → Option Value) → Led → Prop} {Q : Flow → Shared → Prop} {h' : Heap} {tk' : Nat} {C' : Heap} {m' : Str → Option Value} {O' : Led}
    (k : Kp C C') (S : St C' L h' m' (O' ++ X)) (hJ : J C' m' O') : turnPost s C L X J Q .next { s with heap := h', toks := tk' } := ⟨h', tk', C', m', O', rfl, k, S, hJ⟩
theorem turn_cont {s : Shared} {C : Heap} {L : Addr} {X : Led} {J : Heap → (Str → Option Value) → Led → Prop} {Q : Flow → Shared → Prop} {h' : Heap} {tk' : Nat} {C' : Heap} {m' : Str → Option Value} {O' : Led}
    (k : Kp C C') (S : St C' L h' m' (O' ++ X)) (hJ : J C' m' O') : turnPost s C L X J Q .cont { s with heap := h', toks := tk' } := ⟨h', tk', C', m', O', rfl, k, S, hJ⟩
theorem elt_mk {s : Shared} {C : Heap} {L D : Addr} {e : Nat} {acc : List Value} {X : Led} {J : Heap → Led → Prop} {h' : Heap} {tk' : Nat} {C' : Heap} {m' : Str → Option Value} {O' : Led}
    (k : Kp C C') (S : St C' L h' m' ((D, lobj acc e) :: (O' ++ X))) (hJ : J C' O') : Elt s C L D e acc X J { s with heap := h', toks := tk' } := ⟨h', tk', C', m', O', rfl, k, S, hJ⟩

theorem issub_nested_call {w : World} {A : Around} {s : Shared} {Q E : Value → Shared → Prop} (h : Q (.bool true) s) :
    wpAny (model P0 w) A (call (.builtin "issubclass.nested") [.type "str", .type "str", .int 1 0]) Q E s := by
  refine call_function_tree (by decide +kernel) (by decide +kernel) F.entry_issubclass_nested (by unfold argsOk; kernel_rfl) ?_
  have h2 : isSubtype (.type "str") (.type "str") = pure true := by rw [isSubtype_type]; kernel_rfl
  unfold Builtin.«issubclass.nested»
  repeat (any_goals (first | assumption | wp_step))
theorem issub_str {w : World} {A : Around} {s : Shared} {a : Addr} {n : Nat} {Q E : Value → Shared → Prop}
    (ht : s.heap.get? a = some { cls := .type "tuple", data := .seq #[.type "str", .type "bytes"] n }) (h : Q (.bool true) s) :
    wpAny (model P0 w) A (call (.builtin "issubclass") [.type "str", .ref a]) Q E s := by
  refine call_function_tree F.kind_issubclass F.plain_issubclass F.entry_issubclass (F.args_issubclass_2 _ _) ?_
  refine issubclass_outer ?_
  have hT : s.TypeIs (.ref a) "tuple" := ⟨_, ht, rfl⟩
  have h1 : isSubtype (.type "tuple") (.type "tuple") = pure true := by rw [isSubtype_type]; kernel_rfl
  unfold Builtin.«issubclass.nested»
  repeat (any_goals (first | assumption | ((with_reducible show wpAny _ _ (call _ _ _) _ _ _); refine issub_nested_call ?_) | wp_step))
section
variable {w : World} {A : Around} {E : Value → Shared → Prop} {hp : Heap} {gn : Array GenState} {dr : Drawn} {tk : Nat} {os : OsState} {B : Heap} {L : Addr} {m : Str → Option Value} {O : Led}
theorem evP_some {M : Model} {s : Shared} {e : Expr} {env : Env} {Q : Value → Shared → Prop} (h : wpAny M A (eval e env) Q E s) : wpAny M A (evalPart (some e) env) Q E s := h
theorem evP_none {M : Model} {s : Shared} {env : Env} {Q : Value → Shared → Prop} (h : Q .none s) : wpAny M A (evalPart none env) Q E s := wpAny_pure h
end
local macro_rules | `(tactic| walk_at "ls") => `(tactic| with_reducible (repeat (first | exact List.mem_cons_self | refine List.mem_cons_of_mem _ ?_)))
local macro_rules | `(tactic| walk_at "xc") => `(tactic| with_reducible refine wpAny_execs_cons ?_)
-- statements
local macro_rules | `(tactic| walk_at "exec") => `(tactic| with_reducible first
  | (refine wpAny_Assign_Name ?_ (hs := ?hs1); (case hs1 => with_unfolding_all rfl))
  | refine wpAny_If ?_
  | refine wpAny_Return_some ?_
  | refine wpAny_AugAssign_Name ?_
  | (refine wpAny_Assign_Subscript ?_ (hs := ?hs1); (case hs1 => with_unfolding_all rfl))
  | (refine wpAny_Expr ?_ (hi := ?hi1) (hs := ?hs1); (case hi1 => with_unfolding_all rfl); (case hs1 => with_unfolding_all rfl))
  | (refine for_st ?_ ?hfs; (case hfs => intro _; with_unfolding_all rfl))
  | refine while_st ?_
  | refine try_quiet ?_
  | refine wpAny_Break ?_
  | refine wpAny_Continue ?_)
-- a name, read
local macro_rules | `(tactic| walk_at "gk") => `(tactic| (with_reducible refine gkA _ ?_); walk_at "ls")
local macro_rules | `(tactic| walk_at "bb") => `(tactic| (with_reducible refine bbA ?_); walk_at "ls")
local macro_rules | `(tactic| walk_at "gb") => `(tactic| (with_reducible refine gbA _ ?_); walk_at "ls")
local macro_rules | `(tactic| walk_at "kf") => `(tactic| (with_reducible refine kfA _ ?_); walk_at "ls")
local macro_rules | `(tactic| walk_at "lk") => `(tactic| first
  | exact rfl
  | assumption
  | (refine (if_neg (by decide)).trans ?_; first | assumption | (refine (if_neg (by decide)).trans ?_; first | assumption | (refine (if_neg (by decide)).trans ?_; first | assumption | (refine (if_neg (by decide)).trans ?_; first | assumption | (refine (if_neg (by decide)).trans ?_; first | assumption | (refine (if_neg (by decide)).trans ?_; assumption)))))))
local macro_rules | `(tactic| walk_at "nm") => `(tactic| first
  | (refine nmK (by assumption) (by assumption) (v := ?vv) ?he ?hk ?hx ?hg ?hd ?_; (case he => walk_at "gk"); (case hk => with_unfolding_all rfl); (case hx => with_unfolding_all rfl); (case hg => with_unfolding_all rfl); (case hd => decide))
  | (refine nmB (by assumption) (by assumption) (v := ?vv) ?he ?hv ?hn ?hk ?hx ?hg ?hb ?hd ?_; (case hv => walk_at "bb"); (case he => walk_at "gb"); (case hk => with_unfolding_all rfl); (case hx => with_unfolding_all rfl); (case hg => with_unfolding_all rfl); (case hb => with_unfolding_all rfl); (case hd => decide); (case hn => decide))
  | (refine nmL (by assumption) (v := ?vv) ?hL ?hv ?hk ?hx ?hd ?_; (case hv => walk_at "lk"); (case hL => exact rfl); (case hk => with_unfolding_all rfl); (case hx => with_unfolding_all rfl); (case hd => decide))
  | (refine nmC (by assumption) (c := ?cc) (v := ?vv) ?hc ?hv ?hk ?hx ?hd ?_; (case hc => exact rfl); (case hv => assumption); (case hk => with_unfolding_all rfl); (case hx => with_unfolding_all rfl); (case hd => decide))
  | (refine nmF (by assumption) (c := ?cc) (v := ?vv) ?hc ?hv ?hk ?hx ?hd ?hn ?_; (case hc => exact rfl); (case hv => assumption); (case hk => with_unfolding_all rfl); (case hx => with_unfolding_all rfl); (case hd => decide); (case hn => decide)))
-- expressions
local macro_rules | `(tactic| walk_at "eval") => `(tactic| first
  | ((with_reducible show wpAny _ _ (eval (Expr.Name _ _) _) _ _ _); walk_at "nm")
  | with_reducible first
    | refine cInt ?_
    | (refine MethodCall_ ?_ (pl := ?pl1) (he := ?he1); (case he1 => with_unfolding_all rfl))
    | (refine Call_ ?_ (he := ?he1); (case he1 => with_unfolding_all rfl))
    | refine wpAny_BinOp ?_
    | refine Subscript_ ?_
    | (refine wpAny_Compare1 ?_ (hm := ?hm1); (case hm1 => with_unfolding_all rfl))
    | refine Tuple_ ?_
    | refine List_ ?_
    | refine wpAny_UnaryOp ?_
    | refine wpAny_IfExp ?_
    | refine cStr ?_
    | refine wpAny_Slice ?_
    | refine wpAny_Constant_bool ?_
    | refine wpAny_Constant_none ?_)
local macro_rules | `(tactic| walk_at "isT") => `(tactic| with_reducible first
  | (refine wpAny_isTrue_Compare1 ?_ (hm := ?hm1); (case hm1 => with_unfolding_all rfl))
  | refine isTrue_not ?_
  | refine isTrue_and ?_
  | refine isTrue_or ?_
  | refine isTrue_and_nil ?_
  | refine isTrue_or_nil ?_
  | (refine isTrue_plain ?_ (he := ?he1); (case he1 => with_unfolding_all rfl)))
local macro_rules | `(tactic| walk_at "cw") => `(tactic| with_reducible first
  | (refine callF (by assumption) (by assumption) ?_ (hk := ?hk1) (he := ?he1) (hplain := ?hp1); (case hk1 => walk_at "kf"); (case he1 => with_unfolding_all rfl); (case hp1 => with_unfolding_all rfl))
  | (refine PyProof.Rows.callWith_builtin1 ?_ (he := ?he1) (hplain := ?hp1); (case he1 => with_unfolding_all rfl); (case hp1 => with_unfolding_all rfl))
  | (refine callWith_method1 ?_ (he := ?he1) (hplain := ?hp1); (case he1 => with_unfolding_all rfl); (case hp1 => with_unfolding_all rfl))
  | (refine callWith_method0 ?_)
  | (refine PyProof.Rows.callWith_type1 ?_ (he := ?he1) (hplain := ?hp1); (case he1 => with_unfolding_all rfl); (case hp1 => with_unfolding_all rfl)))
local macro_rules | `(tactic| walk_at "gm") => `(tactic| with_reducible first
  | (refine GM.startswith ?_) | (refine GM.endswith ?_) | (refine GM.split ?_) | (refine GM.join ?_))
local macro_rules | `(tactic| walk_at "sp") => `(tactic| with_reducible first
  | (refine wpAny_items_cons ?_ (he := ?he1); (case he1 => with_unfolding_all rfl))
  | refine wpAny_items_nil ?_)
local macro_rules | `(tactic| walk_at "in") => `(tactic| ((with_reducible show PySem.W.Frag.In _ _ ∧ _); refine ⟨inK (by assumption) (by assumption), ?_⟩; try dsimp only [List.nil_append, List.cons_append]))
local macro_rules | `(tactic| walk_at "sn") => `(tactic| (refine stF (by assumption) ?hL1 ?hk1 ?hx1 ?_; (case hL1 => exact rfl); (case hk1 => with_unfolding_all rfl); (case hx1 => with_unfolding_all rfl); intro _ _; try dsimp only))
local macro_rules | `(tactic| walk_at "vi") => `(tactic| (refine isI_of (a := ?qa) (t := ?qt) ?q1 ?q2; (case q1 => walk_at "lk"); (case q2 => omega)))
local macro_rules | `(tactic| walk_at "sz") => `(tactic| exact Nat.le_of_ble_eq_true rfl)
local macro_rules | `(tactic| walk_at "g1") => `(tactic| first
  | ((with_reducible show wpAny _ _ (eval _ _) _ _ _); walk_at "eval")
  | ((with_reducible show wpAny _ _ (spliced _) _ _ _); walk_at "sp")
  | ((with_reducible show wpAny _ _ (callWith _ _ _ _ _) _ _ _); walk_at "cw")
  | ((with_reducible show wpAny _ _ (storeName _ _ _) _ _ _); walk_at "sn")
  | walk_at "xc"
  | with_reducible refine evP_some ?_
  | with_reducible refine evP_none ?_
  | ((with_reducible show wpAny _ _ (exec _ _) _ _ _); walk_at "exec")
  | ((with_reducible show wpAny _ _ (isTrue _ _ _) _ _ _); walk_at "isT")
  | with_reducible refine wpAny_execs_nil ?_
  | (refine cut_use (by assumption) ?_)
  | walk_at "in"
  | ((with_reducible show (if _ then _ else _)); (first | refine itT ?_ | refine itF ?_))
  | with_reducible refine wpAny_truthy_bool ?_
  | ((with_reducible show wpAny _ _ (getMethod _ _ _) _ _ _); walk_at "gm")
  | ((with_reducible show wpAny _ _ (binaryOp _ (Value.int _ _) (Value.int _ _)) _ _ _); (first | with_reducible refine addI ?_ | with_reducible refine subI ?_))
  | ((with_reducible show wpAny _ _ (compareOp _ (Value.int _ _) (Value.int _ _)) _ _ _); (first | with_reducible refine PyProof.Rows.lt_int ?_ | with_reducible refine PyProof.Rows.gt_int ?_ | with_reducible refine PyProof.Rows.eq_int ?_ | with_reducible refine PyProof.Rows.ne_int ?_))
  | ((with_reducible show wpAny _ _ (loadName _ _) _ _ _); refine ldL (by assumption) (v := ?vv) ?hL ?hv ?hk ?hx ?_; (case hv => walk_at "lk"); (case hL => exact rfl); (case hk => with_unfolding_all rfl); (case hx => with_unfolding_all rfl)))
local macro_rules | `(tactic| walk_at "go") => `(tactic| repeat (first | walk_at "g1" | (dsimp only; walk_at "g1")))

theorem fspath_spec {w : World} {A : Around} {s : Shared} {x : Str} {t : Tok} {Q E : Value → Shared → Prop} (G : Gd w s.heap) (r : Rm A 1)
    (h : ∀ h' tk', Kp s.heap h' → Q (.str x t) {s with heap := h', toks := tk'}) :
    wpAny (model P0 w) A (call (.ref 94) [.str x t]) Q E s := by
  refine enter [("path", .str x t)] G r.room rfl rfl (BindsTo.of_eq rfl) (locs rfl) (by decide) rfl rfl rfl ?_
  intro L h₁ S
  try dsimp only
  walk_at "go"
  refine call_type_of (Tx := "str") rfl rfl ?_
  refine stL S rfl rfl rfl ?_
  intro h₂ S₂
  try dsimp only
  walk_at "go"
  refine newT (by assumption) (by decide) ?_
  intro a h₃ S₃
  try dsimp only
  walk_at "go"
  refine issub_str (S₃.get (.head _)) ?_
  refine wpAny_truthy_bool ?_
  rw [if_pos rfl]
  walk_at "go"
  exact h _ _ S₃.kp
section
variable {w : World} {A : Around} {s : Shared} {Q E : Value → Shared → Prop} {name qual : Str} {params : Arguments} {body : List Stmt} {scope : Scope} {dV kV doc pm cdv ct oc : Value} {an od : Option Addr} {osl : Array (Option Value)} {f : Addr} {args : List Value}
theorem enterV (vs : List Value) (bf : Value → List (Str × Value)) (G : Gd w s.heap) (hroom : A.depth < recursionLimit)
    (ho : (KK w).lookup f = some ⟨oc, od, .func (fnOf name qual params body scope dV kV doc pm an cdv ct), osl⟩) (hcd : codeIn (KK w) cdv qual = true)
    (hbind : bindArgs (fnOf name qual params body scope dV kV doc pm an cdv ct) ⟨args, []⟩ = (newTuple vs >>= fun t => pure (bf t))) (hsz : vs.length ≤ sizeLine) (hloc : ∀ t, ∀ y ∈ bf t, scope.names.lookup y.1 = some .local)
    (hcell : ∀ x ∈ scope.names, x.2 ≠ .cell) (hco : scope.isCoroutine = false) (hgen : scope.isGenerator = false) (hk : scope.kind = .function)
    (h : ∀ T L h₁ tk, St s.heap L h₁ (fun y => (bf (.ref T)).reverse.lookup y) [(T, tobj vs)] →
      wpAny (model P0 w) (A.deeper (envX qual scope L f cdv [])) (execs body (envX qual scope L f cdv []))
        (fun fl s' => Q (match fl with | .ret v => v | _ => .none) s') (fun _ _ => False) { s with heap := h₁, toks := tk }) :
    wpAny (model P0 w) A (call (.ref f) args) Q E s := by
  refine wpAny_call (codeAny_call_function hroom (G.k _ _ ho) rfl hco hgen rfl (codeRec_of G.k hcd) ?_)
  rw [hbind]
  refine wpAny_bind (wpAny_newObj_type (wpAny_pure ?_) (by show vs.toArray.size ≤ sizeLine; rw [List.size_toArray]; exact hsz))
  have k0 : Kp s.heap (s.heap.push (tobj vs)) := fun b o e => Heap.get?_push_of_some _ e
  refine wpAny_newFunctionEnv hcell (hloc _) (fun h₁ hns hsb => ?_) hk
  refine ⟨(G.nolimit.keeps k0).fresh _ hsb, codeAny_func ?_⟩
  have k1 : Kp (s.heap.push (tobj vs)) h₁ := fun b o e => hsb.extBut b o (Nat.ne_of_lt (Heap.lt_size e)) (Heap.get?_push_of_some _ e)
  refine wpAny_mono (h s.heap.objs.size (s.heap.push (tobj vs)).objs.size h₁ _ ⟨hns, k0.trans k1, Heap.get?_none_of_le (by rw [Heap.size_push]; exact Nat.le_succ _), fun p hp => ?_, by simp⟩) (fun _ _ x => x) (fun _ _ x => x.elim)
  rw [List.mem_singleton.mp hp]
  exact ⟨k1 _ _ (Heap.get?_push_size _ rfl), by rw [Heap.size_push]; exact Nat.ne_of_lt (Nat.lt_succ_self _), Heap.get?_none_of_le (Nat.le_refl _)⟩
end

theorem getSep_spec {w : World} {A : Around} {s : Shared} {x : Str} {t : Tok} {Q E : Value → Shared → Prop} (G : Gd w s.heap) (r : Rm A 1)
    (h : ∀ h' tk' t', Kp s.heap h' → Q (.str (Str.ofString "/") t') {s with heap := h', toks := tk'}) :
    wpAny (model P0 w) A (call (.ref 108) [.str x t]) Q E s := by
  refine enter [("path", .str x t)] G r.room rfl rfl (BindsTo.of_eq rfl) (locs rfl) (by decide) rfl rfl rfl ?_
  intro L h₁ S
  try dsimp only
  walk_at "go"
  refine IsiPair.str_bytes ?_
  refine wpAny_truthy_bool ?_
  rw [if_neg Bool.false_ne_true]
  walk_at "go"
  exact h _ _ _ S.kp
theorem join_spec {w : World} {A : Around} {s : Shared} {a b : Str} {ta tb : Tok} {Q E : Value → Shared → Prop} (G : Gd w s.heap) (r : Rm A 2)
    (hb : Txt.startswith b (Str.ofString "/") = false) (ha : a.length ≠ 0) (hsz : a.length + b.length + 1 ≤ sizeLine)
    (h : ∀ h' tk' t', Kp s.heap h' → Q (.str (if Txt.endswith a (Str.ofString "/") then a ++ b else a ++ (Str.ofString "/" ++ b)) t') {s with heap := h', toks := tk'}) :
    wpAny (model P0 w) A (call (.ref 115) [.str a ta, .str b tb]) Q E s := by
  refine enterV [.str b tb] (fun t => [("a", .str a ta), ("p", t)]) G r.room rfl rfl rfl (by walk_at "sz") (fun t => locs rfl) (by decide) rfl rfl rfl ?_
  intro T L h₁ tk S
  try dsimp only
  walk_at "go"
  refine fspath_spec (inG G S) (r.deep _) ?_
  intro h₂ tk₂ k₂
  have S₂ := S.keep k₂
  clear S
  walk_at "go"
  rename_i h₃ S₃
  refine getSep_spec (inG G S₃) (r.deep _) ?_
  intro h₄ tk₄ t₄ k₄
  have S₄ := S₃.keep k₄
  clear S₃
  walk_at "go"
  rename_i S₅
  obtain ⟨C, kC, kCh, hC, hT, S₆⟩ := St.freeze (O₁ := [(T, tobj [.str b tb])]) (O₂ := []) S₅
  have GC := G.kp kC
  clear G S₂ S₄ S₅
  refine iterTuple (O := []) [] r.hand (items := #[.str b tb]) ⟨_, hT _ (.head _), rfl, _, rfl⟩ S₆ ?_
  intro I o h₇ S₇ sr
  refine for_src (fun i B' m' O' => O' = [] ∧ m' "sep" = some (.str (Str.ofString "/") t₄) ∧ ∃ t, m' "path" = some (.str (if i = 0 then a else (if Txt.endswith a (Str.ofString "/") then a ++ b else a ++ (Str.ofString "/" ++ b))) t)) sr rfl rfl rfl S₇ ⟨rfl, rfl, _, rfl⟩ ?_ ?_ (fun f s' q => q)
  · rintro i v C' h m' O' X tk hi hv kC' ⟨rfl, hsep, t, hp⟩ S
    obtain ⟨rfl⟩ : i = 0 := by simp at hi; exact hi
    obtain rfl : v = .str b tb := by simpa using hv.symm
    have GC' := GC.kp kC'
    rw [if_pos rfl] at hp
    walk_at "go"
    refine fspath_spec (inG GC' S) (r.deep _) ?_
    intro h₈ tk₈ k₈
    have S₈ := S.keep k₈
    clear S
    walk_at "go"
    refine SC.startswith ?_
    rw [hb]
    walk_at "go"
    refine P.truthy_str (by rw [sizeLine_eq] at hsz; exact om294 hsz) ?_
    have hne : ((a.length : Int) != 0) = true := by simpa using ha
    rw [hne]
    walk_at "go"
    refine SC.endswith ?_
    have hs1 : (Str.ofString "/").length = 1 := rfl
    refine wpAny_truthy_bool ?_
    cases he : Txt.endswith a (Str.ofString "/") with
    | true =>
      walk_at "go"
      refine iaddS (by exact om295 hsz) (fun t' tk' => ?_)
      walk_at "go"
      refine turn_next (kp_refl _) (O' := []) (by assumption) ⟨rfl, ?_, t', ?_⟩
      · walk_at "lk"
      · exact rfl
    | false =>
      walk_at "go"
      refine addS (by exact om296 hsz hs1) (fun t' tk' => ?_)
      refine iaddS (by rw [Str.length_append]; exact om297 hsz hs1) (fun t' tk' => ?_)
      walk_at "go"
      refine turn_next (kp_refl _) (O' := []) (by assumption) ⟨rfl, ?_, t', ?_⟩
      · walk_at "lk"
      · exact rfl
  · rintro C' h₉ m' O' tk kC' ⟨rfl, hsep, t, hp⟩ S
    rw [if_neg (show ¬ (#[Value.str b tb].size = 0) from Nat.one_ne_zero)] at hp
    walk_at "go"
    exact h _ _ _ (kC.trans (kC'.trans S.kp))
inductive At where
  | i (n : Int)
  | s (x : Str)
noncomputable def eqA : At → At → Bool
  | .i a, .i b => a == b
  | .s x, .s y => x == y
  | _, _ => false
noncomputable def ltA : At → At → Bool
  | .i a, .i b => decide (a < b)
  | .s x, .s y => decide (x.cps.toList < y.cps.toList)
  | _, _ => false
noncomputable def kdA : At → At → Bool
  | .i _, .i _ => true
  | .s _, .s _ => true
  | _, _ => false
noncomputable def IsA : Value → At → Prop
  | .int n _, .i m => n = m
  | .str x _, .s y => x = y
  | _, _ => False
noncomputable def lexlt : List At → List At → Bool
  | [], [] => false
  | [], _ :: _ => true
  | _ :: _, [] => false
  | a :: r, b :: q => if eqA a b then lexlt r q else ltA a b
noncomputable def kdL : List At → List At → Bool
  | a :: r, b :: q => kdA a b && kdL r q
  | _, _ => true

theorem isA_int {v : Value} {n : Int} (h : IsA v (.i n)) : ∃ t, v = .int n t := by
  cases v <;> first | exact h.elim | exact ⟨_, by rw [show _ = n from h]⟩
theorem isA_str {v : Value} {x : Str} (h : IsA v (.s x)) : ∃ t, v = .str x t := by
  cases v <;> first | exact h.elim | exact ⟨_, by rw [show _ = x from h]⟩

theorem eqA_gives {v v' : Value} {a a' : At} (h : IsA v a) (h' : IsA v' a') (k : kdA a a' = true) : MeetsSeq.EqGives v v' (eqA a a') := by
  cases a with
  | i n => cases a' with
    | i n' => obtain ⟨t, rfl⟩ := isA_int h; obtain ⟨t', rfl⟩ := isA_int h'; exact MeetsSeq.EqGives.int n n' t t'
    | s x' => cases k
  | s x => cases a' with
    | i n' => cases k
    | s x' => obtain ⟨t, rfl⟩ := isA_str h; obtain ⟨t', rfl⟩ := isA_str h'; exact eqGives_str x x' t t'
theorem ltA_rc {prog : Program} {w : World} {A : Around} {s : Shared} {Q E : Value → Shared → Prop} {v v' : Value} {a a' : At} (h : IsA v a) (h' : IsA v' a') (k : kdA a a' = true) (hq : Q (.bool (ltA a a')) s) : wpAny (model prog w) A (richCompare .Lt v v') Q E s := by
  cases a with
  | i n => cases a' with
    | i n' => obtain ⟨t, rfl⟩ := isA_int h; obtain ⟨t', rfl⟩ := isA_int h'; exact PyProof.Rows.lt_int (show Q (.bool (decide (n < n'))) s from hq)
    | s x' => cases k
  | s x => cases a' with
    | i n' => cases k
    | s x' => obtain ⟨t, rfl⟩ := isA_str h; obtain ⟨t', rfl⟩ := isA_str h'; exact PyProof.Rows.lt_str (show Q (.bool (decide (x.cps.toList < x'.cps.toList))) s from hq)
theorem gtA_rc {prog : Program} {w : World} {A : Around} {s : Shared} {Q E : Value → Shared → Prop} {v v' : Value} {a a' : At} (h : IsA v a) (h' : IsA v' a') (k : kdA a a' = true) (hq : Q (.bool (ltA a' a)) s) : wpAny (model prog w) A (richCompare .Gt v v') Q E s := by
  cases a with
  | i n => cases a' with
    | i n' => obtain ⟨t, rfl⟩ := isA_int h; obtain ⟨t', rfl⟩ := isA_int h'; exact PyProof.Rows.gt_int (show Q (.bool (decide (n' < n))) s from hq)
    | s x' => cases k
  | s x => cases a' with
    | i n' => cases k
    | s x' => obtain ⟨t, rfl⟩ := isA_str h; obtain ⟨t', rfl⟩ := isA_str h'; exact P.gt_str (show Q (.bool (decide (x'.cps.toList < x.cps.toList))) s from hq)

inductive Prs : List Value → List Value → List At → List At → Prop
  | nil (vs us as bs) : vs.length = as.length → us.length = bs.length → (vs = [] ∨ us = []) → Prs vs us as bs
  | cons {v u : Value} {a b : At} {vs us : List Value} {as bs : List At} : IsA v a → IsA u b → kdA a b = true → Prs vs us as bs → Prs (v :: vs) (u :: us) (a :: as) (b :: bs)

theorem tuple_ltAt (l b : Addr) (items items2 : List Value) (n n2 : Nat) (as bs : List At) (hp : Prs items items2 as bs) :
    Meets (Builtin.«tuple.__lt__» ⟨[.ref l, .ref b], []⟩)
      (fun A R s => s.heap.get? l = some { cls := .type "tuple", data := .seq items.toArray n } ∧ s.heap.get? b = some { cls := .type "tuple", data := .seq items2.toArray n2 } ∧
        R (.ok (.ret (.bool (lexlt as bs)))) s) :=
  .of_wp fun prog w A R s h => by
    obtain ⟨hp', g, d, tk, os⟩ := s; obtain ⟨hl, hb, h⟩ := h
    have f2 := AutoSeq1.sub_tuple_tuple
    wp_walk using AutoSeq1.wpAny_loadPart' hl, AutoSeq1.wpAny_loadPart' hb, wpAny_forIn_list _ (fun rest b s' => b.1 = none ∧ s' = ⟨hp', g, d, tk, os⟩ ∧ ∃ vs us as bs, Prs vs us as bs ∧ rest = vs.zip us ∧
      decide (vs.length < us.length) = decide (items.length < items2.length) ∧ R (.ok (.ret (.bool (lexlt as bs)))) ⟨hp', g, d, tk, os⟩) _
    case turn =>
      rintro ⟨y, x⟩ rest b' s' ⟨hb', rfl, vs, us, as, bs, hP, hz, hd, hR⟩
      cases hP with
      | nil _ _ _ _ _ _ e => rcases e with rfl | rfl <;> simp at hz
      | cons h1 h2 k hP' =>
        rw [List.zip_cons_cons] at hz
        injection hz with e1 e2
        injection e1 with e3 e4
        subst e3 e4 e2
        refine wpAny_bind (eqA_gives h1 h2 k prog w _ _ _ _ ?_)
        rw [lexlt] at hR
        cases he : eqA _ _ with
        | true =>
          rw [he, if_pos rfl] at hR
          wp_walk
          exact ⟨rfl, rfl, _, _, _, _, hP', rfl, by rw [← hd]; simp, hR⟩
        | false =>
          rw [he, if_neg Bool.false_ne_true] at hR
          wp_walk using ltA_rc h1 h2 k
          exact ⟨_, rfl, hR⟩
    case fin =>
      rintro ⟨b1, b2⟩ s' ⟨hb', rfl, vs, us, as, bs, hP, hz, hd, hR⟩
      simp only at hb'
      subst hb'
      wp_walk
      refine ⟨_, rfl, ?_⟩
      have : Builtin.Tuple.tupleCompareSizes CmpOp.Lt items.toArray.size items2.toArray.size = .bool (lexlt as bs) := by
        cases hP with
        | nil _ _ _ _ h1 h2 e =>
          simp only [Builtin.Tuple.tupleCompareSizes, List.size_toArray]
          rw [← hd]
          rcases e with rfl | rfl
          · cases as with
            | nil => cases us with
              | nil => cases bs with
                | nil => rfl
                | cons _ _ => cases h2
              | cons _ _ => cases bs with
                | nil => cases h2
                | cons _ _ => simp [lexlt]
            | cons _ _ => cases h1
          · cases bs with
            | nil => cases as <;> simp [lexlt]
            | cons _ _ => cases h2
        | cons => simp at hz
      rw [this]; exact hR
    case h =>
      exact ⟨rfl, rfl, items, items2, as, bs, hp, rfl, rfl, h⟩

theorem tup_lt {w : World} {A : Around} {s : Shared} {Q E : Value → Shared → Prop} {a b : Addr} {vs us : List Value} {n n2 : Nat} {as bs : List At} (ha : s.heap.get? a = some { cls := .type "tuple", data := .seq vs.toArray n }) (hb : s.heap.get? b = some { cls := .type "tuple", data := .seq us.toArray n2 })
    (hp : Prs vs us as bs) (hu : A.units < cLine) (h : Q (.bool (lexlt as bs)) s) : wpAny (model P0 w) A (compareOp .Lt (.ref a) (.ref b)) Q E s :=
  richCompare_meets_room (op := .Lt) (s := s) (T := "tuple") (show s.TypeIs (.ref a) "tuple" from ⟨_, ha, rfl⟩) (show s.TypeIs (.ref b) "tuple" from ⟨_, hb, rfl⟩) F.slot_tuple_lt F.entry_tuple_lt (F.args_tuple_lt_2 _ _) (tuple_ltAt a b vs us n n2 as bs hp) ⟨ha, hb, show _ ∧ _ from ⟨fun e => (by cases e), h⟩⟩ hu
section
variable {w : World} {A : Around} {s : Shared} {E : Value → Shared → Prop} {B : Heap} {L : Addr} {m : Str → Option Value} {O O₁ O₂ : Led}

theorem itemL {value slice : Expr} {l : Addr} {xs : Array Value} {k : Int} {j : Nat} {t : Tok} {v : Value} {Q : Value → Shared → Prop}
    (hl : s.heap.IsList l xs) (hk : k = (j : Int)) (hb : j < 2 ^ 63) (hx : xs[j]? = some v)
    (hs : subscripted slice false (.ref l) (.int k t) = operate [.ref l, .int k t] (getItem (.ref l) (.int k t))) (h : Q v s) :
    wpAny (model P0 w) A (subscriptTail value slice (.ref l) (.int k t)) Q E s := by
  subst hk
  exact tail_any hl.typeIs slot_list_getitem.lookup (wpAny_getItem_list hl (by exact om3) (by exact om79 hb) (by simpa using hx) h) hs
theorem itemLn {value slice : Expr} {l : Addr} {xs : Array Value} {k : Int} {t : Tok} {v : Value} {Q : Value → Shared → Prop}
    (hl : s.heap.IsList l xs) (h0 : k < 0) (h1 : -(xs.size : Int) ≤ k) (hb : -(2 ^ 63) ≤ k) (hx : xs[(k + xs.size).toNat]? = some v)
    (hs : subscripted slice false (.ref l) (.int k t) = operate [.ref l, .int k t] (getItem (.ref l) (.int k t))) (h : Q v s) :
    wpAny (model P0 w) A (subscriptTail value slice (.ref l) (.int k t)) Q E s :=
  tail_any hl.typeIs slot_list_getitem.lookup (wpAny_getItem_list_neg hl h0 h1 hb hx h) hs
theorem itemT {value slice : Expr} {l : Addr} {xs : List Value} {k : Int} {j : Nat} {t : Tok} {v : Value} {Q : Value → Shared → Prop}
    (hl : s.heap.IsTuple l xs.toArray) (hk : k = (j : Int)) (hb : j < 2 ^ 63) (hx : xs[j]? = some v)
    (hs : subscripted slice false (.ref l) (.int k t) = operate [.ref l, .int k t] (getItem (.ref l) (.int k t))) (h : Q v s) :
    wpAny (model P0 w) A (subscriptTail value slice (.ref l) (.int k t)) Q E s := by
  subst hk
  have hj : j < xs.length := by
    rcases Nat.lt_or_ge j xs.length with h | h
    · exact h
    · rw [List.getElem?_eq_none h] at hx; cases hx
  refine item_tupleT hl (by exact om492) (by exact om79 hb) (j := j) ?_ hx h hs
  unfold seqIndex?
  have h0 : ¬ ((j : Int) < 0) := by exact om61
  simp only [h0, if_false]
  have h1 : (decide (0 ≤ (j : Int)) && decide ((j : Int) < (xs.length : Int))) = true := by simp; exact om27 hj
  rw [if_pos h1]; simp

theorem isL {l : Addr} {xs : List Value} {e : Nat} {h : Heap} (ho : h.get? l = some (lobj xs e)) : h.IsList l xs.toArray := ⟨_, ho, rfl, e, rfl⟩
theorem isT {l : Addr} {xs : List Value} {h : Heap} (ho : h.get? l = some (tobj xs)) : h.IsTuple l xs.toArray := ⟨_, ho, rfl, 0, rfl⟩

theorem setL {l : Addr} {xs : List Value} {e : Nat} {k : Int} {j : Nat} {t : Tok} {v : Value} {Q : Unit → Shared → Prop} (S : St B L s.heap m (O₁ ++ (l, lobj xs e) :: O₂))
    (hk : k = (j : Int)) (hb : j < 2 ^ 63) (hj : j < xs.length) (h : ∀ h', St B L h' m (O₁ ++ (l, lobj (xs.set j v) e) :: O₂) → Q () { s with heap := h' }) :
    wpAny (model P0 w) A (setItem (.ref l) (.int k t) v) Q E s := by
  subst hk
  have ho := (S.nw (l, lobj xs e) (by simp)).1
  refine ki_setAt (n := e) ho (by exact om3) (by exact om79 hb) (by simpa using hj) (h _ (S.sameBut (Heap.SameBut.update ..) ?_))
  have q := IsL.update (h := s.heap) (l := l) (items := xs.toArray) (n := e) ho (·.setIfInBounds (j : Int).toNat v)
  have e1 : (xs.toArray.setIfInBounds (j : Int).toNat v) = (xs.set j v).toArray := by simp
  have e2 : ((xs.toArray.setIfInBounds (j : Int).toNat v).size == xs.toArray.size) = true := by simp
  rw [if_pos e2, e1] at q
  exact q
theorem appL {l : Addr} {xs : List Value} {e : Nat} {v : Value} {Q : Value → Shared → Prop} (S : St B L s.heap m (O₁ ++ (l, lobj xs e) :: O₂)) (hsz : xs.length ≤ sizeLine)
    (h : ∀ h' e', St B L h' m (O₁ ++ (l, lobj (xs ++ [v]) e') :: O₂) → Q .none { s with heap := h' }) : wpAny (model P0 w) A (call (.builtin "list.append") [.ref l, v]) Q E s := by
  have ho := (S.nw (l, lobj xs e) (by simp)).1
  refine wpAny_list_append_plain (items := xs.toArray) ⟨e, ho⟩ (fun h' hl hs => ?_) (hsz := by rw [List.size_toArray]; exact hsz)
  obtain ⟨e', hl⟩ := hl
  refine h h' e' (S.sameBut hs ?_)
  rw [hl]; simp [lobj]
theorem popL {l : Addr} {xs : List Value} {y : Value} {e : Nat} {Q : Value → Shared → Prop} (S : St B L s.heap m (O₁ ++ (l, lobj (xs ++ [y]) e) :: O₂)) (hsz : xs.length + 1 ≤ sizeLine)
    (h : ∀ h' e', St B L h' m (O₁ ++ (l, lobj xs e') :: O₂) → Q y { s with heap := h' }) : wpAny (model P0 w) A (call (.builtin "list.pop") [.ref l]) Q E s := by
  have ho := (S.nw (l, lobj (xs ++ [y]) e) (by simp)).1
  have hk : (xs ++ [y]).toArray.size - 1 = xs.length := by rw [List.size_toArray, List.length_append]; rfl
  have hy : (xs ++ [y]).toArray[(xs ++ [y]).toArray.size - 1]? = some y := by rw [hk]; simp
  refine call_meets PySem.F.slot_list_pop ⟨_, ho, rfl⟩ PySem.F.entry_list_pop (PySem.F.args_list_pop_1 _) (PySem.MeetsSeq.list_pop_last l _ e y hy (by simpa using hsz)) ⟨ho, h _ (if (xs.toArray.size == (xs ++ [y]).toArray.size) = true then e else e + 1) (S.sameBut (Heap.SameBut.update ..) ?_)⟩
  have q := IsL.update (h := s.heap) (l := l) (items := (xs ++ [y]).toArray) (n := e) ho (fun z => z.eraseIdxIfInBounds ((xs ++ [y]).toArray.size - 1))
  have e1 : (xs ++ [y]).toArray.eraseIdxIfInBounds ((xs ++ [y]).toArray.size - 1) = xs.toArray := by rw [hk, kl_erase, List.append_nil]
  rw [e1] at q
  exact q
theorem gmAppend {l : Addr} {xs : List Value} {e : Nat} {pl : Sem Bool} {Q : Value × List Value → Shared → Prop} (S : St B L s.heap m O) (hm : (l, lobj xs e) ∈ O) (h : Q (.builtin "list.append", [.ref l]) s) :
    wpAny (model P0 w) A (getMethod (.ref l) (Str.ofString "append") pl) Q E s := getMethod_list_append (S.get hm) rfl rfl h
theorem gmPop {l : Addr} {xs : List Value} {e : Nat} {pl : Sem Bool} {Q : Value × List Value → Shared → Prop} (S : St B L s.heap m O) (hm : (l, lobj xs e) ∈ O) (h : Q (.builtin "list.pop", [.ref l]) s) :
    wpAny (model P0 w) A (getMethod (.ref l) (Str.ofString "pop") pl) Q E s := Copied.getMethod_pop_at (S.get hm) rfl rfl h
theorem lenL {l : Addr} {xs : Array Value} {Q : Value → Shared → Prop} (hl : s.heap.IsList l xs) (hz : xs.size ≤ 16384) (h : ∀ t tk, Q (.int xs.size t) { s with toks := tk }) : wpAny (model P0 w) A (call (.builtin "len") [.ref l]) Q E s :=
  kun_lenL hl rfl (by exact om261 hz) (h _ _)
theorem lenT {l : Addr} {xs : Array Value} {Q : Value → Shared → Prop} (hl : s.heap.IsTuple l xs) (hz : xs.size ≤ 16384) (h : ∀ t tk, Q (.int xs.size t) { s with toks := tk }) : wpAny (model P0 w) A (call (.builtin "len") [.ref l]) Q E s :=
  kun_lenT hl rfl (by exact om261 hz) (h _ _)
theorem trueL {l : Addr} {xs : Array Value} {Q : Bool → Shared → Prop} (hl : s.heap.IsList l xs) (hz : xs.size ≤ 16384) (h : ∀ tk, Q (!xs.isEmpty) { s with toks := tk }) : wpAny (model P0 w) A (truthy (.ref l)) Q E s :=
  wpAny_truthy_list hl (by exact om493 hz) (h _)
end
structure SO {α : Type} (lt : α → α → Bool) : Prop where
  asym : ∀ a b, lt a b = true → lt b a = false
  trans : ∀ a b c, lt b a = false → lt c b = false → lt c a = false

section
variable {α : Type} (lt : α → α → Bool)
noncomputable def IsHp (ks : List α) : Prop := ∀ i x y, 0 < i → ks[i]? = some x → ks[(i - 1) / 2]? = some y → lt x y = false

noncomputable def sd (x : α) (pos : Nat) (ks : List α) : List α :=
  if h : pos = 0 then ks.set 0 x else
  match ks[(pos - 1) / 2]? with
  | some p => if lt x p then sd x ((pos - 1) / 2) (ks.set pos p) else ks.set pos x
  | none => ks.set pos x
termination_by pos
decreasing_by exact om88 h

structure PreD (x : α) (pos : Nat) (ks : List α) : Prop where
  rest : ∀ i u v, 0 < i → i ≠ pos → (i - 1) / 2 ≠ pos → ks[i]? = some u → ks[(i - 1) / 2]? = some v → lt u v = false
  kids : ∀ i u, 0 < i → (i - 1) / 2 = pos → ks[i]? = some u → lt u x = false
  kin : ∀ i u v, 0 < i → (i - 1) / 2 = pos → 0 < pos → ks[i]? = some u → ks[(pos - 1) / 2]? = some v → lt u v = false

theorem set_swap {ks : List α} {i j : Nat} {x p : α} (hi : i < ks.length) (hij : i ≠ j) (hj : ks[j]? = some p) : ((ks.set i p).set j x).Perm (ks.set i x) := by
  have hjl : j < ks.length := by
    rcases Nat.lt_or_ge j ks.length with h | h
    · exact h
    · rw [List.getElem?_eq_none h] at hj; cases hj
  have h := List.set_set_perm (as := ks.set i x) (i := i) (j := j) (by simpa using hi) (by simpa using hjl)
  have e1 : (ks.set i x)[i]'(by simpa using hi) = x := by simp
  have e2 : (ks.set i x)[j]'(by simpa using hjl) = p := by
    rw [List.getElem_set_ne hij]
    have := List.getElem?_eq_getElem hjl
    rw [hj] at this; exact (Option.some.inj this).symm
  rw [e1, e2, List.set_set] at h
  exact h

theorem sd_ok {lt : α → α → Bool} (so : SO lt) (x : α) : ∀ (pos : Nat) (ks : List α), pos < ks.length → PreD lt x pos ks → IsHp lt (sd lt x pos ks) ∧ (sd lt x pos ks).Perm (ks.set pos x) := by
  intro pos
  induction pos using Nat.strongRecOn with
  | ind pos ih =>
    intro ks hlt P
    have fin : (0 < pos → ∀ p, ks[(pos - 1) / 2]? = some p → lt x p = false) → IsHp lt (ks.set pos x) := by
      intro hp i u v hi hu hv
      by_cases h1 : i = pos
      · subst h1
        rw [List.getElem?_set_self hlt] at hu
        cases hu
        rw [List.getElem?_set_ne (by exact om89 hi)] at hv
        exact hp hi v hv
      · rw [List.getElem?_set_ne (Ne.symm h1)] at hu
        by_cases h2 : (i - 1) / 2 = pos
        · rw [h2, List.getElem?_set_self hlt] at hv
          cases hv
          exact P.kids i u hi h2 hu
        · rw [List.getElem?_set_ne (Ne.symm h2)] at hv
          exact P.rest i u v hi h1 h2 hu hv
    unfold sd
    by_cases h0 : pos = 0
    · subst h0
      rw [dif_pos rfl]
      exact ⟨fin fun h => absurd h (Nat.lt_irrefl _), List.Perm.refl _⟩
    · rw [dif_neg h0]
      have hpp : (pos - 1) / 2 < ks.length := by exact om30 hlt
      have hne : (pos - 1) / 2 ≠ pos := by exact om298 h0
      rw [List.getElem?_eq_getElem hpp]
      dsimp only
      have hg := List.getElem?_eq_getElem hpp
      generalize ks[(pos - 1) / 2] = p at hg
      cases hc : lt x p with
      | false =>
        rw [if_neg Bool.false_ne_true]
        exact ⟨fin fun _ q hq => by rw [hg] at hq; cases hq; exact hc, List.Perm.refl _⟩
      | true =>
        rw [if_pos rfl]
        have hpx := so.asym _ _ hc
        have g := ih ((pos - 1) / 2) (by exact om299 hne) (ks.set pos p) (by simpa using hpp) ⟨?_, ?_, ?_⟩
        · exact ⟨g.1, g.2.trans (set_swap hlt (Ne.symm hne) hg)⟩
        · intro i u v hi h1 h2 hu hv
          have h3 : i ≠ pos := fun e => h2 (by rw [e])
          rw [List.getElem?_set_ne (Ne.symm h3)] at hu
          by_cases h4 : (i - 1) / 2 = pos
          · rw [h4, List.getElem?_set_self hlt] at hv
            cases hv
            exact P.kin i u p hi h4 (by exact om300 h4 h2) hu hg
          · rw [List.getElem?_set_ne (Ne.symm h4)] at hv
            exact P.rest i u v hi h3 h4 hu hv
        · intro i u hi h1 hu
          by_cases h3 : i = pos
          · rw [h3, List.getElem?_set_self hlt] at hu
            cases hu; exact hpx
          · rw [List.getElem?_set_ne (Ne.symm h3)] at hu
            exact so.trans _ _ _ hpx (P.rest i u p hi h3 (by exact om90 h1 hne) hu (h1 ▸ hg))
        · intro i u v hi h1 h2 hu hv
          rw [List.getElem?_set_ne (by exact om301 h2)] at hv
          have h5 : lt p v = false := P.rest ((pos - 1) / 2) p v h2 hne (by exact om302 h2) hg hv
          by_cases h3 : i = pos
          · rw [h3, List.getElem?_set_self hlt] at hu
            cases hu; exact h5
          · rw [List.getElem?_set_ne (Ne.symm h3)] at hu
            exact so.trans _ _ _ h5 (P.rest i u p hi h3 (by exact om90 h1 hne) hu (h1 ▸ hg))

noncomputable def push (ks : List α) (x : α) : List α := sd lt x ks.length (ks ++ [x])
theorem push_ok {lt : α → α → Bool} (so : SO lt) {ks : List α} (hp : IsHp lt ks) (x : α) : IsHp lt (push lt ks x) ∧ (push lt ks x).Perm (ks ++ [x]) := by
  have h := sd_ok so x ks.length (ks ++ [x]) (by simp) ⟨?_, ?_, ?_⟩
  · have e : (ks ++ [x]).set ks.length x = ks ++ [x] := by simp
    rw [e] at h; exact h
  · intro i u v hi h1 h2 hu hv
    have hlt : i < ks.length := by
      have : i < (ks ++ [x]).length := by
        rcases Nat.lt_or_ge i (ks ++ [x]).length with h | h
        · exact h
        · rw [List.getElem?_eq_none h] at hu; cases hu
      simp at this; exact om6 this h1
    rw [List.getElem?_append_left hlt] at hu
    rw [List.getElem?_append_left (by exact om30 hlt)] at hv
    exact hp i u v hi hu hv
  · intro i u hi h1 hu
    rw [List.getElem?_eq_none (by simp; exact om91 h1 hi)] at hu; cases hu
  · intro i u v hi h1 h2 hu hv
    rw [List.getElem?_eq_none (by simp; exact om91 h1 hi)] at hu; cases hu

noncomputable def su (pos : Nat) (ks : List α) : Nat × List α :=
  if h : 2 * pos + 1 < ks.length then
    match ks[2 * pos + 1]?, ks[2 * pos + 2]? with
    | some a, some b => if lt a b then su (2 * pos + 1) (ks.set pos a) else su (2 * pos + 2) (ks.set pos b)
    | some a, none => su (2 * pos + 1) (ks.set pos a)
    | none, _ => (pos, ks)
  else (pos, ks)
termination_by ks.length - pos
decreasing_by all_goals (simp only [List.length_set]; (first | exact om92 h | exact om303 h))

structure PreU (pos : Nat) (ks : List α) : Prop where
  rest : ∀ i u v, 0 < i → i ≠ pos → (i - 1) / 2 ≠ pos → ks[i]? = some u → ks[(i - 1) / 2]? = some v → lt u v = false
  kin : ∀ i u v, 0 < i → (i - 1) / 2 = pos → 0 < pos → ks[i]? = some u → ks[(pos - 1) / 2]? = some v → lt u v = false

theorem preU_step {lt : α → α → Bool} {pos c : Nat} {ks : List α} {q : α} (P : PreU lt pos ks) (hlt : pos < ks.length) (hc : c = 2 * pos + 1 ∨ c = 2 * pos + 2) (hq : ks[c]? = some q)
    (hmin : ∀ i u, 0 < i → (i - 1) / 2 = pos → i ≠ c → ks[i]? = some u → lt u q = false) : PreU lt c (ks.set pos q) := by
  have hcp : (c - 1) / 2 = pos := by exact om304 hc
  refine ⟨?_, ?_⟩
  · intro i u v hi h1 h2 hu hv
    by_cases h3 : i = pos
    · subst h3
      rw [List.getElem?_set_self hlt] at hu
      cases hu
      rw [List.getElem?_set_ne (by exact om89 hi)] at hv
      exact P.kin c _ v (by exact om305 hcp hi) hcp hi hq hv
    · rw [List.getElem?_set_ne (Ne.symm h3)] at hu
      by_cases h4 : (i - 1) / 2 = pos
      · rw [h4, List.getElem?_set_self hlt] at hv
        cases hv
        exact hmin i u hi h4 h1 hu
      · rw [List.getElem?_set_ne (Ne.symm h4)] at hv
        exact P.rest i u v hi h3 h4 hu hv
  · intro i u v hi h1 h2 hu hv
    rw [hcp, List.getElem?_set_self hlt] at hv
    cases hv
    rw [List.getElem?_set_ne (by exact om306 hcp h1 h2)] at hu
    exact P.rest i u _ hi (by exact om307 hcp h1 h2) (by exact om308 hcp h1 h2) hu (h1 ▸ hq)

theorem su_ok {lt : α → α → Bool} (so : SO lt) (x : α) : ∀ (k : Nat) (pos : Nat) (ks : List α), ks.length - pos = k → pos < ks.length → PreU lt pos ks →
    (su lt pos ks).1 < (su lt pos ks).2.length ∧ (su lt pos ks).2.length = ks.length ∧ ks.length ≤ 2 * (su lt pos ks).1 + 1 ∧ PreU lt (su lt pos ks).1 (su lt pos ks).2 ∧ ((su lt pos ks).2.set (su lt pos ks).1 x).Perm (ks.set pos x) := by
  intro k
  induction k using Nat.strongRecOn with
  | ind k ih =>
    intro pos ks hk hlt P
    unfold su
    by_cases h : 2 * pos + 1 < ks.length
    · rw [dif_pos h]
      have ha := List.getElem?_eq_getElem h
      generalize ks[2 * pos + 1] = a at ha
      rw [ha]
      have go : ∀ c q, (c = 2 * pos + 1 ∨ c = 2 * pos + 2) → ks[c]? = some q → (∀ i u, 0 < i → (i - 1) / 2 = pos → i ≠ c → ks[i]? = some u → lt u q = false) →
          (su lt c (ks.set pos q)).1 < (su lt c (ks.set pos q)).2.length ∧ (su lt c (ks.set pos q)).2.length = ks.length ∧ ks.length ≤ 2 * (su lt c (ks.set pos q)).1 + 1 ∧ PreU lt (su lt c (ks.set pos q)).1 (su lt c (ks.set pos q)).2 ∧ ((su lt c (ks.set pos q)).2.set (su lt c (ks.set pos q)).1 x).Perm (ks.set pos x) := by
        intro c q hc hq hmin
        have hcl : c < ks.length := by
          rcases Nat.lt_or_ge c ks.length with h' | h'
          · exact h'
          · rw [List.getElem?_eq_none h'] at hq; cases hq
        obtain ⟨g1, g2, g3, g4, g5⟩ := ih (ks.length - c) (by exact om309 hk hc hcl) c (ks.set pos q) (by simp) (by simpa using hcl) (preU_step P hlt hc hq hmin)
        rw [List.length_set] at g2 g3
        exact ⟨g1, g2, g3, g4, g5.trans (set_swap hlt (by exact om310 hc) hq)⟩
      cases hb : ks[2 * pos + 2]? with
      | none =>
        dsimp only
        refine go _ a (.inl rfl) ha fun i u hi h1 h2 hu => ?_
        have : i = 2 * pos + 2 := by exact om93 h1 hi h2
        rw [this, hb] at hu; cases hu
      | some b =>
        dsimp only
        cases hc : lt a b with
        | true =>
          rw [if_pos rfl]
          refine go _ a (.inl rfl) ha fun i u hi h1 h2 hu => ?_
          have : i = 2 * pos + 2 := by exact om93 h1 hi h2
          rw [this, hb] at hu; cases hu
          exact so.asym _ _ hc
        | false =>
          rw [if_neg Bool.false_ne_true]
          refine go _ b (.inr rfl) hb fun i u hi h1 h2 hu => ?_
          have : i = 2 * pos + 1 := by exact om311 h1 hi h2
          rw [this, ha] at hu; cases hu
          exact hc
    · rw [dif_neg h]
      exact ⟨hlt, rfl, by exact om312 h, P, List.Perm.refl _⟩

noncomputable def sift0 (ks : List α) : List α := match ks with
  | [] => []
  | x :: _ => sd lt x (su lt 0 ks).1 ((su lt 0 ks).2.set (su lt 0 ks).1 x)

theorem sift0_ok {lt : α → α → Bool} (so : SO lt) {x : α} {ks : List α} (P : PreU lt 0 (x :: ks)) : IsHp lt (sift0 lt (x :: ks)) ∧ (sift0 lt (x :: ks)).Perm (x :: ks) := by
  obtain ⟨g1, g2, g3, g4, g5⟩ := su_ok so x _ 0 (x :: ks) rfl (by simp) P
  unfold sift0
  dsimp only
  have e : (x :: ks).set 0 x = x :: ks := rfl
  rw [e] at g5
  generalize hr : su lt 0 (x :: ks) = r at g1 g2 g3 g4 g5
  have leaf : ∀ {i : Nat}, (i - 1) / 2 = r.1 → 0 < i → ¬ i < r.2.length := fun h1 h2 h3 => by exact om313 h1 h2 h3 g2 g3
  have h := sd_ok so x r.1 (r.2.set r.1 x) (by simpa using g1) ⟨?_, ?_, ?_⟩
  · rw [List.set_set] at h
    exact ⟨h.1, h.2.trans g5⟩
  · intro i u v hi h1 h2 hu hv
    rw [List.getElem?_set_ne (Ne.symm h1)] at hu
    rw [List.getElem?_set_ne (Ne.symm h2)] at hv
    exact g4.rest i u v hi h1 h2 hu hv
  · intro i u hi h1 hu
    rw [List.getElem?_eq_none (by simp only [List.length_set]; exact Nat.not_lt.mp (leaf h1 hi))] at hu; cases hu
  · intro i u v hi h1 h2 hu hv
    rw [List.getElem?_eq_none (by simp only [List.length_set]; exact Nat.not_lt.mp (leaf h1 hi))] at hu; cases hu

noncomputable def popRest : List α → List α
  | _ :: y :: r => sift0 lt ((y :: r).getLast (List.cons_ne_nil _ _) :: (y :: r).dropLast)
  | _ => []

theorem hp_min {lt : α → α → Bool} (so : SO lt) {x : α} {ks : List α} (h : IsHp lt (x :: ks)) (irr : lt x x = false) : ∀ (i : Nat) (y : α), (x :: ks)[i]? = some y → lt y x = false := by
  intro i
  induction i using Nat.strongRecOn with
  | ind i ih =>
    intro y hy
    by_cases h0 : i = 0
    · subst h0; cases hy; exact irr
    · have hi : i < (x :: ks).length := by
        rcases Nat.lt_or_ge i (x :: ks).length with h' | h'
        · exact h'
        · rw [List.getElem?_eq_none h'] at hy; cases hy
      have hp : (i - 1) / 2 < (x :: ks).length := by exact om30 hi
      have hz := List.getElem?_eq_getElem hp
      exact so.trans _ _ _ (ih _ (by exact om88 h0) _ hz) (h i y _ (by exact om7 h0) hy hz)

theorem popRest_ok {lt : α → α → Bool} (so : SO lt) {x : α} {ks : List α} (h : IsHp lt (x :: ks)) : IsHp lt (popRest lt (x :: ks)) ∧ (x :: popRest lt (x :: ks)).Perm (x :: ks) := by
  cases ks with
  | nil => exact ⟨fun i u v _ hu => by simp [popRest] at hu, List.Perm.refl _⟩
  | cons y r =>
    have e : popRest lt (x :: y :: r) = sift0 lt ((y :: r).getLast (List.cons_ne_nil _ _) :: (y :: r).dropLast) := rfl
    rw [e]
    have dl : (y :: r).dropLast ++ [(y :: r).getLast (List.cons_ne_nil _ _)] = y :: r := List.dropLast_concat_getLast _
    generalize (y :: r).getLast (List.cons_ne_nil _ _) = l at dl
    generalize (y :: r).dropLast = d at dl
    have P : PreU lt 0 (l :: d) := by
      refine ⟨fun i u v hi h1 h2 hu hv => ?_, fun i u v _ _ h0 => absurd h0 (Nat.lt_irrefl _)⟩
      rw [← dl] at h
      have g : ∀ (j : Nat) (z : α), 0 < j → (l :: d)[j]? = some z → (x :: (d ++ [l]))[j]? = some z := by
        intro j z hj hz
        obtain ⟨j, rfl⟩ : ∃ j', j = j' + 1 := ⟨j - 1, by exact om314 hj⟩
        rw [List.getElem?_cons_succ] at hz ⊢
        have : j < d.length := by
          rcases Nat.lt_or_ge j d.length with h' | h'
          · exact h'
          · rw [List.getElem?_eq_none h'] at hz; cases hz
        rw [List.getElem?_append_left this]; exact hz
      exact h i u v hi (g i u hi hu) (g _ v (by exact om315 h2) hv)
    obtain ⟨g1, g2⟩ := sift0_ok so P
    refine ⟨g1, List.Perm.cons _ (g2.trans ?_)⟩
    rw [← dl]
    exact (List.perm_append_comm (l₁ := [l]) (l₂ := d))
end
structure Cmp (w : World) {α : Type} (lt : α → α → Bool) (R : Heap → Value → α → Prop) : Prop where
  mono : ∀ {h h' : Heap} {v : Value} {k : α}, Kp h h' → R h v k → R h' v k
  cmp : ∀ {A : Around} {s : Shared} {Q E : Value → Shared → Prop} {v v' : Value} {k k' : α}, A.units < cLine → R s.heap v k → R s.heap v' k' → Q (.bool (lt k k')) s → wpAny (model P0 w) A (compareOp .Lt v v') Q E s

theorem paired_get {α β : Type} {F : α → β → Prop} : ∀ {l₁ : List α} {l₂ : List β}, Paired F l₁ l₂ → ∀ {i : Nat} {b : β}, l₂[i]? = some b → ∃ a, l₁[i]? = some a ∧ F a b := by
  intro l₁ l₂ h
  induction h with
  | nil => intro i b h; simp at h
  | cons h t ih =>
    intro i b e
    cases i with
    | zero => cases e; exact ⟨_, rfl, h⟩
    | succ i => exact ih e
theorem paired_set {α β : Type} {F : α → β → Prop} {a : α} {b : β} (hf : F a b) : ∀ {l₁ : List α} {l₂ : List β}, Paired F l₁ l₂ → ∀ (i : Nat), Paired F (l₁.set i a) (l₂.set i b) := by
  intro l₁ l₂ h
  induction h with
  | nil => intro i; exact .nil
  | cons h t ih =>
    intro i
    cases i with
    | zero => exact .cons hf t
    | succ i => exact .cons h (ih i)

inductive SdI {α : Type} (lt : α → α → Bool) (R : Heap → Value → α → Prop) (g : Heap) (H : Addr) (items : List Value) (e : Nat) (x : α) (t0 : Tok) (vx : Value) (fin : List α) (k : Nat) (C : Heap) (m : Str → Option Value) (O : Led) : Prop
  | mk : ∀ items' ks' t, O = [(H, lobj items' e)] → m "heap" = some (.ref H) → m "startpos" = some (.int 0 t0) → m "pos" = some (.int k t) → m "newitem" = some vx → Paired (R g) items' ks' → k < items'.length → items'.length = items.length → sd lt x k ks' = fin → SdI lt R g H items e x t0 vx fin k C m O
inductive SdQ {α : Type} (lt : α → α → Bool) (R : Heap → Value → α → Prop) (g : Heap) (H : Addr) (items : List Value) (e : Nat) (x : α) (vx : Value) (fin : List α) (s : Shared) (C₁ : Heap) (L : Addr) (f : Flow) (s' : Shared) : Prop
  | mk : f = .next → ∀ h tk C m items' ks' p t, s' = { s with heap := h, toks := tk } → Kp C₁ C → St C L h m [(H, lobj items' e)] → m "heap" = some (.ref H) → m "pos" = some (.int (p : Nat) t) → m "newitem" = some vx → Paired (R g) items' ks' → p < items'.length → items'.length = items.length → ks'.set p x = fin → SdQ lt R g H items e x vx fin s C₁ L f s'
theorem siftdown_spec {w : World} {α : Type} {lt : α → α → Bool} {R : Heap → Value → α → Prop} (C : Cmp w lt R) {A : Around} {s : Shared} {Q E : Value → Shared → Prop} {g : Heap} {H : Addr} {items : List Value} {ks : List α} {e pos : Nat} {x : α} {t0 tp : Tok}
    (r : Rm A 1) (G : Gd w g) (kg : Kp g s.heap) (gH : g.get? H = none) (hH : s.heap.get? H = some (lobj items e)) (hR : Paired (R g) items ks) (hx : ks[pos]? = some x) (hlen : items.length ≤ 16384)
    (h : ∀ h' tk' items', (∀ b o, b ≠ H → s.heap.get? b = some o → h'.get? b = some o) → h'.get? H = some (lobj items' e) → Paired (R g) items' (sd lt x pos ks) → Q .none {s with heap := h', toks := tk'}) :
    wpAny (model P0 w) A (call (.ref 141) [.ref H, .int 0 t0, .int pos tp]) Q E s := by
  refine enterM [("heap", .ref H), ("startpos", .int 0 t0), ("pos", .int pos tp)] [(H, lobj items e)] G kg (fun p hp => by rw [List.mem_singleton.mp hp]; exact ⟨hH, gH⟩) (by simp) r.room rfl rfl (BindsTo.of_eq rfl) (locs rfl) (by decide) rfl rfl rfl ?_
  intro C₁ L h₁ GC kgC kCs hC S
  try dsimp only
  refine via fun M_ k_ => ?_
  obtain ⟨vx, hvx, hRx⟩ := paired_get hR hx
  refine k_ ?_
  clear k_ M_
  have hpos : pos < items.length := by
    rcases Nat.lt_or_ge pos items.length with h | h
    · exact h
    · rw [List.getElem?_eq_none h] at hvx; cases hvx
  walk_at "go"
  refine itemL (isL (S.get (.head _))) rfl (by exact om417 hpos hlen) (by simpa using hvx) (by with_unfolding_all rfl) ?_
  walk_at "go"
  rename_i S₂
  refine via fun M_ k_ => ?_
  obtain ⟨fin, hfin⟩ : ∃ fin, sd lt x pos ks = fin := ⟨_, rfl⟩
  refine k_ ?_
  clear k_ M_
  rw [hfin] at h
  refine while_inv (X := []) (SdI lt R g H items e x t0 vx fin)
    (Q := (SdQ lt R g H items e x vx fin s C₁ L))
    pos rfl (by rw [List.append_nil]; exact S₂) ⟨items, ks, tp, rfl, rfl, rfl, rfl, rfl, hR, hpos, rfl, hfin⟩ ?_ ?_
  · intro k C₂ h₂ m₂ O₂ tk₂ kC hq18_ S₃
    refine via fun M_ k_ => ?_
    obtain ⟨items', ks', t, rfl, m1, m2, m3, m4, hP, hk, hl, hsd⟩ := hq18_
    refine k_ ?_
    clear k_ M_
    rw [List.append_nil] at S₃
    have hG : Gd w C₂ := GC.kp kC
    have kg₂ : Kp g C₂ := kgC.trans kC
    walk_at "go"
    refine split_dec (fun hk0 => ?_) (fun hk0 => ?_)
    · have hk1 : 0 < k := by exact om418 hk0
      walk_at "go"
      refine shr1 (by exact om419 hk0) ?_
      walk_at "go"
      rename_i S₄
      have hpp : (k - 1) / 2 < ks'.length := by rw [← hP.length]; exact om30 hk
      have hkp := List.getElem?_eq_getElem hpp
      generalize ks'[(k - 1) / 2] = q at hkp
      refine via fun M_ k_ => ?_
      obtain ⟨vq, hvq, hRq⟩ := paired_get hP hkp
      refine k_ ?_
      clear k_ M_
      refine itemL (j := (k - 1) / 2) (isL (S₄.get (.head _))) (by exact om155 hk0) (by exact om420 hk hl hlen) (by simpa using hvq) (by with_unfolding_all rfl) ?_
      walk_at "go"
      rename_i S₅
      refine C.cmp (r.deep _).line (C.mono (kg₂.trans S₅.kp) hRx) (C.mono (kg₂.trans S₅.kp) hRq) ?_
      unfold sd at hsd
      rw [dif_neg (by exact om421 hk0), hkp] at hsd
      dsimp only at hsd
      walk_at "go"
      cases hc : lt x q with
      | true =>
        rw [hc, if_pos rfl] at hsd
        walk_at "go"
        refine setL (O₁ := []) (O₂ := []) (j := k) S₅ rfl (by exact om156 hk hl hlen) hk ?_
        intro h₆ S₆
        walk_at "go"
        refine turn_cont (O' := [(H, lobj (items'.set k vq) e)]) (kp_refl _) (by rw [List.append_nil]; assumption) ⟨(k - 1) / 2, by exact om422 hk0, _, _, ?tt, rfl, ?a1, ?a2, ?a3, ?a4, paired_set hRq hP k, by rw [List.length_set]; exact om30 hk, by rw [List.length_set]; exact hl, hsd⟩
        case a1 => walk_at "lk"
        case a2 => walk_at "lk"
        case a3 =>
          have e1 : ((k : Int) - 1) / 2 = (((k - 1) / 2 : Nat) : Int) := by exact om155 hk0
          rw [← e1]; exact rfl
        case a4 => walk_at "lk"
      | false =>
        rw [hc, if_neg Bool.false_ne_true] at hsd
        walk_at "go"
        refine ⟨rfl, _, _, C₂, _, items', ks', k, t, rfl, kC, S₅, ?_, ?_, ?_, hP, hk, hl, hsd⟩
        · walk_at "lk"
        · walk_at "lk"
        · walk_at "lk"
    · have hk1 : k = 0 := by exact om81 hk0
      subst hk1
      unfold sd at hsd
      rw [dif_pos rfl] at hsd
      exact ⟨rfl, _, _, C₂, _, items', ks', 0, t, rfl, kC, S₃, m1, m3, m4, hP, hk, hl, hsd⟩
  · intro f s' hq19_
    refine via fun M_ k_ => ?_
    obtain ⟨rfl, h₂, tk₂, C₂, m₂, items', ks', p, t, rfl, kC, S₃, m1, m2, m3, hP, hp, hl, hsd⟩ := hq19_
    refine k_ ?_
    clear k_ M_
    walk_at "go"
    refine setL (O₁ := []) (O₂ := []) (j := p) S₃ rfl (by exact om156 hp hl hlen) hp ?_
    intro h₆ S₆
    walk_at "go"
    refine h _ _ (items'.set p vx) (fun b o hb hbo => ?_) (S₆.get (.head _)) (by rw [← hsd]; exact paired_set hRx hP p)
    exact S₆.kp _ _ (kC _ _ (hC b o hbo (by simpa using hb)))
theorem paired_append {α β : Type} {F : α → β → Prop} : ∀ {l₁ l₁' : List α} {l₂ l₂' : List β}, Paired F l₁ l₂ → Paired F l₁' l₂' → Paired F (l₁ ++ l₁') (l₂ ++ l₂') := by
  intro l₁ l₁' l₂ l₂' h k
  induction h with
  | nil => exact k
  | cons h t ih => exact .cons h ih

theorem heappush_spec {w : World} {α : Type} {lt : α → α → Bool} {R : Heap → Value → α → Prop} (C : Cmp w lt R) {A : Around} {s : Shared} {Q E : Value → Shared → Prop} {g : Heap} {H : Addr} {items : List Value} {ks : List α} {e : Nat} {v : Value} {x : α}
    (r : Rm A 2) (G : Gd w g) (kg : Kp g s.heap) (gH : g.get? H = none) (hH : s.heap.get? H = some (lobj items e)) (hR : Paired (R g) items ks) (hv : R g v x) (hlen : items.length ≤ 16000)
    (h : ∀ h' tk' items' e', (∀ b o, b ≠ H → s.heap.get? b = some o → h'.get? b = some o) → h'.get? H = some (lobj items' e') → Paired (R g) items' (push lt ks x) → Q .none {s with heap := h', toks := tk'}) :
    wpAny (model P0 w) A (call (.ref 127) [.ref H, v]) Q E s := by
  refine enterM [("heap", .ref H), ("item", v)] [(H, lobj items e)] G kg (fun p hp => by rw [List.mem_singleton.mp hp]; exact ⟨hH, gH⟩) (by simp) r.room rfl rfl (BindsTo.of_eq rfl) (locs rfl) (by decide) rfl rfl rfl ?_
  intro C₁ L h₁ GC kgC kCs hC S
  try dsimp only
  walk_at "go"
  refine gmAppend S (.head _) ?_
  walk_at "go"
  refine appL (O₁ := []) (O₂ := []) S (by rw [sizeLine_eq]; exact om423 hlen) ?_
  intro h₂ e₂ S₂
  walk_at "go"
  refine lenL (isL (S₂.get (.head _))) (by simp; exact om157 hlen) ?_
  intro t₃ tk₃
  walk_at "go"
  have e1 : (((items ++ [v]).toArray.size : Int) - 1) = ((items.length : Nat) : Int) := by simp
  rw [e1]
  have hP := paired_append hR (.cons hv .nil)
  refine siftdown_spec C (r.deep _) G (kgC.trans S₂.kp) gH (S₂.get (.head _)) hP (x := x) (pos := items.length) ?_ (by simp; exact om157 hlen) ?_
  · rw [hR.length]; simp
  · intro h₄ tk₄ items₄ k₄ hH₄ hP₄
    walk_at "go"
    refine h h₄ tk₄ items₄ e₂ (fun b o hb hbo => ?_) hH₄ (by rw [push, ← hR.length]; exact hP₄)
    exact k₄ b o hb (S₂.kp _ _ (hC b o hbo (by simpa using hb)))

inductive SuI {α : Type} (lt : α → α → Bool) (R : Heap → Value → α → Prop) (g : Heap) (H : Addr) (items : List Value) (e : Nat) (vx : Value) (fin : Nat × List α) (k : Nat) (C : Heap) (m : Str → Option Value) (O : Led) : Prop
  | mk : ∀ items' ks' p ts te, O = [(H, lobj items' e)] → k = items.length - p → p < items.length → items'.length = items.length → m "heap" = some (.ref H) → m "endpos" = some (.int items.length te) → m "startpos" = some (.int 0 ts) → m "newitem" = some vx → IsI (m "pos") (p : Nat) → IsI (m "childpos") (2 * p + 1 : Nat) → Paired (R g) items' ks' → su lt p ks' = fin → SuI lt R g H items e vx fin k C m O
inductive SuQ {α : Type} (lt : α → α → Bool) (R : Heap → Value → α → Prop) (g : Heap) (H : Addr) (items : List Value) (e : Nat) (vx : Value) (fin : Nat × List α) (s : Shared) (C₁ : Heap) (L : Addr) (f : Flow) (s' : Shared) : Prop
  | mk : f = .next → ∀ h tk C m items' tp ts, s' = { s with heap := h, toks := tk } → Kp C₁ C → St C L h m [(H, lobj items' e)] → m "heap" = some (.ref H) → m "startpos" = some (.int 0 ts) → m "pos" = some (.int (fin.1 : Nat) tp) → m "newitem" = some vx → Paired (R g) items' fin.2 → fin.1 < items'.length → items'.length = items.length → SuQ lt R g H items e vx fin s C₁ L f s'
theorem siftup_spec {w : World} {α : Type} {lt : α → α → Bool} {R : Heap → Value → α → Prop} (C : Cmp w lt R) {A : Around} {s : Shared} {Q E : Value → Shared → Prop} {g : Heap} {H : Addr} {items : List Value} {ks : List α} {e : Nat} {x : α} {t0 : Tok}
    (r : Rm A 2) (G : Gd w g) (kg : Kp g s.heap) (gH : g.get? H = none) (hH : s.heap.get? H = some (lobj items e)) (hR : Paired (R g) items (x :: ks)) (hlen : items.length ≤ 16000)
    (h : ∀ h' tk' items', (∀ b o, b ≠ H → s.heap.get? b = some o → h'.get? b = some o) → h'.get? H = some (lobj items' e) → Paired (R g) items' (sift0 lt (x :: ks)) → Q .none {s with heap := h', toks := tk'}) :
    wpAny (model P0 w) A (call (.ref 148) [.ref H, .int 0 t0]) Q E s := by
  refine enterM [("heap", .ref H), ("pos", .int 0 t0)] [(H, lobj items e)] G kg (fun p hp => by rw [List.mem_singleton.mp hp]; exact ⟨hH, gH⟩) (by simp) r.room rfl rfl (BindsTo.of_eq rfl) (locs rfl) (by decide) rfl rfl rfl ?_
  intro C₁ L h₁ GC kgC kCs hC S
  try dsimp only
  refine via fun M_ k_ => ?_
  obtain ⟨vx, hvx, hRx⟩ := paired_get hR (i := 0) (b := x) rfl
  refine k_ ?_
  clear k_ M_
  have hn : items.length = ks.length + 1 := by rw [hR.length]; rfl
  walk_at "go"
  refine lenL (isL (S.get (.head _))) (by simp; exact om424 hlen) ?_
  intro t₃ tk₃
  walk_at "go"
  rename_i S₂
  refine itemL (j := 0) (isL (S₂.get (.head _))) rfl (by exact om10) (by simpa using hvx) (by with_unfolding_all rfl) ?_
  walk_at "go"
  refine mulI (IntMulOk.of_left (by decide)) ?_
  walk_at "go"
  rename_i S₄
  refine via fun M_ k_ => ?_
  obtain ⟨fin, hfin⟩ : ∃ fin, su lt 0 (x :: ks) = fin := ⟨_, rfl⟩
  refine k_ ?_
  clear k_ M_
  have hsift : sift0 lt (x :: ks) = sd lt x fin.1 (fin.2.set fin.1 x) := by rw [← hfin]; rfl
  rw [hsift] at h
  refine while_inv (X := []) (SuI lt R g H items e vx fin)
    (Q := (SuQ lt R g H items e vx fin s C₁ L))
    items.length rfl (by rw [List.append_nil]; exact S₄) ⟨items, x :: ks, 0, _, _, rfl, rfl, by exact om425 hn, rfl, rfl, by simp [List.size_toArray]; exact rfl, rfl, rfl, ⟨_, rfl⟩, ⟨_, rfl⟩, hR, hfin⟩ ?_ ?_
  · intro k C₂ h₂ m₂ O₂ tk₂ kC hq20_ S₃
    refine via fun M_ k_ => ?_
    obtain ⟨items', ks', p, ts, te, rfl, rfl, hp, hl, m1, m2, m3, m4, ⟨tp, m5⟩, ⟨tc, m6⟩, hP, hsu⟩ := hq20_
    refine k_ ?_
    clear k_ M_
    rw [List.append_nil] at S₃
    have hG : Gd w C₂ := GC.kp kC
    have kg₂ : Kp g C₂ := kgC.trans kC
    have hkl : ks'.length = items.length := by rw [← hP.length, hl]
    walk_at "go"
    refine split_dec (fun hk0 => ?_) (fun hk0 => ?_)
    · have hc1 : 2 * p + 1 < ks'.length := by exact om426 hk0 hkl
      have ha := List.getElem?_eq_getElem hc1
      unfold su at hsu
      rw [dif_pos hc1] at hsu
      generalize ks'[2 * p + 1] = a at ha
      rw [ha] at hsu
      refine via fun M_ k_ => ?_
      obtain ⟨va, hva, hRa⟩ := paired_get hP ha
      refine k_ ?_
      clear k_ M_
      walk_at "go"
      refine split_dec (fun hr => ?_) (fun hr => ?_)
      · have hc2 : 2 * p + 2 < ks'.length := by exact om427 hr hkl
        have hb := List.getElem?_eq_getElem hc2
        generalize ks'[2 * p + 2] = b at hb
        rw [hb] at hsu
        dsimp only at hsu
        refine via fun M_ k_ => ?_
        obtain ⟨vb, hvb, hRb⟩ := paired_get hP hb
        refine k_ ?_
        clear k_ M_
        walk_at "go"
        refine itemL (j := 2 * p + 1) (isL ((by assumption : St C₂ L _ _ [(H, lobj items' e)]).get (.head _))) (by exact om78) (by exact om158 hp hlen) (by simpa using hva) (by with_unfolding_all rfl) ?_
        walk_at "go"
        refine itemL (j := 2 * p + 2) (isL ((by assumption : St C₂ L _ _ [(H, lobj items' e)]).get (.head _))) (by exact om159) (by exact om160 hp hlen) (by simpa using hvb) (by with_unfolding_all rfl) ?_
        have S₅ := (by assumption : St C₂ L _ _ [(H, lobj items' e)])
        refine C.cmp (r.deep _).line (C.mono (kg₂.trans S₅.kp) hRa) (C.mono (kg₂.trans S₅.kp) hRb) ?_
        clear S₅
        walk_at "go"
        cases hc : lt a b with
        | true =>
          rw [hc, if_pos rfl] at hsu
          walk_at "go"
          refine itemL (j := 2 * p + 1) (isL ((by assumption : St C₂ L _ _ [(H, lobj items' e)]).get (.head _))) (by exact om78) (by exact om158 hp hlen) (by simpa using hva) (by with_unfolding_all rfl) ?_
          walk_at "go"
          refine setL (O₁ := []) (O₂ := []) (j := p) (by assumption) rfl (by exact om161 hp hlen) (by exact om1 hp hl) ?_
          intro h₈ S₈
          walk_at "go"
          refine mulI (IntMulOk.of_left (by decide)) ?_
          walk_at "go"
          refine turn_next (O' := [(H, lobj (items'.set p va) e)]) (kp_refl _) (by rw [List.append_nil]; assumption) ⟨items.length - (2 * p + 1), by exact om428 hr, _, _, 2 * p + 1, ts, te, rfl, rfl, by exact om429 hr, by rw [List.length_set]; exact hl, ?a1x, ?a2x, ?a3x, ?a4x, ?a5x, ?a6x, paired_set hRa hP p, hsu⟩
          case a1x => walk_at "lk"
          case a2x => walk_at "lk"
          case a3x => walk_at "lk"
          case a4x => walk_at "lk"
          case a5x => walk_at "vi"
          case a6x => walk_at "vi"
        | false =>
          rw [hc, if_neg Bool.false_ne_true] at hsu
          walk_at "go"
          refine itemL (j := 2 * p + 2) (isL ((by assumption : St C₂ L _ _ [(H, lobj items' e)]).get (.head _))) (by exact om159) (by exact om160 hp hlen) (by simpa using hvb) (by with_unfolding_all rfl) ?_
          walk_at "go"
          refine setL (O₁ := []) (O₂ := []) (j := p) (by assumption) rfl (by exact om161 hp hlen) (by exact om1 hp hl) ?_
          intro h₈ S₈
          walk_at "go"
          refine mulI (IntMulOk.of_left (by decide)) ?_
          walk_at "go"
          refine turn_next (O' := [(H, lobj (items'.set p vb) e)]) (kp_refl _) (by rw [List.append_nil]; assumption) ⟨items.length - (2 * p + 2), by exact om430 hr, _, _, 2 * p + 2, ts, te, rfl, rfl, by exact om431 hr, by rw [List.length_set]; exact hl, ?a1y, ?a2y, ?a3y, ?a4y, ?a5y, ?a6y, paired_set hRb hP p, hsu⟩
          case a1y => walk_at "lk"
          case a2y => walk_at "lk"
          case a3y => walk_at "lk"
          case a4y => walk_at "lk"
          case a5y => walk_at "vi"
          case a6y => walk_at "vi"
      · have hb : ks'[2 * p + 2]? = none := List.getElem?_eq_none (by exact om432 hkl hr)
        rw [hb] at hsu
        dsimp only at hsu
        walk_at "go"
        refine itemL (j := 2 * p + 1) (isL ((by assumption : St C₂ L _ _ [(H, lobj items' e)]).get (.head _))) (by exact om78) (by exact om433 hk0 hlen) (by simpa using hva) (by with_unfolding_all rfl) ?_
        walk_at "go"
        refine setL (O₁ := []) (O₂ := []) (j := p) (by assumption) rfl (by exact om434 hk0 hlen) (by exact om435 hk0 hl) ?_
        intro h₈ S₈
        walk_at "go"
        refine mulI (IntMulOk.of_left (by decide)) ?_
        walk_at "go"
        refine turn_next (O' := [(H, lobj (items'.set p va) e)]) (kp_refl _) (by rw [List.append_nil]; assumption) ⟨items.length - (2 * p + 1), by exact om436 hk0, _, _, 2 * p + 1, ts, te, rfl, rfl, by exact om437 hk0, by rw [List.length_set]; exact hl, ?a1z, ?a2z, ?a3z, ?a4z, ?a5z, ?a6z, paired_set hRa hP p, hsu⟩
        case a1z => walk_at "lk"
        case a2z => walk_at "lk"
        case a3z => walk_at "lk"
        case a4z => walk_at "lk"
        case a5z => walk_at "vi"
        case a6z => walk_at "vi"
    · have hc1 : ¬ 2 * p + 1 < ks'.length := by exact om438 hkl hk0
      unfold su at hsu
      rw [dif_neg hc1] at hsu
      subst hsu
      exact ⟨rfl, _, _, C₂, _, items', tp, ts, rfl, kC, S₃, m1, m3, m5, m4, hP, by exact om1 hp hl, hl⟩
  · intro f s' hq21_
    refine via fun M_ k_ => ?_
    obtain ⟨rfl, h₂, tk₂, C₂, m₂, items', tp, ts, rfl, kC, S₃, m1, m2, m3, m4, hP, hp, hl⟩ := hq21_
    refine k_ ?_
    clear k_ M_
    have hG : Gd w C₂ := GC.kp kC
    have kg₂ : Kp g C₂ := kgC.trans kC
    walk_at "go"
    refine setL (O₁ := []) (O₂ := []) (j := fin.1) S₃ rfl (by exact om439 hp hl hlen) hp ?_
    intro h₆ S₆
    walk_at "go"
    refine siftdown_spec C (r.deep _) G (kg₂.trans S₆.kp) gH (S₆.get (.head _)) (paired_set hRx hP fin.1) (x := x) (pos := fin.1) ?_ (by simp; exact om440 hl hlen) ?_
    · rw [List.getElem?_set_self (by rw [← hP.length]; exact hp)]
    · intro h₇ tk₇ items₇ k₇ hH₇ hP₇
      walk_at "go"
      refine h h₇ tk₇ items₇ (fun b o hb hbo => ?_) hH₇ hP₇
      exact k₇ b o hb (S₆.kp _ _ (kC _ _ (hC b o hbo (by simpa using hb))))
theorem paired_snoc_inv {α β : Type} {F : α → β → Prop} : ∀ {l₁ : List α} {l₂ : List β} {b : β}, Paired F l₁ (l₂ ++ [b]) → ∃ l a, l₁ = l ++ [a] ∧ Paired F l l₂ ∧ F a b := by
  intro l₁ l₂ b
  induction l₂ generalizing l₁ with
  | nil =>
    intro h
    cases h with
    | cons h t => cases t; exact ⟨[], _, rfl, .nil, h⟩
  | cons c r ih =>
    intro h
    cases h with
    | cons h t =>
      obtain ⟨l, a, e, h1, h2⟩ := ih t
      exact ⟨_ :: l, a, by rw [e]; rfl, .cons h h1, h2⟩

theorem heappop_spec {w : World} {α : Type} {lt : α → α → Bool} {R : Heap → Value → α → Prop} (C : Cmp w lt R) {A : Around} {s : Shared} {Q E : Value → Shared → Prop} {g : Heap} {H : Addr} {items : List Value} {ks : List α} {e : Nat} {k0 : α}
    (r : Rm A 3) (G : Gd w g) (kg : Kp g s.heap) (gH : g.get? H = none) (hH : s.heap.get? H = some (lobj items e)) (hR : Paired (R g) items (k0 :: ks)) (hlen : items.length ≤ 16000)
    (h : ∀ h' tk' items' e' v0, (∀ b o, b ≠ H → s.heap.get? b = some o → h'.get? b = some o) → h'.get? H = some (lobj items' e') → Paired (R g) items' (popRest lt (k0 :: ks)) → R g v0 k0 → Q v0 {s with heap := h', toks := tk'}) :
    wpAny (model P0 w) A (call (.ref 134) [.ref H]) Q E s := by
  refine enterM [("heap", .ref H)] [(H, lobj items e)] G kg (fun p hp => by rw [List.mem_singleton.mp hp]; exact ⟨hH, gH⟩) (by simp) r.room rfl rfl (BindsTo.of_eq rfl) (locs rfl) (by decide) rfl rfl rfl ?_
  intro C₁ L h₁ GC kgC kCs hC S
  try dsimp only
  have hn : items.length = ks.length + 1 := by rw [hR.length]; rfl
  walk_at "go"
  refine gmPop S (.head _) ?_
  walk_at "go"
  cases ks with
  | nil =>
    cases hR with | cons hv0 t => cases t with | nil =>
    rename_i v0
    refine popL (xs := []) (y := v0) (O₁ := []) (O₂ := []) S (by rw [sizeLine_eq]; decide) ?_
    intro h₂ e₂ S₂
    walk_at "go"
    refine trueL (isL ((by assumption : St C₁ L _ _ [(H, lobj [] e₂)]).get (.head _))) (by decide) ?_
    intro tk₃
    walk_at "go"
    have S₃ := (by assumption : St C₁ L _ _ [(H, lobj [] e₂)])
    refine h _ _ [] e₂ v0 (fun b o hb hbo => ?_) (S₃.get (.head _)) .nil hv0
    exact S₃.kp _ _ (hC b o hbo (by simpa using hb))
  | cons y kr =>
    cases hR with | cons hv0 t =>
    rename_i v0 vr
    obtain ⟨d, l, dl, hpop⟩ : ∃ d l, d ++ [l] = y :: kr ∧ popRest lt (k0 :: y :: kr) = sift0 lt (l :: d) := ⟨(y :: kr).dropLast, (y :: kr).getLast (List.cons_ne_nil _ _), List.dropLast_concat_getLast _, rfl⟩
    rw [hpop] at h
    rw [← dl] at t
    obtain ⟨vd, vl, rfl, hd, hl⟩ := paired_snoc_inv t
    have hlen' : vd.length + 2 ≤ 16000 := by simpa using hlen
    refine popL (xs := v0 :: vd) (y := vl) (O₁ := []) (O₂ := []) S (by rw [sizeLine_eq]; simp; exact om441 hlen') ?_
    intro h₂ e₂ S₂
    walk_at "go"
    refine trueL (isL ((by assumption : St C₁ L _ _ [(H, lobj (v0 :: vd) e₂)]).get (.head _))) (by simp; exact om442 hlen') ?_
    intro tk₃
    walk_at "go"
    refine itemL (j := 0) (v := v0) (isL ((by assumption : St C₁ L _ _ [(H, lobj (v0 :: vd) e₂)]).get (.head _))) rfl (by exact om10) (by simp) (by with_unfolding_all rfl) ?_
    walk_at "go"
    refine setL (O₁ := []) (O₂ := []) (j := 0) (by assumption) rfl (by exact om10) (by simp) ?_
    intro h₄ S₄
    walk_at "go"
    refine siftup_spec C (x := l) (ks := d) (r.deep _) G (kgC.trans S₄.kp) gH (S₄.get (.head _)) (.cons hl hd) (by simp; exact om443 hlen') ?_
    intro h₅ tk₅ items₅ k₅ hH₅ hP₅
    have S₅ : St C₁ L h₅ _ [(H, lobj items₅ e₂)] := St.but (O₁ := []) S₄ k₅ hH₅
    walk_at "go"
    refine h _ _ items₅ e₂ v0 (fun b o hb hbo => ?_) hH₅ hP₅ hv0
    exact k₅ b o hb (S₄.kp _ _ (hC b o hbo (by simpa using hb)))
noncomputable def VI (v : Value) (n : Int) : Prop := ∃ t, v = .int n t
noncomputable def VS (v : Value) (x : Str) : Prop := ∃ t, v = .str x t
noncomputable def IL (h : Heap) (a : Addr) (ns : List Int) : Prop := ∃ vs e, h.get? a = some (lobj vs e) ∧ Paired VI vs ns
noncomputable def SL (h : Heap) (a : Addr) (xs : List Str) : Prop := ∃ vs e, h.get? a = some (lobj vs e) ∧ Paired VS vs xs
noncomputable def VIL (h : Heap) (v : Value) (ns : List Int) : Prop := ∃ a, v = .ref a ∧ IL h a ns
noncomputable def VSL (h : Heap) (v : Value) (xs : List Str) : Prop := ∃ a, v = .ref a ∧ SL h a xs
noncomputable def IIL (h : Heap) (a : Addr) (rs : List (List Int)) : Prop := ∃ vs e, h.get? a = some (lobj vs e) ∧ Paired (VIL h) vs rs
noncomputable def SSL (h : Heap) (a : Addr) (rs : List (List Str)) : Prop := ∃ vs e, h.get? a = some (lobj vs e) ∧ Paired (VSL h) vs rs
theorem IL.kp {h h' : Heap} {a : Addr} {ns : List Int} (x : IL h a ns) (k : Kp h h') : IL h' a ns := let ⟨vs, e, q, p⟩ := x; ⟨vs, e, k _ _ q, p⟩
theorem SL.kp {h h' : Heap} {a : Addr} {ns : List Str} (x : SL h a ns) (k : Kp h h') : SL h' a ns := let ⟨vs, e, q, p⟩ := x; ⟨vs, e, k _ _ q, p⟩
theorem VIL.kp {h h' : Heap} {v : Value} {ns : List Int} (x : VIL h v ns) (k : Kp h h') : VIL h' v ns := let ⟨a, e, q⟩ := x; ⟨a, e, q.kp k⟩
theorem VSL.kp {h h' : Heap} {v : Value} {ns : List Str} (x : VSL h v ns) (k : Kp h h') : VSL h' v ns := let ⟨a, e, q⟩ := x; ⟨a, e, q.kp k⟩
theorem IIL.kp {h h' : Heap} {a : Addr} {rs : List (List Int)} (x : IIL h a rs) (k : Kp h h') : IIL h' a rs := let ⟨vs, e, q, p⟩ := x; ⟨vs, e, k _ _ q, p.mono fun _ _ z => z.kp k⟩
theorem SSL.kp {h h' : Heap} {a : Addr} {rs : List (List Str)} (x : SSL h a rs) (k : Kp h h') : SSL h' a rs := let ⟨vs, e, q, p⟩ := x; ⟨vs, e, k _ _ q, p.mono fun _ _ z => z.kp k⟩

noncomputable def chS (d : Int) : Str := ⟨#[(48 + d).toNat]⟩
noncomputable def textS (ds : List Int) : Str := Str.ofString "/" ++ Txt.join (Str.ofString "/") (ds.map chS)
noncomputable def Dg (ds : List Int) : Prop := ∀ d ∈ ds, 0 ≤ d ∧ d < 10

theorem paired_getL {α β : Type} {F : α → β → Prop} : ∀ {l₁ : List α} {l₂ : List β}, Paired F l₁ l₂ → ∀ {i : Nat} {a : α}, l₁[i]? = some a → ∃ b, l₂[i]? = some b ∧ F a b := by
  intro l₁ l₂ h
  induction h with
  | nil => intro i b h; simp at h
  | cons h t ih =>
    intro i b e
    cases i with
    | zero => cases e; exact ⟨_, rfl, h⟩
    | succ i => exact ih e
theorem strVals {vs : List Value} {xs : List Str} (h : Paired VS vs xs) : ∃ l : List (Str × Tok), strValues l = vs ∧ l.map (·.1) = xs := by
  induction h with
  | nil => exact ⟨[], rfl, rfl⟩
  | cons h t ih =>
    obtain ⟨l, e1, e2⟩ := ih
    obtain ⟨tk, rfl⟩ := h
    exact ⟨(_, tk) :: l, by rw [← e1]; rfl, by rw [List.map_cons, e2]⟩
theorem take_succ' {α : Type} {l : List α} {i : Nat} {x : α} (h : l[i]? = some x) : l.take (i + 1) = l.take i ++ [x] := by
  rw [List.take_add_one, h]; rfl
theorem joinOk_small {sep : Str} {xs : List Str} (hs : sep.length ≤ 1) (hx : ∀ x ∈ xs, x.length ≤ 1) (hn : xs.length ≤ 1000) : JoinOk sep xs = true := by
  refine joinOk_of_weight ?_ (by exact om459 hs)
  have : (xs.map (·.length)).sum ≤ xs.length := by
    clear hn
    induction xs with
    | nil => simp
    | cons x r ih =>
      rw [List.map_cons, List.sum_cons, List.length_cons]
      have := hx x List.mem_cons_self
      have := ih fun y hy => hx y (List.mem_cons_of_mem _ hy)
      exact om460 (by assumption) this
  exact om461 hn this

theorem glued_len (g : Array Nat) : ∀ (xs : List Str) (a : Array Nat), (∀ x ∈ xs, x.length ≤ 1) → g.size ≤ 1 → (xs.foldl (fun acc p => acc ++ g ++ p.cps) a).size ≤ a.size + 2 * xs.length
  | [], a, _, _ => by simp
  | x :: r, a, h, hg => by
    rw [List.foldl_cons]
    have := glued_len g r (a ++ g ++ x.cps) (fun y hy => h y (List.mem_cons_of_mem _ hy)) hg
    have hx : x.cps.size ≤ 1 := h x List.mem_cons_self
    rw [Array.size_append, Array.size_append] at this
    rw [List.length_cons]; exact om462 this hg hx
theorem join_len {xs : List Str} {g : Str} (h : ∀ x ∈ xs, x.length ≤ 1) (hg : g.length ≤ 1) : (Txt.join g xs).length ≤ 2 * xs.length + 1 := by
  show (Builtin.Str.glued g xs).cps.size ≤ _
  unfold Builtin.Str.glued
  cases xs with
  | nil => exact Nat.zero_le _
  | cons x r =>
    refine Nat.le_trans (glued_len g.cps r x.cps (fun y hy => h y (List.mem_cons_of_mem _ hy)) hg) ?_
    have hx : x.cps.size ≤ 1 := h x List.mem_cons_self
    rw [List.length_cons]; exact om463 hx
theorem chS_len (ds : List Int) : ∀ x ∈ ds.map chS, x.length ≤ 1 := fun x hx => by obtain ⟨d, _, rfl⟩ := List.mem_map.mp hx; exact Nat.le_of_eq rfl

theorem text_spec {w : World} {A : Around} {s : Shared} {Q E : Value → Shared → Prop} {a : Addr} {ds : List Int} (r : Rm A 1) (G : Gd w s.heap) (ha : IL s.heap a ds) (hd : Dg ds) (hn : ds.length ≤ 1000)
    (h : ∀ h' tk' t', Kp s.heap h' → Q (.str (textS ds) t') {s with heap := h', toks := tk'}) :
    wpAny (model P0 w) A (call (.ref 172) [.ref a]) Q E s := by
  refine enter [("figures", .ref a)] G r.room rfl rfl (BindsTo.of_eq rfl) (locs rfl) (by decide) rfl rfl rfl ?_
  intro L h₁ S
  try dsimp only
  obtain ⟨vs, e, hva, hP⟩ := ha
  walk_at "go"
  refine lcomp_eval rfl rfl (by decide) (fun _ => rfl) ?_
  walk_at "go"
  refine iterList (O := []) [] r.hand (isL hva) S ?_
  intro I o h₂ S₂ sr
  refine lcomp_src0 (O := []) (X₀ := []) (X := [(I, o)]) (fun i C O acc => O = [] ∧ Paired VS acc ((ds.take i).map chS)) sr rfl (by decide) rfl S₂ ⟨rfl, .nil⟩ (by rw [sizeLine_eq, List.size_toArray, hP.length]; exact om65 hn) (fun _ => rfl) ?_ ?_
  · rintro Cl D i v C h m O X e acc tk hi hv kC ⟨rfl, hacc⟩ S₃
    obtain ⟨d, hdd, t, rfl⟩ := paired_getL hP (by simpa using hv)
    have hd1 := hd d (List.mem_of_getElem? hdd)
    have GC := G.kp kC
    refine wpAny_assign_Name ?_
    walk_at "go"
    refine tests_nil ?_
    walk_at "go"
    refine chr_of_range (by exact om257 hd1) (by exact om258 hd1) ?_
    refine elt_mk (O' := []) (kp_refl _) (by assumption) ⟨rfl, ?_⟩
    rw [take_succ' hdd, List.map_append]
    exact hacc.snoc ⟨_, rfl⟩
  · intro D C h₉ Cl mc oL O acc e tk kC ⟨hO, hacc⟩ hoL S₃
    subst hO
    refine post_none hoL S₃ ?_
    intro h₄ S₄
    have hlen := hP.length
    rw [List.size_toArray, hlen, List.take_length] at hacc
    obtain ⟨l, e1, e2⟩ := strVals hacc
    have GC := G.kp kC
    walk_at "go"
    have hjo : JoinOk (Str.ofString "/") (ds.map chS) = true := joinOk_small (Nat.le_of_eq rfl) (fun x hx => by obtain ⟨d, _, rfl⟩ := List.mem_map.mp hx; exact Nat.le_of_eq rfl) (by rw [List.length_map]; exact hn)
    refine SC.join (l := l) (by rw [e1]; exact isL (S₄.get (.head _))) e2 hjo ?_
    intro t' k
    refine addS ?_ ?_
    · have q := join_len (g := Str.ofString "/") (chS_len ds) (Nat.le_of_eq rfl)
      rw [List.length_map] at q
      have e1 : (Str.ofString "/").length = 1 := rfl
      rw [sizeLine_eq]; exact om464 e1 q hn
    · intro t' tk'
      walk_at "go"
      exact h _ _ _ (kC.trans S₄.kp)
noncomputable def SrcG (w : World) (A : Around) (B : Heap) (X₀ X : Led) (h : Heap) (I : Addr) (n : Nat) (P : Nat → Value → Prop) (target : Expr) : Prop :=
  ∃ fp wr It, Walks P0 w A I fp wr n P It ∧ (∀ b ∈ fp, b ∈ wr ∨ (∃ o, B.get? b = some o) ∨ b ∈ X₀.map (·.1)) ∧ (∀ i h, It i h → ∀ b ∈ wr, ∃ o, h.get? b = some o) ∧ It 0 h ∧ X.map (·.1) = wr ∧
    ∀ (i : Nat) (v : Value) (s : Shared) (Q : Unit → Shared → Prop) (E : Value → Shared → Prop), It (i + 1) s.heap → P i v → Q () s → wpAny (model P0 w) A (letOwnedTupleGo target (.ref I) v) Q E s
theorem Src.g {w : World} {A : Around} {B : Heap} {X₀ X : Led} {h : Heap} {I : Addr} {n : Nat} {P : Nat → Value → Prop} {target : Expr} (sr : Src w A B X₀ X h I n P) (ht : ∀ v, letOwnedTupleGo target (.ref I) v = pure ()) : SrcG w A B X₀ X h I n P target := by
  refine via fun M_ k_ => ?_
  obtain ⟨fp, wr, It, W, h1, h2, h3, h4⟩ := sr
  refine k_ ?_
  clear k_ M_
  exact ⟨fp, wr, It, W, h1, h2, h3, h4, fun i v s Q E _ _ q => by rw [ht v]; exact wpAny_pure q⟩
section
variable {w : World} {A : Around} {s : Shared} {B : Heap} {L : Addr} {m : Str → Option Value} {O X X₀ : Led} {env : Env}
theorem comp_walk {e target : Expr} {depth : Nat} {acc : Value} {p : Pos} {tail : Sem Fin} {I : Addr} {n : Nat} {P : Nat → Value → Prop} {R : Result → Shared → Prop}
    (J : Nat → Heap → (Str → Option Value) → Led → Prop) (sr : SrcG w A B X₀ X s.heap I n P target)
    (heq : compTurn e depth (.ref I) acc env = (standAt p >>= fun _ => pyNext (.ref I) >>= fun r => match r with
      | none => pure (.done .next)
      | some v => letOwnedTupleGo target (.ref I) v >>= fun _ => assign target env v >>= fun _ => tail))
    (hden : (model P0 w).den (.compLoop e depth (.ref I) acc env) = (compTurn e depth (.ref I) acc env).onRaise (fun x => do noteFrame x env; theTreesLotGoes x))
    (hund : A.under (.compLoop e depth (.ref I) acc env) = A) (hq : (Code.compLoop e depth (.ref I) acc env).quiet = true)
    (S : St B L s.heap m (O ++ (X₀ ++ X))) (hJ : J 0 B m O)
    (turn : ∀ i v C h m O X tk, i < n → P i v → Kp B C → J i C m O → St C L h m (O ++ X) →
      wpAny (model P0 w) A (assign target env v) (fun _ s₂ => wpAny (model P0 w) A tail (fun f s₃ => f = .again (.compLoop e depth (.ref I) acc env) ∧ Turned s C L X (J (i + 1)) s₃) (fun _ _ => False) s₂) (fun _ _ => False) { s with heap := h, toks := tk })
    (done : ∀ C h m O tk, Kp B C → J n C m O → St C L h m (O ++ X₀) → R (.ok .next) { s with heap := h, toks := tk }) :
    codeAny (model P0 w) A (.compLoop e depth (.ref I) acc env) R s := by
  refine via fun M_ k_ => ?_
  obtain ⟨fp, wr, It, W, hfp, hlive, hit, hXw, hgo⟩ := sr
  refine k_ ?_
  clear k_ M_
  refine codeAny_loop hq (fun k s' => ∃ i h tk C m O X, k = n - i ∧ i ≤ n ∧ s' = { s with heap := h, toks := tk } ∧ Kp B C ∧ St C L h m (O ++ (X₀ ++ X)) ∧ X.map (·.1) = wr ∧ It i h ∧ J i C m O) ?_ n
    ⟨0, s.heap, s.toks, B, m, O, X, rfl, Nat.zero_le _, rfl, kp_refl _, S, hXw, hit, hJ⟩
  intro k s' hq22_
  refine via fun M_ k_ => ?_
  obtain ⟨i, h, tk, C, m, O, X, rfl, hi, rfl, kC, S, hXw, hit, hJ⟩ := hq22_
  refine k_ ?_
  clear k_ M_
  rw [hden, hund]
  refine wpAny_noted ?_
  rw [heq]
  refine wpAny_bind (wpAny_standAt (wpAny_bind ?_))
  by_cases hlt : i < n
  · refine W.item i _ _ _ hlt hit fun v h₁ tk₁ hP hit₁ hk₁ => ?_
    refine via fun M_ k_ => ?_
    obtain ⟨X₁, e₁, hX₁⟩ := newest (hlive _ _ hit₁)
    refine k_ ?_
    clear k_ M_
    have S₁ : St C L h₁ m (O ++ (X₀ ++ X₁)) := by
      have := St.butX (O := O ++ X₀) (by rw [List.append_assoc]; exact S) (fun b x hb e => hk₁ b x (hXw ▸ hb) e) (e₁.trans hXw.symm) hX₁
      rw [List.append_assoc] at this; exact this
    refine wpAny_bind (hgo i v _ _ _ hit₁ hP ?_)
    refine wpAny_bind (wp_noted (wpAny_mono (turn i v C h₁ m O (X₀ ++ X₁) _ hlt hP kC hJ S₁) (fun _ s₂ p₂ => ?_) fun _ _ e => e))
    refine wp_noted (wpAny_mono p₂ (fun _ s₃ p₃ => ?_) fun _ _ e => e)
    refine via fun M_ k_ => ?_
    obtain ⟨rfl, h', tk', C', m', O', rfl, kC', S', hJ'⟩ := p₃
    refine k_ ?_
    clear k_ M_
    exact ⟨rfl, n - (i + 1), by exact om33 hlt, i + 1, h', tk', C', m', O', X₁, rfl, hlt, rfl, kC.trans kC', S', e₁, W.frame _ _ _ hit₁ (leans (fp_in hfp e₁) kC (kC.trans kC') S₁ S'), hJ'⟩
  · have hin : i = n := by exact om17 hi hlt
    subst hin
    refine W.done _ _ _ hit fun h₁ tk₁ hk₁ => ?_
    exact wpAny_pure (done C h₁ m O tk₁ kC hJ (St.ends (X := X) (by rw [List.append_assoc]; exact S) hXw hk₁))
theorem turned_mk {C : Heap} {J : Heap → (Str → Option Value) → Led → Prop} {h' : Heap} {tk' : Nat} {C' : Heap} {m' : Str → Option Value} {O' : Led}
    (k : Kp C C') (S : St C' L h' m' (O' ++ X)) (hJ : J C' m' O') : Turned s C L X J { s with heap := h', toks := tk' } := ⟨h', tk', C', m', O', rfl, k, S, hJ⟩
end
theorem ct_list2_0 (elt t0 i0 t1 i1 : Expr) (scope : Scope) (pos : Pos) (I : Addr) (acc : Value) (env : Env) :
    compTurn (.ListComp elt [⟨t0, i0, [], 0⟩, ⟨t1, i1, [], 0⟩] scope pos) 0 (.ref I) acc env = (standAt i0.pos >>= fun _ => pyNext (.ref I) >>= fun r => match r with
      | none => pure (.done .next)
      | some v => letOwnedTupleGo t0 (.ref I) v >>= fun _ => assign t0 env v >>= fun _ =>
        eval i1 env >>= fun x => standAt i1.pos >>= fun _ => foldedSetIterable i1 env x >>= fun x => holding [x] (pyIter x) >>= fun it' => runOwn (.compStart (.ListComp elt [⟨t0, i0, [], 0⟩, ⟨t1, i1, [], 0⟩] scope pos) 1 it' acc env) env >>= fun _ =>
          again (.compLoop (.ListComp elt [⟨t0, i0, [], 0⟩, ⟨t1, i1, [], 0⟩] scope pos) 0 (.ref I) acc env)) := by rfl
theorem ct_list2_1 (elt t0 i0 t1 i1 : Expr) (scope : Scope) (pos : Pos) (I : Addr) (acc : Value) (env : Env) :
    compTurn (.ListComp elt [⟨t0, i0, [], 0⟩, ⟨t1, i1, [], 0⟩] scope pos) 1 (.ref I) acc env = (standAt i1.pos >>= fun _ => pyNext (.ref I) >>= fun r => match r with
      | none => pure (.done .next)
      | some v => letOwnedTupleGo t1 (.ref I) v >>= fun _ => assign t1 env v >>= fun _ =>
        (eval elt env >>= fun x => call (.builtin "list.append") [acc, x] >>= fun _ => pure ()) >>= fun _ =>
          again (.compLoop (.ListComp elt [⟨t0, i0, [], 0⟩, ⟨t1, i1, [], 0⟩] scope pos) 1 (.ref I) acc env)) := by rfl
theorem ct_list1 (elt t0 i0 : Expr) (scope : Scope) (pos : Pos) (I : Addr) (acc : Value) (env : Env) :
    compTurn (.ListComp elt [⟨t0, i0, [], 0⟩] scope pos) 0 (.ref I) acc env = (standAt i0.pos >>= fun _ => pyNext (.ref I) >>= fun r => match r with
      | none => pure (.done .next)
      | some v => letOwnedTupleGo t0 (.ref I) v >>= fun _ => assign t0 env v >>= fun _ =>
        (eval elt env >>= fun x => call (.builtin "list.append") [acc, x] >>= fun _ => pure ()) >>= fun _ =>
          again (.compLoop (.ListComp elt [⟨t0, i0, [], 0⟩] scope pos) 0 (.ref I) acc env)) := by rfl
theorem ct_set1 (elt t0 i0 : Expr) (scope : Scope) (pos : Pos) (I : Addr) (acc : Value) (env : Env) :
    compTurn (.SetComp elt [⟨t0, i0, [], 0⟩] scope pos) 0 (.ref I) acc env = (standAt i0.pos >>= fun _ => pyNext (.ref I) >>= fun r => match r with
      | none => pure (.done .next)
      | some v => letOwnedTupleGo t0 (.ref I) v >>= fun _ => assign t0 env v >>= fun _ =>
        (eval elt env >>= fun x => standAt elt.pos >>= fun _ => call (.builtin "set.add") [acc, x] >>= fun _ => pure ()) >>= fun _ =>
          again (.compLoop (.SetComp elt [⟨t0, i0, [], 0⟩] scope pos) 0 (.ref I) acc env)) := by rfl
section
variable {w : World} {A : Around} {s : Shared} {B : Heap} {L : Addr} {m : Str → Option Value} {O X X₀ : Led} {env : Env}
theorem SrcG.at {h h' : Heap} {I : Addr} {n : Nat} {P : Nat → Value → Prop} {target : Expr} {L' : Addr} {m' : Str → Option Value} {P₁ P₂ Y : Led} (sr : SrcG w A B X₀ X h I n P target) (S : St B L h m (P₁ ++ (X₀ ++ X))) (S' : St B L' h' m' (P₂ ++ (X₀ ++ X))) : SrcG w A B (X₀ ++ Y) X h' I n P target := by
  refine via fun M_ k_ => ?_
  obtain ⟨fp, wr, It, W, hfp, hlive, hit, hXw, hgo⟩ := sr
  refine k_ ?_
  clear k_ M_
  refine ⟨fp, wr, It, W, fun b hb => (hfp b hb).imp_right (Or.imp_right fun z => by rw [List.map_append]; exact List.mem_append_left _ z), hlive, ?_, hXw, hgo⟩
  exact W.frame _ _ _ hit (leans (fp_in hfp hXw) (kp_refl _) (kp_refl _) S S')
theorem SrcG.self {I : Addr} {n : Nat} {P : Nat → Value → Prop} {target : Expr} {Q E : Value → Shared → Prop} (sr : SrcG w A B X₀ X s.heap I n P target) (h : Q (.ref I) s) : wpAny (model P0 w) A (pyIter (.ref I)) Q E s := by
  refine via fun M_ k_ => ?_
  obtain ⟨fp, wr, It, W, hfp, hlive, hit, hXw, hgo⟩ := sr
  refine k_ ?_
  clear k_ M_
  exact W.self 0 _ _ _ hit h

theorem comp_at0 {e target : Expr} {scope : Scope} {cl : List (Str × Addr)} {I : Addr} {n : Nat} {P : Nat → Value → Prop} {use : Option (Value → Sem Unit)} {Q E : Value → Shared → Prop} {newAcc : Sem Value} {o₀ : Obj}
    (sr : SrcG w A B X₀ X s.heap I n P target) (hk : scope.kind = .function) (hcell : ∀ y ∈ scope.names, y.2 ≠ .cell) (hL : env.locals = L) (S : St B L s.heap m (O ++ (X₀ ++ X)))
    (hnew : ∀ Q' E' : Value → Shared → Prop, (∀ D h', St B L h' m ((D, o₀) :: (O ++ (X₀ ++ X))) → Q' (.ref D) { s with heap := h' }) → wpAny (model P0 w) A newAcc Q' E' s)
    (hstart : ∀ D cenv s' R, codeAny (model P0 w) A (.compLoop e 0 (.ref I) (.ref D) cenv) R s' → wpAny (model P0 w) A (pyIter (.ref I)) (fun it' s'' => codeAny (model P0 w) A (.compLoop e 0 it' (.ref D) cenv) R s'') (notedBy (model P0 w) A cenv fun x s'' => R (.error x) s'') s' → codeAny (model P0 w) A (.compStart e 0 (.ref I) (.ref D) cenv) R s')
    (loop : ∀ D Cl oL h₂, (∀ h : Heap, h.get? L = some oL → h.Ns L m) → St B Cl h₂ (fun _ => none) (((D, o₀) :: O) ++ ((X₀ ++ [(L, oL)]) ++ X)) → SrcG w A B (X₀ ++ [(L, oL)]) X h₂ I n P target →
      codeAny (model P0 w) A (.compLoop e 0 (.ref I) (.ref D) (compEnvC scope cl Cl env)) (compPost (model P0 w) A E use Q (.ref D) Cl) { s with heap := h₂, toks := s.toks }) :
    CompAt w A env e scope cl use newAcc Q E (.ref I) s := by
  subst hL
  unfold CompAt
  refine hnew _ _ fun D h₁ S₁ => comp_env0 S₁ hk hcell fun h₂ oL hoL S₂ => ?_
  have S₂' : St B h₁.objs.size h₂ (fun _ => none) (((D, o₀) :: O) ++ ((X₀ ++ [(env.locals, oL)]) ++ X)) := S₂.perm (by
    rw [List.cons_append, List.append_assoc, List.append_assoc, List.append_assoc, List.cons_append]
    exact List.Perm.cons _ (List.Perm.append_left _ (List.Perm.append_left _ List.perm_append_comm)))
  have sr₂ : SrcG w A B (X₀ ++ [(env.locals, oL)]) X h₂ I n P target := sr.at (P₂ := (D, o₀) :: O) S (S₂.drop (by
    rw [List.cons_append, List.cons_append]
    exact List.sublist_append_left _ _))
  have lp := loop D h₁.objs.size oL h₂ hoL S₂' sr₂
  exact hstart _ _ _ _ lp (SrcG.self (s := { s with heap := h₂, toks := s.toks }) sr₂ lp)
end
section
variable {w : World} {A : Around} {s : Shared} {R : Result → Shared → Prop}
theorem start_list2_1 {elt t0 i0 t1 i1 : Expr} {scope : Scope} {pos : Pos} {it acc : Value} {env : Env}
    (h0 : codeAny (model P0 w) A (.compLoop (.ListComp elt [⟨t0, i0, [], 0⟩, ⟨t1, i1, [], 0⟩] scope pos) 1 it acc env) R s)
    (h : wpAny (model P0 w) A (pyIter it) (fun it' s' => codeAny (model P0 w) A (.compLoop (.ListComp elt [⟨t0, i0, [], 0⟩, ⟨t1, i1, [], 0⟩] scope pos) 1 it' acc env) R s')
      (notedBy (model P0 w) A env fun x s' => R (.error x) s') s) :
    codeAny (model P0 w) A (.compStart (.ListComp elt [⟨t0, i0, [], 0⟩, ⟨t1, i1, [], 0⟩] scope pos) 1 it acc env) R s := by
  refine codeAny_of_tree ?_
  show wpAny _ _ ((compStart (.ListComp elt [⟨t0, i0, [], 0⟩, ⟨t1, i1, [], 0⟩] scope pos) 1 it acc env).onRaise (fun x => do noteFrame x env; standAt theWindowsPlace)) _ _ s
  refine wpAny_notedAt ?_
  unfold compStart
  show wpAny _ _ (ask >>= _) _ _ s
  refine wpAny_bind (wpAny_askSetting (wpAny_ite ?_))
  split
  · first
      | exact wpAny_bind (wpAny_pure (wpAny_pure (And.intro rfl h0)))
      | exact wpAny_pure (And.intro rfl h0)
  · first
      | exact wpAny_bind (wpAny_rule (wpAny_bind (wpAny_standAt (wpAny_bind (wpAny_mono h (fun it' s' h' => wpAny_pure (And.intro rfl h')) fun _ _ x => x)))))
      | (refine wpAny_bind (wpAny_rule ?_); show wpAny _ _ (standAt i1.pos >>= _) _ _ s; exact wpAny_bind (wpAny_standAt (wpAny_bind (wpAny_mono h (fun it' s' h' => wpAny_pure (And.intro rfl h')) fun _ _ x => x))))
end
noncomputable abbrev nm0 : Expr := .Name "" ⟨0, 0, 0, 0⟩
theorem Src.g0 {w : World} {A : Around} {B : Heap} {X₀ X : Led} {h : Heap} {I : Addr} {n : Nat} {P : Nat → Value → Prop} (sr : Src w A B X₀ X h I n P) : SrcG w A B X₀ X h I n P nm0 := sr.g fun _ => rfl
theorem SrcG.nm {w : World} {A : Around} {B : Heap} {X₀ X : Led} {h : Heap} {I : Addr} {n : Nat} {P : Nat → Value → Prop} {x : Str} {p : Pos} (sr : SrcG w A B X₀ X h I n P nm0) : SrcG w A B X₀ X h I n P (.Name x p) := by
  refine via fun M_ k_ => ?_
  obtain ⟨fp, wr, It, W, h1, h2, h3, h4, _⟩ := sr
  refine k_ ?_
  clear k_ M_
  exact ⟨fp, wr, It, W, h1, h2, h3, h4, fun i v s Q E _ _ q => wpAny_pure q⟩
theorem start_list2_1s {w : World} {A : Around} {s : Shared} {R : Result → Shared → Prop} {B : Heap} {X₀ X : Led} {I : Addr} {n : Nat} {P : Nat → Value → Prop} {target : Expr} {elt t0 i0 t1 i1 : Expr} {scope : Scope} {pos : Pos} {acc : Value} {env : Env} (sr : SrcG w A B X₀ X s.heap I n P target)
    (h0 : codeAny (model P0 w) A (.compLoop (.ListComp elt [⟨t0, i0, [], 0⟩, ⟨t1, i1, [], 0⟩] scope pos) 1 (.ref I) acc env) R s) :
    codeAny (model P0 w) A (.compStart (.ListComp elt [⟨t0, i0, [], 0⟩, ⟨t1, i1, [], 0⟩] scope pos) 1 (.ref I) acc env) R s := start_list2_1 h0 (sr.self h0)
noncomputable def worthN (b : Int) (ds : List Int) : Int := ds.foldl (fun w d => w * b + d) 0
theorem small_bits {b : Int} (h : 2 ≤ b ∧ b ≤ 5) : Builtin.Int.intBits b ≤ 64 := by
  have : b = 2 ∨ b = 3 ∨ b = 4 ∨ b = 5 := by exact om491 h
  rcases this with rfl | rfl | rfl | rfl <;> decide
theorem worth_spec {w : World} {A : Around} {s : Shared} {Q E : Value → Shared → Prop} {a : Addr} {ds : List Int} {b : Int} {tb : Tok} (r : Rm A 1) (G : Gd w s.heap) (ha : IL s.heap a ds) (hb : 2 ≤ b ∧ b ≤ 5)
    (h : ∀ h' tk' t', Kp s.heap h' → Q (.int (worthN b ds) t') {s with heap := h', toks := tk'}) :
    wpAny (model P0 w) A (call (.ref 179) [.ref a, .int b tb]) Q E s := by
  refine enter [("figures", .ref a), ("base", .int b tb)] G r.room rfl rfl (BindsTo.of_eq rfl) (locs rfl) (by decide) rfl rfl rfl ?_
  intro L h₁ S
  try dsimp only
  obtain ⟨vs, e, hva, hP⟩ := ha
  walk_at "go"
  refine iterList (O := []) [] r.hand (isL hva) (by assumption) ?_
  intro I o h₂ S₂ sr
  refine for_src (O := []) (X₀ := []) (X := [(I, o)]) (fun i C m O => O = [] ∧ m "base" = some (.int b tb) ∧ IsI (m "worth") (worthN b (ds.take i))) sr rfl rfl rfl S₂ ⟨rfl, rfl, ⟨_, rfl⟩⟩ ?_ ?_ (fun f s' q => q)
  · rintro i v C h m O X tk hi hv kC ⟨rfl, hbase, tw, hworth⟩ S₃
    obtain ⟨d, hdd, t, rfl⟩ := paired_getL hP (by simpa using hv)
    have GC := G.kp kC
    walk_at "go"
    refine mulI (IntMulOk.of_right (small_bits hb)) ?_
    walk_at "go"
    refine turn_next (kp_refl _) (O' := []) (by assumption) ⟨rfl, ?_, ?_⟩
    · walk_at "lk"
    · rw [take_succ' hdd]
      unfold worthN
      rw [List.foldl_append]
      exact ⟨_, rfl⟩
  · rintro C h₉ m O tk kC ⟨rfl, hbase, tw, hworth⟩ S₃
    rw [List.size_toArray, hP.length, List.take_length] at hworth
    walk_at "go"
    exact h _ _ _ (kC.trans S₃.kp)
noncomputable def laidN (rs : List (List Int)) : List Int := rs.flatten.map (48 + ·)
theorem intsAre_of : ∀ {vs : List Value} {ns : List Int}, Paired VI vs ns → IntsAre vs ns := by
  intro vs ns h
  induction h with
  | nil => exact .nil
  | cons h _ ih =>
    obtain ⟨t, e⟩ := h
    subst e; exact .cons _ _ ih
theorem laidN_take {rs : List (List Int)} {i : Nat} {r : List Int} (h : rs[i]? = some r) : laidN (rs.take (i + 1)) = laidN (rs.take i) ++ r.map (48 + ·) := by
  unfold laidN; rw [take_succ' h, List.flatten_append, List.map_append]; simp
theorem laid_spec {w : World} {A : Around} {s : Shared} {Q E : Value → Shared → Prop} {a : Addr} {rs : List (List Int)} (r : Rm A 1) (G : Gd w s.heap) (ha : IIL s.heap a rs) (hd : ∀ r ∈ rs, Dg r) (hn : rs.length ≤ 100) (hw : ∀ r ∈ rs, r.length ≤ 100) (hl : rs.flatten.length ≤ 10000)
    (h : ∀ h' tk' t', Kp s.heap h' → Q (.bytes (byteArr (laidN rs)) t') {s with heap := h', toks := tk'}) :
    wpAny (model P0 w) A (call (.ref 160) [.ref a]) Q E s := by
  refine enter [("rows", .ref a)] G r.room rfl rfl (BindsTo.of_eq rfl) (locs rfl) (by decide) rfl rfl rfl ?_
  intro L h₁ S
  try dsimp only
  obtain ⟨vs, e, hva, hP⟩ := ha
  walk_at "go"
  refine lcomp_eval rfl rfl (by decide) (fun _ => rfl) ?_
  walk_at "go"
  refine iterList (O := []) [] r.hand (isL hva) S ?_
  intro I o h₂ S₂ sr
  refine comp_at0 (O := []) (X₀ := []) (X := [(I, o)]) sr.g0 rfl (by decide) rfl S₂ (fun Q' E' q => newL S₂ (by decide) q) (fun D cenv s' R a b => codeAny_compStart_list a b) ?_
  intro D Cl oL h₃ hoL S₃ sr₃
  have step : ∀ i, ∀ ds, rs[i]? = some ds → (laidN (rs.take i)).length + ds.length ≤ 10000 := by
    intro i ds hi
    have e1 : (laidN (rs.take i)).length + ds.length = (rs.take (i + 1)).flatten.length := by
      unfold laidN; rw [List.length_map, take_succ' hi, List.flatten_append]; simp
    have e2 : rs.flatten = (rs.take (i + 1)).flatten ++ (rs.drop (i + 1)).flatten := by rw [← List.flatten_append, List.take_append_drop]
    rw [e1]
    rw [e2, List.length_append] at hl
    exact om494 hl
  refine comp_walk (O := [(D, lobj [] 0)]) (X₀ := [] ++ [(L, oL)]) (X := [(I, o)]) (fun i C m O => ∃ acc e, O = [(D, lobj acc e)] ∧ Paired VI acc (laidN (rs.take i))) sr₃.nm (ct_list2_0 ..) rfl rfl rfl S₃ ⟨[], 0, rfl, .nil⟩ ?_ ?_
  · rintro i v C h m O X tk hi hv kC ⟨acc, e, rfl, hacc⟩ S₄
    obtain ⟨ds, hds, a₁, rfl, vs₁, e₁, hva₁, hP₁⟩ := paired_getL hP (by simpa using hv)
    have hd1 := hd ds (List.mem_of_getElem? hds)
    have GC := G.kp kC
    have hst := step i ds hds
    refine wpAny_assign_Name ?_
    walk_at "go"
    rename_i S₅
    refine wpAny_bind ?_
    walk_at "go"
    refine wpAny_bind (wpAny_standAt ?_)
    refine wpAny_bind (wpAny_pure ?_)
    refine wpAny_bind (wpAny_holding ?_)
    refine iterList (O := [(D, lobj acc e)]) X r.hand (isL (kC _ _ hva₁)) S₅ ?_
    intro I₂ o₂ h₆ S₆ sr₆
    refine wpAny_bind (wpAny_runOwn ?_)
    refine start_list2_1s sr₆.g0 ?_
    refine comp_walk (L := Cl) (O := [(D, lobj acc e)]) (X₀ := X) (X := [(I₂, o₂)]) (fun j C m O => ∃ acc e, O = [(D, lobj acc e)] ∧ Paired VI acc (laidN (rs.take i) ++ (ds.take j).map (48 + ·))) sr₆.g0.nm (ct_list2_1 ..) rfl rfl rfl S₆ ⟨acc, e, rfl, by simpa using hacc⟩ ?_ ?_
    · rintro j v C' h m O X tk hj hv kC' ⟨acc, e, rfl, hacc⟩ S₇
      obtain ⟨d, hdd, t, rfl⟩ := paired_getL hP₁ (by simpa using hv)
      have GC' := GC.kp kC'
      refine wpAny_assign_Name ?_
      walk_at "go"
      refine wpAny_bind (wpAny_bind ?_)
      walk_at "go"
      rename_i S₈
      refine wpAny_bind (appL (O₁ := []) S₈ ?_ ?_)
      · rw [hacc.length, sizeLine_eq, List.length_append, List.length_map, List.length_take]; exact om495 hst
      · intro h₉ e₉ S₉
        refine wpAny_pure (wpAny_pure ⟨rfl, ?_⟩)
        refine turned_mk (kp_refl _) (O' := [(D, _)]) S₉ ⟨_, _, rfl, ?_⟩
        rw [take_succ' hdd, List.map_append, ← List.append_assoc]
        exact hacc.snoc ⟨_, rfl⟩
    · rintro C' h m O tk kC' ⟨acc, e, rfl, hacc⟩ S₇
      refine wpAny_pure ⟨rfl, turned_mk kC' (O' := [(D, lobj acc e)]) S₇ ⟨acc, e, rfl, ?_⟩⟩
      rw [List.size_toArray, hP₁.length, List.take_length] at hacc
      rw [laidN_take hds]
      exact hacc
  · rintro C h₉ m O tk kC ⟨acc, e, rfl, hacc⟩ S₄
    refine post_none hoL S₄ ?_
    intro h₅ S₅
    have GC := G.kp kC
    walk_at "go"
    rw [List.size_toArray, hP.length, List.take_length] at hacc
    have hlen : (laidN rs).length = rs.flatten.length := List.length_map _
    refine call_bytes_ints (isL (S₅.get (.head _))) (intsAre_of hacc) ?_ (by rw [hacc.length, hlen, sizeLine_eq]; exact om496 hl) r.hand ?_
    · intro n hn
      obtain ⟨d, hd1, rfl⟩ := List.mem_map.mp hn
      obtain ⟨ds, hds, hd2⟩ := List.mem_flatten.mp hd1
      have := hd ds hds d hd2
      exact om62 this
    · intro h₆ t k hk
      walk_at "go"
      exact h _ _ _ (kC.trans (S₅.kp.trans hk))
section
variable {w : World} {A : Around} {E : Value → Shared → Prop} {hp : Heap} {gn : Array GenState} {dr : Drawn} {tk : Nat} {os : OsState} {B : Heap} {L : Addr} {m : Str → Option Value} {O : Led}
theorem cutB {value slice : Expr} {b : Array UInt8} {t : Tok} {l u : Value} {lo hi : Option Int} {ks : List Int} {z : Addr} {Q : Value → Shared → Prop} (S : St B L hp m O) (hz : z = hp.objs.size) (hk : KBw.bInts b = ks) (hl : IsPart l lo) (hu : IsPart u hi) (hn : ks.length ≤ 16777216)
    (hs : subscripted slice false (.bytes b t) (.ref z) = operate [.ref z, .bytes b t] (getItem (.bytes b t) (.ref z)))
    (h : ∀ h' b' t' k, St B L h' m O → KBw.bInts b' = (ks.drop (lo.elim 0 (clipAt ks.length))).take (hi.elim ks.length (clipAt ks.length) - lo.elim 0 (clipAt ks.length)) → Q (.bytes b' t') ⟨h', gn, dr, k, os⟩) :
    wpAny (model P0 w) A (subscriptTail value slice (.bytes b t) (.ref z)) Q E ⟨hp.push { cls := .type "slice", data := .fields #[l, u, .none] }, gn, dr, tk, os⟩ := by
  subst hz
  exact tail_any (typeIs_bytes _ _ _) FB.slot_bytes_getitem.lookup (getItem_meets (typeIs_bytes _ _ _) (by decide) FB.slot_bytes_getitem FB.entry_bytes_getitem (FB.args_bytes_getitem_2 _ _) (KBc.meets_slice2 b t _ hl hu)
    ⟨Heap.IsSliceOf.new _ _ _ _, Nat.le_trans (KBc.size_picked_le b lo hi) (by rw [← KBw.ints_length b, hk, sizeLine_eq]; exact hn), fun t' k => h _ _ _ _ (S.keep fun b o e => Heap.get?_push_of_some _ e) (KBc.ints_picked hk lo hi)⟩) hs
theorem cutL {value slice : Expr} {l : Addr} {items : Array Value} {vl vu vk : Value} {lo hi st : Option Int} {ops : List Value} {z : Addr} {Q : Value → Shared → Prop} (S : St B L hp m O) (hz : z = hp.objs.size) (hl : hp.IsList l items) (pl : IsPart vl lo) (pu : IsPart vu hi) (pk : IsPart vk st) (h0 : st ≠ some 0) (hsz : items.size ≤ sizeLine)
    (hs : subscripted slice false (.ref l) (.ref z) = operate ops (getItem (.ref l) (.ref z)))
    (h : ∀ a h', St B L h' m ((a, lobj (slicePick items lo hi st).toList 0) :: O) → Q (.ref a) ⟨h', gn, dr, tk, os⟩) :
    wpAny (model P0 w) A (subscriptTail value slice (.ref l) (.ref z)) Q E ⟨hp.push { cls := .type "slice", data := .fields #[vl, vu, vk] }, gn, dr, tk, os⟩ := by
  subst hz
  refine tail_any (Heap.IsList.typeIs (s := ⟨hp.push { cls := .type "slice", data := .fields #[vl, vu, vk] }, gn, dr, tk, os⟩) (hl.push _)) slot_list_getitem.lookup
    (wpAny_getItem_list_slice (s := ⟨hp.push { cls := .type "slice", data := .fields #[vl, vu, vk] }, gn, dr, tk, os⟩) (hl.push _) (Heap.IsSliceOf.new ..) pl pu pk h0 ?_ hsz) hs
  have S₁ : St B L (hp.push { cls := .type "slice", data := .fields #[vl, vu, vk] }) m O := S.keep fun b o e => Heap.get?_push_of_some _ e
  have S₂ := S₁.push (lobj (slicePick items lo hi st).toList 0) rfl
  exact h _ _ S₂
end
theorem pick_upto (items : Array Value) {y : Int} (h : 0 ≤ y) : (slicePick items none (some y) none).toList = items.toList.take y.toNat := by
  rw [kmk_pick_nat (a := 0) (b := min y.toNat items.size)]
  · rw [List.drop_zero, Nat.sub_zero, List.toList_toArray]
    rw [← List.take_take]
    congr 1
    rw [← Array.length_toList, List.take_length]
  · unfold sliceBounds
    simp only [Option.getD_none, show (1 : Int) > 0 by decide, if_true]
    have : ¬ (y < 0) := by exact om465 h
    rw [if_neg this]
    have e : max 0 (min y (items.size : Int)) = ((min y.toNat items.size : Nat) : Int) := by exact om466
    rw [e]; rfl
theorem pick_rev (items : Array Value) : (slicePick items none none (some (-1))).toList = items.toList.reverse := by
  rw [krv_pick, List.toList_toArray]
set_option hygiene false in
local macro_rules | `(tactic| walk_at "ci") => `(tactic| intro Qc_ cut_)
local macro_rules | `(tactic| walk_at "xc") => `(tactic| ((with_reducible refine execs_cut ?_); walk_at "ci"))
theorem str_ext {a b : Str} (h : a.cps.toList = b.cps.toList) : a = b := by
  cases a; cases b; congr 1; exact Array.toList_inj.mp h
theorem str_app (a b : Str) : (a ++ b).cps.toList = a.cps.toList ++ b.cps.toList := by
  show (a.cps ++ b.cps).toList = _; simp
noncomputable def tailC (ds : List Int) : List Nat := ds.flatMap fun d => [47, (48 + d).toNat]
theorem glued_list (g : Array Nat) : ∀ (xs : List Str) (a : Array Nat), (xs.foldl (fun acc p => acc ++ g ++ p.cps) a).toList = a.toList ++ xs.flatMap (fun p => g.toList ++ p.cps.toList)
  | [], a => by simp
  | x :: r, a => by rw [List.foldl_cons, glued_list g r]; simp
theorem textS_nil : textS [] = Str.ofString "/" := by decide
theorem textS_cps (d : Int) (ds : List Int) : (textS (d :: ds)).cps.toList = 47 :: (48 + d).toNat :: tailC ds := by
  show (Str.ofString "/" ++ Builtin.Str.glued (Str.ofString "/") ((d :: ds).map chS)).cps.toList = _
  rw [str_app]
  unfold Builtin.Str.glued
  show [47] ++ (List.foldl _ (chS d).cps (ds.map chS)).toList = _
  rw [glued_list]
  unfold tailC
  rw [List.flatMap_map]
  rfl
theorem tailC_cons (d : Int) (ds : List Int) : tailC (d :: ds) = 47 :: (48 + d).toNat :: tailC ds := rfl
theorem textS_tail : ∀ (ds : List Int), ds ≠ [] → (textS ds).cps.toList = tailC ds
  | [], h => absurd rfl h
  | d :: r, _ => textS_cps d r
theorem tailC_append (a b : List Int) : tailC (a ++ b) = tailC a ++ tailC b := by unfold tailC; rw [List.flatMap_append]
theorem textS_snoc (ds : List Int) (d : Int) : textS (ds ++ [d]) = if ds = [] then textS ds ++ chS d else textS ds ++ (Str.ofString "/" ++ chS d) := by
  by_cases h : ds = []
  · subst h
    rw [if_pos rfl]
    apply str_ext
    rw [List.nil_append, textS_cps, str_app, textS_nil]; rfl
  · rw [if_neg h]
    apply str_ext
    rw [textS_tail _ (by simp), tailC_append, str_app, str_app, textS_tail _ h]; rfl
theorem textS_len (ds : List Int) : (textS ds).length = if ds = [] then 1 else 2 * ds.length := by
  show (textS ds).cps.size = _
  rw [← Array.length_toList]
  by_cases h : ds = []
  · subst h; decide
  · rw [if_neg h, textS_tail _ h]
    unfold tailC
    rw [List.length_flatMap]
    simp only [List.length_cons, List.length_nil]
    clear h
    induction ds with
    | nil => rfl
    | cons x r ih => rw [List.map_cons, List.sum_cons, ih, List.length_cons]; exact om467
theorem textS_pos (ds : List Int) : (textS ds).length ≠ 0 := by
  rw [textS_len]; split
  · decide
  · rename_i h; cases ds with
    | nil => exact absurd rfl h
    | cons x r => simp
theorem chS_starts {d : Int} (h : 0 ≤ d) : Txt.startswith (chS d) (Str.ofString "/") = false := by
  unfold Txt.startswith Builtin.Str.subAt
  have e : ((chS d).cps.extract 0 (0 + (Str.ofString "/").length) == (Str.ofString "/").cps) = false := by
    show ((#[(48 + d).toNat] : Array Nat).extract 0 1 == #[47]) = false
    simp
    exact om468 h
  rw [e, Bool.and_false]
theorem ends_last (x : Str) (l : List Nat) (n : Nat) (h : x.cps.toList = l ++ [n]) : Txt.endswith x (Str.ofString "/") = decide (n = 47) := by
  obtain ⟨xc⟩ := x
  have hx : xc = (l ++ [n]).toArray := by rw [← h]
  subst hx
  unfold Txt.endswith Builtin.Str.subAt
  show (decide (0 + 1 ≤ (l ++ [n]).toArray.size) && ((l ++ [n]).toArray.extract ((l ++ [n]).toArray.size - 1) ((l ++ [n]).toArray.size - 1 + 1) == (#[47] : Array Nat))) = _
  have e1 : (l ++ [n]).toArray.extract ((l ++ [n]).toArray.size - 1) ((l ++ [n]).toArray.size - 1 + 1) = #[n] := by simp
  rw [e1]
  by_cases q : n = 47 <;> simp [q]
theorem textS_ends {ds : List Int} (h : Dg ds) : Txt.endswith (textS ds) (Str.ofString "/") = decide (ds = []) := by
  rcases List.eq_nil_or_concat ds with rfl | ⟨r, d, rfl⟩
  · rw [textS_nil]; decide
  · rw [List.concat_eq_append] at h ⊢
    have e : (textS (r ++ [d])).cps.toList = (tailC r ++ [47]) ++ [(48 + d).toNat] := by
      rw [textS_tail _ (by simp), tailC_append]; simp [tailC]
    rw [ends_last _ _ _ e]
    have := h d (by simp)
    have h1 : ¬ ((48 + d).toNat = 47) := by exact om469 this
    have h2 : ¬ (r ++ [d] = []) := by simp
    rw [decide_eq_false h1, decide_eq_false h2]
theorem textS_step {ds : List Int} {d : Int} (h : Dg ds) : (if Txt.endswith (textS ds) (Str.ofString "/") = true then textS ds ++ chS d else textS ds ++ (Str.ofString "/" ++ chS d)) = textS (ds ++ [d]) := by
  rw [textS_snoc, textS_ends h]
  by_cases e : ds = [] <;> simp [e]
theorem small_step {n c : Int} (hn : 0 ≤ n) (hn' : n < 2 ^ 40) (hc : 1 ≤ c) (hc' : c < 2 ^ 20) : Builtin.Range.small 0 n c = true := by
  unfold Builtin.Range.small
  rw [rangeSize_pos hc hn]
  have h1 : (n + c - 1) / c ≤ n + c - 1 := Int.ediv_le_self _ (by exact om259 hn hc)
  have h0 : 0 ≤ (n + c - 1) / c := Int.ediv_nonneg (by exact om259 hn hc) (by exact om470 hc)
  have h2 : (n + c - 1) / c * c ≤ n + c - 1 := Int.ediv_mul_le _ (by exact om260 hc)
  have hp : c > 0 := by exact om471 hc
  simp only [Builtin.Range.rangeFitsLong, Bool.and_eq_true, Bool.or_eq_true, decide_eq_true_eq, beq_iff_eq, hp, if_true]
  generalize (n + c - 1) / c = q at *
  exact om472 h0 hc' hn' h1
theorem rangeSize_mul {m c : Nat} (hc : 1 ≤ c) : Builtin.Range.rangeSize 0 ((m * c : Nat) : Int) (c : Int) = (m : Int) := by
  rw [rangeSize_pos (by exact om28 hc) (by exact om3)]
  have e : ((m * c : Nat) : Int) + (c : Int) - 1 = ((c : Int) - 1) + (m : Int) * (c : Int) := by rw [Int.natCast_mul]; exact om473
  rw [e, Int.add_mul_ediv_right _ _ (by exact om474 hc), Int.ediv_eq_zero_of_lt (by exact om475 hc) (by exact om476), Int.zero_add]
theorem flat_len {α : Type} {rs : List (List α)} {c : Nat} (h : ∀ r ∈ rs, r.length = c) : rs.flatten.length = rs.length * c := by
  induction rs with
  | nil => simp
  | cons x r ih =>
    rw [List.flatten_cons, List.length_append, h x List.mem_cons_self, ih fun y hy => h y (List.mem_cons_of_mem _ hy), List.length_cons, Nat.succ_mul]; exact om83
theorem flat_cut {α : Type} {rs : List (List α)} {c : Nat} (h : ∀ r ∈ rs, r.length = c) : ∀ {i : Nat} {r : List α}, rs[i]? = some r → (rs.flatten.drop (i * c)).take c = r := by
  induction rs with
  | nil => intro i r hi; simp at hi
  | cons x l ih =>
    have hx := h x List.mem_cons_self
    have hl := fun y hy => h y (List.mem_cons_of_mem x hy)
    intro i r hi
    cases i with
    | zero =>
      simp only [List.getElem?_cons_zero, Option.some.injEq] at hi
      subst hi
      rw [Nat.zero_mul, List.drop_zero, List.flatten_cons, List.take_append_of_le_length (by exact om477 hx), List.take_of_length_le (by exact om478 hx)]
    | succ i =>
      rw [List.getElem?_cons_succ] at hi
      rw [List.flatten_cons, Nat.succ_mul, List.drop_append, hx]
      have e1 : x.drop (i * c + c) = [] := List.drop_of_length_le (by exact om479 hx)
      rw [e1, List.nil_append, show i * c + c - c = i * c by exact om480]
      exact ih hl hi
section
variable {w : World} {A : Around} {s : Shared} {B : Heap} {L : Addr} {m : Str → Option Value} {O X X₀ : Led} {env : Env}
theorem callRange3 {a n c : Int} {t u v : Tok} {Q E : Value → Shared → Prop} (S : St B L s.heap m O) (hc : 1 ≤ c) (hc' : c < 1000000)
    (h : ∀ r h' tk, St B L h' m O → IsRange h' r a n c t u v → Q (.ref r) { s with heap := h', toks := tk }) : wpAny (model P0 w) A (call (.type "range") [.int a t, .int n u, .int c v]) Q E s :=
  call_range_3 (by exact om260 hc) (h _ _ _ (S.keep fun b o e => Heap.get?_push_of_some _ e) (IsRange.new ..)) (.inl (PyProof.noPylong_small (by exact om481 hc hc')))
theorem bInts_get {b : Array UInt8} {ks : List Int} (h : KBw.bInts b = ks) {i : Nat} {n : UInt8} (hn : b[i]? = some n) : ks[i]? = some (n.toNat : Int) := by
  rw [← h]; unfold KBw.bInts
  rw [List.getElem?_map, Array.getElem?_toList, hn]; rfl
end
theorem Dg.take {ds : List Int} (h : Dg ds) (j : Nat) : Dg (ds.take j) := fun d hd => h d (List.mem_of_mem_take hd)
theorem ways_spec {w : World} {A : Around} {s : Shared} {Q E : Value → Shared → Prop} {b : Array UInt8} {tb tw : Tok} {rs : List (List Int)} {wd : Nat} (r : Rm A 3) (G : Gd w s.heap) (hb : KBw.bInts b = laidN rs) (hd : ∀ r ∈ rs, Dg r) (hw : ∀ r ∈ rs, r.length = wd) (hw1 : 1 ≤ wd) (hw2 : wd ≤ 100) (hn : rs.length ≤ 100)
    (h : ∀ D h' tk', Kp s.heap h' → SL h' D (rs.map textS) → Q (.ref D) {s with heap := h', toks := tk'}) :
    wpAny (model P0 w) A (call (.ref 167) [.bytes b tb, .int wd tw]) Q E s := by
  have hlen : (laidN rs).length = rs.length * wd := by unfold laidN; rw [List.length_map, flat_len hw]
  have hlb : rs.length * wd ≤ 100 * 100 := Nat.mul_le_mul hn hw2
  refine enter [("row", .bytes b tb), ("width", .int wd tw)] G r.room rfl rfl (BindsTo.of_eq rfl) (locs rfl) (by decide) rfl rfl rfl ?_
  intro L h₁ S
  try dsimp only
  walk_at "go"
  refine newL S (by decide) ?_
  intro D h₂ S₂
  walk_at "go"
  refine KBw.len_K hb (by rw [hlen]; exact om35 hlb) ?_
  rw [hlen]
  walk_at "go"
  rename_i S₃
  refine callRange3 S₃ (by exact om28 hw1) (by exact om84 hw2) ?_
  intro R h₄ tk₄ S₄ hR
  refine iterRangeAny (O := [(D, lobj [] 0)]) [] rs.length r.hand hR (small_step (by exact om3) (by exact om85 hlb) (by exact om28 hw1) (by exact om86 hw2)) (rangeSize_mul hw1) S₄ ?_
  intro I o h₅ S₅ sr
  refine for_src (O := [(D, lobj [] 0)]) (X₀ := []) (X := [(I, o)]) (fun i C m O => ∃ acc e, O = [(D, lobj acc e)] ∧ m "ways" = some (.ref D) ∧ m "row" = some (.bytes b tb) ∧ m "width" = some (.int wd tw) ∧ Paired VS acc ((rs.take i).map textS)) sr rfl rfl rfl S₅ ⟨[], 0, rfl, rfl, rfl, rfl, .nil⟩ ?_ ?_ (fun f s' q => q)
  · intro i v C h m O X tk hi hq29_ kC hq30_ S₆
    refine via fun M_ k_ => ?_
    obtain ⟨tk0, rfl⟩ := hq29_
    obtain ⟨acc, e, rfl, hways, hrow, hwidth, hacc⟩ := hq30_
    refine k_ ?_
    clear k_ M_
    refine via fun M_ k_ => ?_
    obtain ⟨ds, hds⟩ : ∃ ds, rs[i]? = some ds := ⟨rs[i], List.getElem?_eq_getElem hi⟩
    refine k_ ?_
    clear k_ M_
    have hd1 := hd ds (List.mem_of_getElem? hds)
    have hl1 := hw ds (List.mem_of_getElem? hds)
    have GC := G.kp kC
    walk_at "go"
    try dsimp only
    rename_i S₇
    refine cutB S₇ rfl hb (.int _ _) (.int _ _) (by rw [hlen]; exact om482 hlb) rfl ?_
    intro h₈ b' t' k' S₈ hb'
    have hcut : KBw.bInts b' = ds.map (48 + ·) := by
      rw [hb', ← flat_cut hw hds, hlen]
      have q1 : ((0 : Int) + (i : Int) * (wd : Int)) = ((i * wd : Nat) : Int) := by rw [Int.natCast_mul]; exact om483
      have hle : i * wd + wd ≤ rs.length * wd := by rw [← Nat.succ_mul]; exact Nat.mul_le_mul_right _ hi
      have q2 : clipAt (rs.length * wd) ((0 : Int) + (i : Int) * (wd : Int)) = i * wd := by rw [q1]; unfold clipAt; omega
      have q3 : clipAt (rs.length * wd) ((0 : Int) + (i : Int) * (wd : Int) + (wd : Int)) = i * wd + wd := by rw [q1]; unfold clipAt; omega
      simp only [Option.elim_some, q2, q3]
      unfold laidN
      rw [show i * wd + wd - i * wd = wd by exact om486, List.map_take, List.map_drop]
    have hsz : b'.size = ds.length := by rw [← KBw.ints_length, hcut, List.length_map]
    refine iterBytes (O := [(D, lobj acc e)]) X r.hand S₈ ?_
    intro I₂ o₂ h₉ S₉ sr₉
    refine for_src (O := [(D, lobj acc e)]) (X₀ := X) (X := [(I₂, o₂)]) (fun j C m O => O = [(D, lobj acc e)] ∧ m "ways" = some (.ref D) ∧ m "row" = some (.bytes b tb) ∧ m "width" = some (.int wd tw) ∧ ∃ t, m "way" = some (.str (textS (ds.take j)) t)) sr₉ rfl rfl rfl S₉ ⟨rfl, ?_, ?_, ?_, ?_⟩ ?_ ?_ (fun f s' q => q)
    · walk_at "lk"
    · walk_at "lk"
    · walk_at "lk"
    · rw [List.take_zero, textS_nil]; exact ⟨_, rfl⟩
    · intro j v C' h m O X tk hj hq31_ kC' hq32_ S
      refine via fun M_ k_ => ?_
      obtain ⟨n, u, hnb, rfl⟩ := hq31_
      obtain ⟨rfl, hways, hrow, hwidth, t₁, hway⟩ := hq32_
      refine k_ ?_
      clear k_ M_
      have hget := bInts_get hcut hnb
      rw [List.getElem?_map] at hget
      refine via fun M_ k_ => ?_
      obtain ⟨d, hdd, hdn⟩ := Option.map_eq_some_iff.mp hget
      refine k_ ?_
      clear k_ M_
      have hd2 := hd1 d (List.mem_of_getElem? hdd)
      have GC' := GC.kp kC'
      rw [← hdn] at S
      walk_at "go"
      refine chr_of_range (by exact om257 hd2) (by exact om258 hd2) ?_
      walk_at "go"
      have hlt : (ds.take j).length ≤ 100 := by rw [List.length_take]; exact om487 hl1 hw2
      refine join_spec (inG GC' S) (r.deep _) (chS_starts hd2.1) (textS_pos _) ?_ ?_
      · rw [sizeLine_eq, textS_len]
        have : (⟨#[(48 + d).toNat]⟩ : Str).length = 1 := rfl
        split <;> (first | exact om488 this | exact om489 this hlt)
      · intro h₁₀ tk₁₀ t₁₀ k₁₀
        have S' := S.keep k₁₀
        clear S
        rw [show (⟨#[(48 + d).toNat]⟩ : Str) = chS d from rfl, textS_step (hd1.take j), ← take_succ' hdd]
        walk_at "go"
        refine turn_next (kp_refl _) (O' := [(D, lobj acc e)]) (by assumption) ⟨rfl, ?_, ?_, ?_, ?_⟩
        · walk_at "lk"
        · walk_at "lk"
        · walk_at "lk"
        · exact ⟨_, rfl⟩
    · intro C' h₁₀ m' O tk kC' hq33_ S
      refine via fun M_ k_ => ?_
      obtain ⟨rfl, hways', hrow', hwidth', t₁, hway⟩ := hq33_
      refine k_ ?_
      clear k_ M_
      rw [hsz, List.take_length] at hway
      have GC' := GC.kp kC'
      walk_at "go"
      refine gmAppend S (.head _) ?_
      walk_at "go"
      refine appL (O₁ := []) S (by rw [hacc.length, List.length_map, List.length_take, sizeLine_eq]; exact om490 hn) ?_
      intro h₁₁ e₁₁ S₁₁
      walk_at "go"
      refine turn_next kC' (O' := [(D, _)]) S₁₁ ⟨_, _, rfl, hways', hrow', hwidth', ?_⟩
      rw [take_succ' hds, List.map_append]
      exact hacc.snoc ⟨_, rfl⟩
  · intro C h₉ m O tk kC hq34_ S₆
    refine via fun M_ k_ => ?_
    obtain ⟨acc, e, rfl, hways, hrow, hwidth, hacc⟩ := hq34_
    refine k_ ?_
    clear k_ M_
    rw [List.take_length] at hacc
    walk_at "go"
    exact h _ _ _ (kC.trans S₆.kp) ⟨acc, e, S₆.get (.head _), hacc⟩
section
variable {w : World} {A : Around} {s : Shared} {B : Heap} {L : Addr} {m : Str → Option Value} {O X X₀ : Led} {env : Env}
theorem iterRange0 {r : Addr} {n : Nat} {t u v : Tok} {Q E : Value → Shared → Prop} (X₀ : Led) (hh : A.handled = none) (hr : IsRange s.heap r 0 n 1 t u v) (hs : n < 100000) (S : St B L s.heap m (O ++ X₀))
    (h : ∀ I o h', St B L h' m (O ++ (X₀ ++ [(I, o)])) → Src w A B X₀ [(I, o)] h' I n (fun i v => ∃ t, v = .int i t) → Q (.ref I) { s with heap := h' }) :
    wpAny (model P0 w) A (pyIter (.ref r)) Q E s := by
  refine iterRange1 X₀ hh (a := 0) (n := n) (by simpa using hr) (by exact om316) (by exact om317 hs) S ?_
  intro I o h' S' sr
  exact h I o h' S' (by simpa using sr)
end
noncomputable def alikeN (a b : List Int) : Nat := ((List.range a.length).filter fun k => decide (a[k]? = b[k]?)).length
theorem range_take {n i : Nat} (h : i ≤ n) : (List.range n).take i = List.range i := by
  rw [List.take_range, Nat.min_eq_left h]
theorem getL_some {α β : Type} {F : α → β → Prop} {l₁ : List α} {l₂ : List β} (h : Paired F l₁ l₂) {i : Nat} (hi : i < l₂.length) : ∃ a b, l₁[i]? = some a ∧ l₂[i]? = some b ∧ F a b := by
  have hl := h.length
  have e1 : l₁[i]? = some (l₁[i]'(by exact om1 hi hl)) := List.getElem?_eq_getElem (by exact om1 hi hl)
  obtain ⟨b, hb, hf⟩ := paired_getL h e1
  exact ⟨_, b, e1, hb, hf⟩
theorem alike_spec {w : World} {A : Around} {s : Shared} {Q E : Value → Shared → Prop} {a b : Addr} {xs ys : List Int} (r : Rm A 1) (G : Gd w s.heap) (ha : IL s.heap a xs) (hb : IL s.heap b ys) (hl : xs.length = ys.length) (hn : xs.length ≤ 1000)
    (h : ∀ h' tk' t', Kp s.heap h' → Q (.int (alikeN xs ys) t') {s with heap := h', toks := tk'}) :
    wpAny (model P0 w) A (call (.ref 196) [.ref a, .ref b]) Q E s := by
  refine enterC [("one", .ref a), ("other", .ref b)] G r.room rfl rfl rfl rfl (by decide) rfl rfl rfl ?_
  intro L h₁ tk cells hcs S
  obtain ⟨o2, o1, rfl, h2, h1⟩ := CellsAre.two hcs
  obtain ⟨C, kC, kCh, hC, hO, S₁⟩ := St.freeze (O₁ := [(L + 1 + 1, o2), (L + 1, o1)]) (O₂ := []) S
  have c1 : C.IsCell (L + 1) (some (.ref a)) := ⟨o1, hO _ (.tail _ (.head _)), h1⟩
  have c2 : C.IsCell (L + 1 + 1) (some (.ref b)) := ⟨o2, hO _ (.head _), h2⟩
  have GC := G.kp kC
  obtain ⟨vs, e, hva, hP⟩ := ha
  obtain ⟨us, e', hub, hU⟩ := hb
  have hva := kC _ _ hva
  have hub := kC _ _ hub
  clear S h1 h2 hC hO hcs
  try dsimp only
  walk_at "go"
  refine lcomp_eval rfl rfl (by decide) (fun _ => rfl) ?_
  walk_at "go"
  refine lenL (isL (S₁.kp _ _ hva)) (by rw [List.size_toArray, hP.length]; exact om94 hn) ?_
  intro t₂ tk₂
  walk_at "go"
  refine callRange1 S₁ ?_
  intro R h₃ tk₃ u v S₃ hR
  refine iterRange0 (O := []) [] r.hand hR (by rw [List.size_toArray, hP.length]; exact om318 hn) S₃ ?_
  intro I o h₄ S₄ sr
  refine lcomp_src0 (O := []) (X₀ := []) (X := [(I, o)]) (fun i C O acc => O = [] ∧ acc.length = ((List.range i).filter fun k => decide (xs[k]? = ys[k]?)).length) sr rfl (by decide) rfl S₄ ⟨rfl, rfl⟩ (by rw [sizeLine_eq, List.size_toArray, hP.length]; exact om65 hn) (fun _ => rfl) ?_ ?_
  · rintro Cl D i v C' h m O X e acc tk hi ⟨t, rfl⟩ kC' ⟨rfl, hacc⟩ S₅
    rw [List.size_toArray, hP.length] at hi
    have GC' := GC.kp kC'
    have c1' := c1.keeps kC'
    have c2' := c2.keeps kC'
    obtain ⟨_, x, hx1, hx2, tx, rfl⟩ := getL_some hP hi
    obtain ⟨_, y, hy1, hy2, ty, rfl⟩ := getL_some hU (hl ▸ hi)
    refine wpAny_assign_Name ?_
    walk_at "go"
    refine tests_one ?_
    walk_at "go"
    rename_i S₆
    refine itemL (isL (S₆.kp _ _ (kC' _ _ hva))) (j := i) (by exact om66) (by exact om95 hi hn) (by simpa using hx1) rfl ?_
    walk_at "go"
    refine itemL (isL (S₆.kp _ _ (kC' _ _ hub))) (j := i) (by exact om66) (by exact om95 hi hn) (by simpa using hy1) rfl ?_
    walk_at "go"
    have hstep : (List.filter (fun k => decide (xs[k]? = ys[k]?)) (List.range (i + 1))).length = ((List.range i).filter fun k => decide (xs[k]? = ys[k]?)).length + (if x = y then 1 else 0) := by
      rw [List.range_succ, List.filter_append, List.length_append]
      congr 1
      simp only [List.filter_cons, List.filter_nil, hx2, hy2, Option.some.injEq]
      by_cases q : x = y <;> simp [q]
    by_cases q : x = y
    · have q' : (x == y) = true := by simp [q]
      rw [if_pos q'] 
      walk_at "go"
      refine elt_mk (O' := []) (kp_refl _) (by assumption) ⟨rfl, ?_⟩
      rw [hstep, if_pos q, List.length_append, hacc]; rfl
    · have q' : (x == y) = false := by simp [q]
      rw [q', if_neg Bool.false_ne_true]
      refine elt_mk (O' := []) (kp_refl _) (by assumption) ⟨rfl, ?_⟩
      rw [hstep, if_neg q, hacc]; rfl
  · intro D C' h₉ Cl mc oL O acc e tk kC' ⟨hO, hacc⟩ hoL S₅
    subst hO
    refine post_none hoL S₅ ?_
    intro h₆ S₆
    have GC' := GC.kp kC'
    walk_at "go"
    rw [List.size_toArray, hP.length] at hacc
    refine lenL (isL (S₆.get (.head _))) ?_ ?_
    · rw [List.size_toArray, hacc]
      exact Nat.le_trans (List.length_filter_le _ _) (by rw [List.length_range]; exact om94 hn)
    · intro t₇ tk₇
      walk_at "go"
      rw [List.size_toArray, hacc]
      exact h _ _ _ (kC.trans (kC'.trans S₆.kp))
noncomputable def lt2 (p q : Str × Int) : Bool := lexlt [.s p.1, .i p.2] [.s q.1, .i q.2]
noncomputable def RT2 (h : Heap) (v : Value) (p : Str × Int) : Prop := ∃ a t u, v = .ref a ∧ h.get? a = some (tobj [.str p.1 t, .int p.2 u])
noncomputable def lt3 (p q : Int × Int × Str) : Bool := lexlt [.i p.1, .i p.2.1, .s p.2.2] [.i q.1, .i q.2.1, .s q.2.2]
noncomputable def RT3 (h : Heap) (v : Value) (p : Int × Int × Str) : Prop := ∃ a t u t', v = .ref a ∧ h.get? a = some (tobj [.int p.1 t, .int p.2.1 u, .str p.2.2 t'])
theorem cmp2 (w : World) : Cmp w lt2 RT2 where
  mono := by rintro h h' v k kp ⟨a, t, u, e, q⟩; exact ⟨a, t, u, e, kp _ _ q⟩
  cmp := by
    rintro A s Q E v v' k k' hu ⟨a, t, u, rfl, q⟩ ⟨a', t', u', rfl, q'⟩ h
    refine tup_lt (as := [.s k.1, .i k.2]) (bs := [.s k'.1, .i k'.2]) q q' ?_ hu h
    exact .cons rfl rfl rfl (.cons rfl rfl rfl (.nil _ _ _ _ rfl rfl (.inl rfl)))
theorem cmp3 (w : World) : Cmp w lt3 RT3 where
  mono := by rintro h h' v k kp ⟨a, t, u, t2, e, q⟩; exact ⟨a, t, u, t2, e, kp _ _ q⟩
  cmp := by
    rintro A s Q E v v' k k' hu ⟨a, t, u, t2, rfl, q⟩ ⟨a', t', u', t2', rfl, q'⟩ h
    refine tup_lt (as := [.i k.1, .i k.2.1, .s k.2.2]) (bs := [.i k'.1, .i k'.2.1, .s k'.2.2]) q q' ?_ hu h
    exact .cons rfl rfl rfl (.cons rfl rfl rfl (.cons rfl rfl rfl (.nil _ _ _ _ rfl rfl (.inl rfl))))
theorem nat_tri (a b : List Nat) : a < b ∨ a = b ∨ b < a := by
  by_cases h : a < b
  · exact .inl h
  · by_cases h' : b < a
    · exact .inr (.inr h')
    · exact .inr (.inl (List.le_antisymm (List.not_lt.mp h') (List.not_lt.mp h)))
noncomputable def sLt (x y : Str) : Prop := x.cps.toList < y.cps.toList
theorem sLt_tri (x y : Str) : sLt x y ∨ x = y ∨ sLt y x := by
  rcases nat_tri x.cps.toList y.cps.toList with h | h | h
  · exact .inl h
  · exact .inr (.inl (str_ext h))
  · exact .inr (.inr h)
theorem sLt_irr (x : Str) : ¬ sLt x x := List.lt_irrefl _
theorem sLt_trans {x y z : Str} (h : sLt x y) (h' : sLt y z) : sLt x z := List.lt_trans h h'
theorem lt2_iff (p q : Str × Int) : lt2 p q = true ↔ sLt p.1 q.1 ∨ (p.1 = q.1 ∧ p.2 < q.2) := by
  unfold lt2
  simp only [lexlt, eqA, ltA]
  by_cases h : p.1 = q.1
  · have h0 : ¬ sLt q.1 q.1 := sLt_irr _
    by_cases h2 : p.2 = q.2
    · simp [h, h2, h0]
    · simp [h, h2, h0]
  · simp [h, sLt]
theorem lt3_iff (p q : Int × Int × Str) : lt3 p q = true ↔ p.1 < q.1 ∨ (p.1 = q.1 ∧ (p.2.1 < q.2.1 ∨ (p.2.1 = q.2.1 ∧ sLt p.2.2 q.2.2))) := by
  unfold lt3
  simp only [lexlt, eqA, ltA]
  by_cases h : p.1 = q.1
  · by_cases h2 : p.2.1 = q.2.1
    · by_cases h3 : p.2.2 = q.2.2
      · have h0 : ¬ sLt q.2.2 q.2.2 := sLt_irr _
        simp [h, h2, h3, h0]
      · simp [h, h2, h3, sLt]
    · simp [h, h2]
  · simp [h]
theorem bfalse {b : Bool} {P : Prop} (h : b = true ↔ P) : b = false ↔ ¬ P := by cases b <;> simp_all
theorem so2 : SO lt2 where
  asym := by
    intro a b h
    rw [bfalse (lt2_iff b a)]
    rw [lt2_iff] at h
    rintro (q | ⟨q, q'⟩) <;> rcases h with h | ⟨h, h'⟩
    · exact sLt_irr _ (sLt_trans q h)
    · rw [h] at q; exact sLt_irr _ q
    · rw [q] at h; exact sLt_irr _ h
    · exact om73 q' h'
  trans := by
    intro a b c h h'
    rw [bfalse (lt2_iff _ _)] at h h' ⊢
    rintro (q | ⟨q, q'⟩)
    · rcases sLt_tri a.1 b.1 with z | z | z
      · exact h' (.inl (sLt_trans q z))
      · exact h' (.inl (z ▸ q))
      · exact h (.inl z)
    · rcases sLt_tri a.1 b.1 with z | z | z
      · exact h' (.inl (q ▸ z))
      · by_cases y : b.2 < a.2
        · exact h (.inr ⟨z.symm, y⟩)
        · exact h' (.inr ⟨q.trans z, by exact om152 q' y⟩)
      · exact h (.inl z)
theorem so3 : SO lt3 where
  asym := by
    intro a b h
    rw [bfalse (lt3_iff b a)]
    rw [lt3_iff] at h
    rintro (q | ⟨q, q' | ⟨q', q''⟩⟩) <;> rcases h with h | ⟨h, h' | ⟨h', h''⟩⟩ <;> first | (first | exact om73 q h | exact om25 q h | exact om25 h q | exact om73 q' h' | exact om25 q' h' | exact om25 h' q') | exact sLt_irr _ (sLt_trans q'' h'')
  trans := by
    intro a b c h h'
    rw [bfalse (lt3_iff _ _)] at h h' ⊢
    rintro (q | ⟨q, q' | ⟨q', q''⟩⟩)
    · by_cases y : b.1 < a.1
      · exact h (.inl y)
      · exact h' (.inl (by exact om385 q h))
    · by_cases y : b.1 < a.1
      · exact h (.inl y)
      · by_cases y1 : a.1 < b.1
        · exact h' (.inl (by exact om74 y1 q))
        · by_cases y2 : b.2.1 < a.2.1
          · exact h (.inr ⟨by exact om75 q h h', .inl y2⟩)
          · exact h' (.inr ⟨by exact om46 q h h', .inl (by exact om152 q' y2)⟩)
    · by_cases y : b.1 < a.1
      · exact h (.inl y)
      · by_cases y1 : a.1 < b.1
        · exact h' (.inl (by exact om74 y1 q))
        · by_cases y2 : b.2.1 < a.2.1
          · exact h (.inr ⟨by exact om75 q h h', .inl y2⟩)
          · by_cases y3 : a.2.1 < b.2.1
            · exact h' (.inr ⟨by exact om46 q h h', .inl (by exact om74 y3 q')⟩)
            · rcases sLt_tri a.2.2 b.2.2 with z | z | z
              · exact h' (.inr ⟨by exact om46 q h h', .inr ⟨by exact om153 q' y2 y3, sLt_trans q'' z⟩⟩)
              · exact h' (.inr ⟨by exact om46 q h h', .inr ⟨by exact om153 q' y2 y3, z ▸ q''⟩⟩)
              · exact h (.inr ⟨by exact om75 q h h', .inr ⟨by exact om76 y2 y3, z⟩⟩)
noncomputable def TL2 (h : Heap) (a : Addr) (ps : List (Str × Int)) : Prop := ∃ vs e, h.get? a = some (lobj vs e) ∧ Paired (RT2 h) vs ps
noncomputable def keyL (xs : List Str) : List (Str × Int) := xs.zipIdx.map fun p => (p.1, (p.2 : Int))
theorem keyL_len (xs : List Str) : (keyL xs).length = xs.length := by unfold keyL; simp
theorem keyL_get {xs : List Str} {i : Nat} {x : Str} (h : xs[i]? = some x) : (keyL xs)[i]? = some (x, (i : Int)) := by
  unfold keyL; rw [List.getElem?_map, List.getElem?_zipIdx, h]; simp
theorem pw_snoc {α : Type} {F : α → α → Prop} {l : List α} {x : α} (h : l.Pairwise F) (hx : ∀ a ∈ l, F a x) : (l ++ [x]).Pairwise F := by
  rw [List.pairwise_append]
  exact ⟨h, List.pairwise_singleton _ _, fun a ha b hb => by rw [List.mem_singleton.mp hb]; exact hx a ha⟩
theorem popped_spec {w : World} {A : Around} {s : Shared} {Q E : Value → Shared → Prop} {a : Addr} {xs : List Str} (r : Rm A 4) (G : Gd w s.heap) (ha : SL s.heap a xs) (hn : xs.length ≤ 100)
    (h : ∀ D h' tk' ps, Kp s.heap h' → TL2 h' D ps → ps.Perm (keyL xs) → ps.Pairwise (fun p q => lt2 q p = false) → Q (.ref D) {s with heap := h', toks := tk'}) :
    wpAny (model P0 w) A (call (.ref 184) [.ref a]) Q E s := by
  refine enterC [("ways", .ref a)] G r.room rfl rfl rfl rfl (by decide) rfl rfl rfl ?_
  intro L h₁ tk cells hcs S
  refine via fun M_ k_ => ?_
  obtain ⟨o1, rfl, h1⟩ := CellsAre.one hcs
  refine k_ ?_
  clear k_ M_
  refine via fun M_ k_ => ?_
  obtain ⟨vs, e, hva, hP⟩ := ha
  refine k_ ?_
  clear k_ M_
  try dsimp only
  walk_at "go"
  refine newL S (by decide) ?_
  intro H h₂ S₂
  refine stC (O₁ := [(H, lobj [] 0)]) (O₂ := []) S₂ h1 rfl rfl rfl ?_
  intro h₃ o' ho' S₃
  refine via fun M_ k_ => ?_
  obtain ⟨C, kC, kCh, hC, hO, S₄⟩ := St.freeze (O₁ := [(L + 1, o')]) (O₂ := [(H, lobj [] 0)]) (S₃.perm (List.Perm.swap _ _ _))
  refine k_ ?_
  clear k_ M_
  have c1 : C.IsCell (L + 1) (some (.ref H)) := ⟨o', hO _ (.head _), ho'⟩
  have GC := G.kp kC
  have hva := kC _ _ hva
  clear S S₂ S₃ h1 hC hO hcs
  try dsimp only
  walk_at "go"
  refine lenL (isL (S₄.kp _ _ hva)) (by rw [List.size_toArray, hP.length]; exact om386 hn) ?_
  intro t₂ tk₂
  walk_at "go"
  refine callRange1 S₄ ?_
  intro R h₅ tk₃ u v S₅ hR
  refine iterRange0 (O := [(H, lobj [] 0)]) [] r.hand hR (by rw [List.size_toArray, hP.length]; exact om29 hn) S₅ ?_
  intro I o h₆ S₆ sr
  refine for_src (O := [(H, lobj [] 0)]) (X₀ := []) (X := [(I, o)]) (fun i C m O => ∃ items e ks, O = [(H, lobj items e)] ∧ m "ways" = some (.ref a) ∧ Paired (RT2 C) items ks ∧ IsHp lt2 ks ∧ ks.Perm ((keyL xs).take i)) sr rfl rfl rfl S₆ ⟨[], 0, [], rfl, rfl, .nil, fun i x y _ hx => by simp at hx, List.Perm.refl _⟩ ?_ ?_ (fun f s' q => q)
  · intro i v C' h m O X tk hi hq39_ kC' hq40_ S
    refine via fun M_ k_ => ?_
    obtain ⟨t, rfl⟩ := hq39_
    obtain ⟨items, e₁, ks, rfl, hways, hit, hhp, hperm⟩ := hq40_
    refine k_ ?_
    clear k_ M_
    rw [List.size_toArray, hP.length] at hi
    have GC' := GC.kp kC'
    have c1' := c1.keeps kC'
    refine via fun M_ k_ => ?_
    obtain ⟨_, x, hx1, hx2, tx, rfl⟩ := getL_some hP hi
    refine k_ ?_
    clear k_ M_
    walk_at "go"
    refine itemL (isL (S.kp _ _ (kC' _ _ hva))) (j := i) (by exact om66) (by exact om13 hi hn) (by simpa using hx1) rfl ?_
    walk_at "go"
    refine newT S (by walk_at "sz") ?_
    intro T h₇ S₇
    walk_at "go"
    refine via fun M_ k_ => ?_
    obtain ⟨C₂, kC₂, kCh₂, hC₂, hO₂, S₈⟩ := St.freeze (O₁ := [(T, tobj [.str x tx, .int (i : Int) t])]) (O₂ := [(H, lobj items e₁)] ++ X) S₇
    refine k_ ?_
    clear k_ M_
    have hH := S₈.nw (H, lobj items e₁) (by simp)
    have hkl : ks.length ≤ 100 := by rw [hperm.length_eq, List.length_take, keyL_len]; exact om387 hn
    refine heappush_spec (cmp2 w) (x := (x, (i : Int))) (r.less (k := 3) (by exact om135) |>.deep _) (GC'.kp kC₂) kCh₂ hH.2.2 hH.1 (hit.mono fun _ _ z => (cmp2 w).mono kC₂ z) ⟨T, _, _, rfl, hO₂ _ (.head _)⟩ (by rw [hit.length]; exact om388 hkl) ?_
    intro h₉ tk₉ items' e₂ k₉ hH₉ hP₉
    have S₉ := St.but (O₁ := []) S₈ k₉ hH₉
    walk_at "go"
    have po := push_ok so2 hhp (x, (i : Int))
    refine turn_next kC₂ (O' := [(H, _)]) S₉ ⟨_, _, _, rfl, hways, hP₉, po.1, ?_⟩
    rw [take_succ' (keyL_get hx2)]
    exact po.2.trans (hperm.append_right _)
  · intro C' h₉ m O tk kC' hq41_ S
    refine via fun M_ k_ => ?_
    obtain ⟨items, e₁, ks, rfl, hways, hit, hhp, hperm⟩ := hq41_
    refine k_ ?_
    clear k_ M_
    rw [List.size_toArray, hP.length, ← keyL_len, List.take_length] at hperm
    have GC' := GC.kp kC'
    have c1' := c1.keeps kC'
    walk_at "go"
    refine lcomp_eval rfl rfl (by decide) (fun _ => rfl) ?_
    walk_at "go"
    refine iterList (O := [(H, lobj items e₁)]) [] r.hand (isL (kC' _ _ hva)) S ?_
    intro I₂ o₂ h₁₀ S₁₀ sr₂
    refine lcomp_src0 (O := [(H, lobj items e₁)]) (X₀ := []) (X := [(I₂, o₂)]) (fun i C O acc => ∃ items e ks ps, O = [(H, lobj items e)] ∧ Paired (RT2 C) items ks ∧ IsHp lt2 ks ∧ Paired (RT2 C) acc ps ∧ ps.length = i ∧ (ps ++ ks).Perm (keyL xs) ∧ ps.Pairwise (fun p q => lt2 q p = false) ∧ ∀ p ∈ ps, ∀ q ∈ ks, lt2 q p = false) sr₂ rfl (by decide) rfl S₁₀ ⟨items, e₁, ks, [], rfl, hit, hhp, .nil, rfl, hperm, .nil, fun p hp => by cases hp⟩ (by rw [sizeLine_eq, List.size_toArray, hP.length]; exact om21 hn) (fun _ => rfl) ?_ ?_
    · intro Cl D i v C'' h m O X e acc tk hi hv kC'' hq42_ S₁₁
      refine via fun M_ k_ => ?_
      obtain ⟨items, e₁, ks, ps, rfl, hit, hhp, hacc, hps, hperm, hpw, hle⟩ := hq42_
      refine k_ ?_
      clear k_ M_
      rw [List.size_toArray, hP.length] at hi
      have GC'' := GC'.kp kC''
      have c1'' := c1'.keeps kC''
      cases ks with
      | nil =>
        have := hperm.length_eq
        rw [List.append_nil, hps, keyL_len] at this
        exact om389 hi this
      | cons k0 kr =>
        have hpl := hperm.length_eq
        rw [List.length_append, keyL_len, List.length_cons] at hpl
        refine wpAny_assign_Name ?_
        walk_at "go"
        refine tests_nil ?_
        walk_at "go"
        rename_i S₁₂
        have hH := S₁₂.nw (H, lobj items e₁) (by simp)
        refine heappop_spec (cmp2 w) (r.less (k := 4) (by exact om390) |>.deep _) GC'' S₁₂.kp hH.2.2 hH.1 hit (by rw [hit.length, List.length_cons]; exact om391 hpl hn) ?_
        intro h₁₃ tk₁₃ items' e₃ v0 k₁₃ hH₁₃ hP₁₃ hv0
        have S₁₃ := St.but (O₁ := [(D, lobj acc e)]) S₁₂ k₁₃ hH₁₃
        have po := popRest_ok so2 hhp
        have irr : lt2 k0 k0 = false := by
          cases q : lt2 k0 k0 with
          | false => rfl
          | true => have := so2.asym _ _ q; rw [q] at this; exact this
        have hmin := hp_min so2 hhp irr
        refine elt_mk (O' := [(H, lobj items' e₃)]) (kp_refl _) S₁₃ ⟨items', e₃, _, ps ++ [k0], rfl, hP₁₃, po.1, hacc.snoc hv0, by rw [List.length_append, hps]; rfl, ?_, ?_, ?_⟩
        · rw [List.append_assoc]
          exact (List.Perm.append_left ps po.2).trans hperm
        · exact pw_snoc hpw fun p hp => hle p hp k0 List.mem_cons_self
        · intro p hp q hq
          have hq' : q ∈ k0 :: kr := po.2.subset (List.mem_cons_of_mem _ hq)
          rcases List.mem_append.mp hp with hp | hp
          · exact hle p hp q hq'
          · rw [List.mem_singleton.mp hp]
            refine via fun M_ k_ => ?_
            obtain ⟨j, hj⟩ := List.getElem?_of_mem hq'
            refine k_ ?_
            clear k_ M_
            exact hmin j q hj
    · intro D C'' h₁₁ Cl mc oL O acc e tk kC'' ⟨items, e₁, ks, ps, hO, hit, hhp, hacc, hps, hperm, hpw, hle⟩ hoL S₁₁
      subst hO
      rw [List.size_toArray, hP.length] at hps
      have hks : ks = [] := by
        have := hperm.length_eq
        rw [List.length_append, hps, keyL_len] at this
        exact List.eq_nil_of_length_eq_zero (by exact om392 this)
      subst hks
      rw [List.append_nil] at hperm
      refine post_none hoL S₁₁ ?_
      intro h₁₂ S₁₂
      walk_at "go"
      exact h _ _ _ ps (kC.trans (kC'.trans (kC''.trans S₁₂.kp))) ⟨acc, e, S₁₂.get (.head _), hacc.mono fun _ _ z => (cmp2 w).mono S₁₂.kp z⟩ hperm hpw
namespace MapF
theorem owner_map : Manifest.owners.lookup (String.ofList ['p', 'a', 'm'].reverse) = some Manifest.sig_map := by kernel_rfl
theorem slot_init : Slot "map" "__init__" "object.__init__" :=
  .of (owner := "object") (n := "__init__") (by rw [typeLookup_type, builtinLookup_eq_fast]; kernel_rfl) (by decide +kernel) (by decide +kernel) (by decide +kernel)
    (by first | exact .inl (by decide +kernel) | exact .inr (by decide +kernel)) (by rw [isSubtype_type]; kernel_rfl)
theorem slot_iter : Slot "map" "__iter__" "map.__iter__" :=
  .of (owner := "map") (n := "__iter__") (by rw [typeLookup_type, builtinLookup_eq_fast]; kernel_rfl) (by decide +kernel) (by decide +kernel) (by decide +kernel)
    (by first | exact .inl (by decide +kernel) | exact .inr (by decide +kernel)) (by rw [isSubtype_type]; kernel_rfl)
theorem args_iter (a : Value) : argsOk "map.__iter__" ⟨[a], []⟩ := by
  unfold argsOk; rw [signature?_of (id := "map.__iter__") (n := ['_', '_', 'r', 'e', 't', 'i', '_', '_']) (o := ['p', 'a', 'm']) (by kernel_rfl) owner_map]; kernel_rfl
theorem slot_next : Slot "map" "__next__" "map.__next__" :=
  .of (owner := "map") (n := "__next__") (by rw [typeLookup_type, builtinLookup_eq_fast]; kernel_rfl) (by decide +kernel) (by decide +kernel) (by decide +kernel)
    (by first | exact .inl (by decide +kernel) | exact .inr (by decide +kernel)) (by rw [isSubtype_type]; kernel_rfl)
theorem entry_next : entryFor table "map.__next__" = some Builtin.«map.__next__» := entryFor_of_tree (by kernel_rfl)
theorem args_next (a : Value) : argsOk "map.__next__" ⟨[a], []⟩ := by
  unfold argsOk; rw [signature?_of (id := "map.__next__") (n := ['_', '_', 't', 'x', 'e', 'n', '_', '_']) (o := ['p', 'a', 'm']) (by kernel_rfl) owner_map]; kernel_rfl
theorem entry_iter : entryFor table "map.__iter__" = some Builtin.«dict_keyiterator.__iter__» :=
  entryFor_alias (id' := "dict_keyiterator.__iter__") (by kernel_rfl) (by first | rfl | decide +kernel | (unfold String.splitOn; simp +decide [String.splitOnAux])) (by decide +kernel) (by kernel_rfl)
theorem mro : mroOf (.type "map") = pure [.type "map", .type "object"] := by rw [mroOf_type]; kernel_rfl
theorem lookup_new : typeLookup (.type "map") "__new__" = pure (some (.builtin "map.__new__")) := by rw [typeLookup_type, builtinLookup_eq_fast]; kernel_rfl
theorem called : TypeCalled "map" "map.__new__" "object.__init__" :=
  ⟨by decide +kernel, by decide +kernel, ⟨_, _, mro⟩, madeBy_type mro lookup_new (by decide +kernel), by decide +kernel, by rw [isSubtype_type]; kernel_rfl, slot_init⟩
theorem typeCall (a b : Value) : checkTypeCall "map" ⟨[a, b], []⟩ = pure () := by kernel_rfl
theorem newCall (a b : Value) : checkBuiltinCall "map.__new__" ⟨[.type "map", a, b], []⟩ = pure () := by kernel_rfl
theorem entry_new : entryFor table "map.__new__" = some Builtin.«map.__new__» := entryFor_of_tree (by kernel_rfl)
theorem sub : isSubtype (.type "map") (.type "map") = pure true := by rw [isSubtype_type]; kernel_rfl
theorem no_len : typeLookup (.type "map") "__len__" = pure none := by rw [typeLookup_type, builtinLookup_eq_fast]; kernel_rfl
theorem no_hint : typeLookup (.type "map") "__length_hint__" = pure none := by rw [typeLookup_type, builtinLookup_eq_fast]; kernel_rfl
end MapF
noncomputable abbrev mapO (TI : Addr) (f : Value) : Obj := { cls := .type "map", data := .fields #[.ref TI, f] }
noncomputable abbrev itO (l : Addr) (k : Int) : Obj := { cls := .type "list_iterator", data := .fields #[.ref l, .int k 0] }
theorem meets_map_new (f : Value) (l : Addr) (xs : Array Value) :
    Meets (Builtin.«map.__new__» ⟨[.type "map", f, .ref l], []⟩) (fun _ R s => s.heap.IsList l xs ∧
      R (.ok (.ret (.ref ((s.heap.push (itO l 0)).push (tobj [.ref s.heap.objs.size])).objs.size))) { s with heap := ((s.heap.push (itO l 0)).push (tobj [.ref s.heap.objs.size])).push (mapO (s.heap.push (itO l 0)).objs.size f) }) :=
  .of_wp fun prog w A R s h => by
    obtain ⟨hp, g, d, tk, os⟩ := s; obtain ⟨hl1, h⟩ := h
    have hsub := MapF.sub
    have hL1 : Heap.IsList (Shared.heap ⟨hp, g, d, tk, os⟩) l xs := hl1
    wp_walk using wpAny_pyIter_list hL1
    exact ⟨_, rfl, h⟩
structure MapAt (h : Heap) (z TI i l : Addr) (f : Value) (k : Nat) : Prop where
  z : h.get? z = some (mapO TI f)
  t : h.get? TI = some (tobj [.ref i])
  i : h.IsListIter i l k
theorem callMap {w : World} {A : Around} {s : Shared} {Q E : Value → Shared → Prop} {f : Value} {l : Addr} {xs : Array Value} (hl : s.heap.IsList l xs)
    (h : ∀ z TI i h', Kp s.heap h' → MapAt h' z TI i l f 0 → s.heap.get? z = none → s.heap.get? TI = none → s.heap.get? i = none → z ≠ i → TI ≠ i → Q (.ref z) { s with heap := h' }) :
    wpAny (model P0 w) A (call (.type "map") [f, .ref l]) Q E s := by
  refine callType_new MapF.called (by decide) (MapF.typeCall _ _) (MapF.newCall _ _) (fun obj => F.args_object_init_3 obj _ _) MapF.entry_new (meets_map_new f l xs) ⟨hl, ?_⟩
  have z1 : (s.heap.push (itO l 0)).objs.size = s.heap.objs.size + 1 := Heap.size_push ..
  have z2 : ((s.heap.push (itO l 0)).push (tobj [.ref s.heap.objs.size])).objs.size = s.heap.objs.size + 2 := by rw [Heap.size_push, z1]
  have g3 : (((s.heap.push (itO l 0)).push (tobj [.ref s.heap.objs.size])).push (mapO (s.heap.push (itO l 0)).objs.size f)).get? ((s.heap.push (itO l 0)).push (tobj [.ref s.heap.objs.size])).objs.size = some (mapO (s.heap.push (itO l 0)).objs.size f) := Heap.get?_push_size _ rfl
  have g2 : (((s.heap.push (itO l 0)).push (tobj [.ref s.heap.objs.size])).push (mapO (s.heap.push (itO l 0)).objs.size f)).get? (s.heap.push (itO l 0)).objs.size = some (tobj [.ref s.heap.objs.size]) := Heap.get?_push_of_some _ (Heap.get?_push_size _ rfl)
  have g1 : (((s.heap.push (itO l 0)).push (tobj [.ref s.heap.objs.size])).push (mapO (s.heap.push (itO l 0)).objs.size f)).get? s.heap.objs.size = some (itO l 0) := Heap.get?_push_of_some _ (Heap.get?_push_of_some _ (Heap.get?_push_size _ rfl))
  show _ ∧ _
  refine ⟨⟨_, g3, rfl⟩, h _ _ _ _ (fun c o x => Heap.get?_push_of_some _ (Heap.get?_push_of_some _ (Heap.get?_push_of_some _ x))) ⟨g3, g2, ⟨_, g1, rfl, rfl⟩⟩ ?_ ?_ ?_ ?_ ?_⟩
  · exact Heap.get?_none_of_le (by rw [z2]; exact om339)
  · exact Heap.get?_none_of_le (by rw [z1]; exact om68)
  · exact Heap.get?_none_of_le (Nat.le_refl _)
  · exact Nat.ne_of_gt (by rw [z2]; exact om340)
  · exact Nat.ne_of_gt (by rw [z1]; exact om19)

section
variable {w : World} {A : Around} {s : Shared} {Q E : Value → Shared → Prop} {g : Heap} {z TI i l : Addr} {vs : List Value}
theorem map_item {x : Str} {t : Tok} {k : Nat} (G : Gd w g) (kg : Kp g s.heap) (r : Rm A 1) (M : MapAt s.heap z TI i l (.ref 94) k) (hl : s.heap.IsList l vs.toArray) (hx : vs[k]? = some (.str x t)) (gi : g.get? i = none) (hz : z ≠ i) (ht : TI ≠ i)
    (h : ∀ h' tk', (∀ b o, b ≠ i → s.heap.get? b = some o → h'.get? b = some o) → MapAt h' z TI i l (.ref 94) (k + 1) → Q (.str x t) { s with heap := h', toks := tk' }) :
    wpAny (model P0 w) A (Builtin.«map.__next__» ⟨[.ref z], []⟩) (fun fin s' => ∃ v, fin = .done (.ret v) ∧ Q v s') E s := by
  show wpAny _ _ (field (.ref z) 0 >>= _) _ _ _
  refine wpAny_bind (wpAny_field M.z rfl (x := .ref TI) rfl ?_)
  refine wpAny_bind (wpAny_seqItems M.t rfl ?_)
  refine wpAny_bind ?_
  rw [← Array.forIn_toList]
  show wpAny _ _ (forIn [Value.ref i] _ _) _ _ _
  rw [List.forIn_cons]
  refine wpAny_bind (wpAny_bind (wpAny_holding ?_))
  refine wpAny_nextOf_list_item M.i hl (by simpa using hx) fun h₁ hi₁ hs₁ => ?_
  refine wpAny_pure (wpAny_pure ?_)
  have hz₁ : h₁.get? z = some (mapO TI (.ref 94)) := hs₁.extBut _ _ hz M.z
  have ht₁ : h₁.get? TI = some (tobj [.ref i]) := hs₁.extBut _ _ ht M.t
  refine wpAny_bind (wpAny_field hz₁ rfl (x := .ref 94) rfl ?_)
  have kg₁ : Kp g h₁ := fun b o e => hs₁.extBut _ _ (fun q => by rw [q, gi] at e; cases e) (kg _ _ e)
  refine wpAny_bind (wpAny_holding ?_)
  refine fspath_spec (G.kp kg₁) r ?_
  intro h₂ tk₂ k₂
  refine wpAny_bind (wpAny_letGo ?_)
  refine wpAny_pure ⟨_, rfl, h h₂ tk₂ (fun b o hb e => k₂ _ _ (hs₁.extBut _ _ hb e)) ⟨k₂ _ _ hz₁, k₂ _ _ ht₁, hi₁.at fun o e => k₂ _ _ e⟩⟩
theorem map_end {Q : Fin → Shared → Prop} {k : Nat} (hh : A.handled = none) (M : MapAt s.heap z TI i l (.ref 94) k) (hl : s.heap.IsList l vs.toArray) (hx : vs[k]? = none)
    (hE : ∀ h' e, (∀ b o, b ≠ i → s.heap.get? b = some o → h'.get? b = some o) → (∃ o, h'.get? e = some o ∧ o.cls = .type "StopIteration") → E (.ref e) { s with heap := h' }) :
    wpAny (model P0 w) A (Builtin.«map.__next__» ⟨[.ref z], []⟩) Q E s := by
  show wpAny _ _ (field (.ref z) 0 >>= _) _ _ _
  refine wpAny_bind (wpAny_field M.z rfl (x := .ref TI) rfl ?_)
  refine wpAny_bind (wpAny_seqItems M.t rfl ?_)
  refine wpAny_bind ?_
  rw [← Array.forIn_toList]
  show wpAny _ _ (forIn [Value.ref i] _ _) _ _ _
  rw [List.forIn_cons]
  refine wpAny_bind (wpAny_bind (wpAny_holding ?_))
  exact wpAny_nextOf_list_end hh M.i hl (by simpa using hx) fun h₁ e hs₁ he => hE h₁ e (fun b o hb e => hs₁ _ _ hb e) he
theorem map_pyNext_item {Q : Option Value → Shared → Prop} {x : Str} {t : Tok} {k : Nat} (G : Gd w g) (kg : Kp g s.heap) (r : Rm A 2) (M : MapAt s.heap z TI i l (.ref 94) k) (hl : s.heap.IsList l vs.toArray) (hx : vs[k]? = some (.str x t)) (gi : g.get? i = none) (hz : z ≠ i) (ht : TI ≠ i)
    (h : ∀ h' tk', (∀ b o, b ≠ i → s.heap.get? b = some o → h'.get? b = some o) → MapAt h' z TI i l (.ref 94) (k + 1) → Q (some (.str x t)) { s with heap := h', toks := tk' }) :
    wpAny (model P0 w) A (pyNext (.ref z)) Q E s := by
  have hT : s.TypeIs (.ref z) "map" := ⟨_, M.z, rfl⟩
  unfold pyNext
  exact wpAny_bind (wpAny_attempt (wpAny_callSpecial?_slot (name := Str.ofString "__next__") hT MapF.slot_next
    (wpAny_call_entry MapF.slot_next hT MapF.entry_next
      (map_item G kg ⟨by have := r.depth; show A.depth + 1 < _; exact om341 this, by have := r.units; show A.units + 1 + 8 * 1 < _; exact om342 this, r.hand⟩ M hl hx gi hz ht fun h' tk' a1 a2 => wpAny_pure (h h' tk' a1 a2)) (MapF.args_next _))))
theorem map_pyNext_end {Q : Option Value → Shared → Prop} {k : Nat} (hh : A.handled = none) (M : MapAt s.heap z TI i l (.ref 94) k) (hl : s.heap.IsList l vs.toArray) (hx : vs[k]? = none)
    (h : ∀ h', (∀ b o, b ≠ i → s.heap.get? b = some o → h'.get? b = some o) → Q none { s with heap := h' }) :
    wpAny (model P0 w) A (pyNext (.ref z)) Q E s := by
  have hT : s.TypeIs (.ref z) "map" := ⟨_, M.z, rfl⟩
  unfold pyNext
  refine wpAny_bind (wpAny_attempt (wpAny_callSpecial?_slot (name := Str.ofString "__next__") hT MapF.slot_next
    (wpAny_call_entry MapF.slot_next hT MapF.entry_next (map_end hh M hl hx fun h' e hk he => ?_) (MapF.args_next _))))
  obtain ⟨o, ho, hc⟩ := he
  refine wpAny_bind (wpAny_isInstance (T := "StopIteration") (b := true) ⟨o, ho, hc⟩ isSubtype_stop ?_)
  exact wpAny_pure (h _ hk)
theorem map_pyIter {k : Nat} {f : Value} (M : MapAt s.heap z TI i l f k) (h : Q (.ref z) s) : wpAny (model P0 w) A (pyIter (.ref z)) Q E s := by
  have hT : s.TypeIs (.ref z) "map" := ⟨_, M.z, rfl⟩
  refine wpAny_pyIter_slot hT MapF.slot_iter (wpAny_call_entry MapF.slot_iter hT MapF.entry_iter ?_ (MapF.args_iter _))
  show wpAny _ _ (ret (.ref z)) _ _ s
  exact wpAny_pure ⟨_, rfl, "map", _, hT, MapF.slot_next.lookup, h⟩
end
theorem MapAt.keep {h h' : Heap} {z TI i l : Addr} {f : Value} {k : Nat} (M : MapAt h z TI i l f k) (hk : ∀ b o, h.get? b = some o → b = z ∨ b = TI ∨ b = i → h'.get? b = some o) : MapAt h' z TI i l f k :=
  ⟨hk _ _ M.z (.inl rfl), hk _ _ M.t (.inr (.inl rfl)), M.i.at fun o e => hk _ _ e (.inr (.inr rfl))⟩
section
variable {w : World} {A : Around} {Q E : Value → Shared → Prop} {R : Result → Shared → Prop} {g : Heap} {z TI i l S : Addr} {vs : List Value}
theorem map_extend (G : Gd w g) (r : Rm A 3) (hl : g.IsList l vs.toArray) (hvs : ∀ v ∈ vs, ∃ x t, v = Value.str x t) (hn : vs.length ≤ 1000) (gi : g.get? i = none) (gS : g.get? S = none) (hz : z ≠ i) (ht : TI ≠ i) (hSz : S ≠ z) (hSt : S ≠ TI) (hSi : S ≠ i) (res : Value) :
    ∀ (k j : Nat) (s : Shared) (c : Nat), vs.length - j = k → j ≤ vs.length → Kp g s.heap → MapAt s.heap z TI i l (.ref 94) j → s.heap.get? S = some (lobj (vs.take j) c) →
      (∀ h' tk' c', Kp g h' → h'.get? S = some (lobj vs c') → R (.ok (.ret res)) { s with heap := h', toks := tk' }) →
      codeAny (model P0 w) A (.builtin "list.extend.loop" ⟨[.ref S, .ref z, res], []⟩) R s := by
  have hle : Rm A.in1 2 := ⟨by have := r.depth; show A.depth + 2 < _; exact om343 this, by have := r.units; show A.units + 1 + 8 * 2 < _; exact om344 this, r.hand⟩
  intro k
  induction k with
  | zero =>
    intro j s c hk hj kg M hS hR
    have hj' : j = vs.length := by exact om345 hk hj
    subst hj'
    refine codeAny_builtin F.entry_extend_loop ?_
    rw [Around.under_plainId F.plain_extend_loop _]
    show wpAny _ A.in1 (pyNext (.ref z) >>= _) _ _ s
    refine wpAny_bind (map_pyNext_end r.hand M (hl.at fun o e => kg _ _ e) (by simp) fun h' hk' => ?_)
    rw [List.take_length] at hS
    exact wpAny_pure (hR h' s.toks c (fun b o e => hk' _ _ (fun q => by rw [q, gi] at e; cases e) (kg _ _ e)) (hk' _ _ hSi hS))
  | succ k ih =>
    intro j s c hk hj kg M hS hR
    have hlt : j < vs.length := by exact om69 hk
    obtain ⟨x, t, hx⟩ := hvs vs[j] (List.getElem_mem hlt)
    have hx' : vs[j]? = some (.str x t) := by rw [List.getElem?_eq_getElem hlt, hx]
    refine codeAny_builtin F.entry_extend_loop ?_
    rw [Around.under_plainId F.plain_extend_loop _]
    show wpAny _ A.in1 (pyNext (.ref z) >>= _) _ _ s
    refine wpAny_bind (map_pyNext_item G kg hle M (hl.at fun o e => kg _ _ e) hx' gi hz ht fun h' tk' hk' M' => ?_)
    have hS' : h'.get? S = some (lobj (vs.take j) c) := hk' _ _ hSi hS
    show wpAny _ A.in1 (updateSeq S (·.push (.str x t)) >>= _) _ _ _
    refine wpAny_bind ?_
    have q := IsL.update (h := h') (l := S) (items := (vs.take j).toArray) (n := c) hS' (·.push (.str x t))
    obtain ⟨c', q'⟩ : ∃ c', (h'.update S (Obj.mapSeq (·.push (.str x t)))).get? S = some (lobj (vs.take (j + 1)) c') := ⟨_, by
      rw [take_succ' hx']
      rw [q]; simp [lobj]; rfl⟩
    have oth : ∀ b o, b ≠ S → h'.get? b = some o → (h'.update S (Obj.mapSeq (·.push (.str x t)))).get? b = some o := fun b o hb e => (Heap.get?_update_other _ _ (Ne.symm hb)).trans e
    refine wpAny_updateSeq hS' rfl (wpAny_pure ⟨plainId_quiet F.plain_extend_loop _, ih (j + 1) _ c' (by exact om70 hk) hlt ?_ (M'.keep fun b o e hb => oth b o ?_ e) q' hR⟩) (by rw [List.size_toArray, List.length_take, sizeLine_eq]; exact om346 hn) (by show ((vs.take j).toArray.push _).size ≤ _; rw [Array.size_push, List.size_toArray, List.length_take, sizeLine_eq]; exact om347 hn)
    · exact fun b o e => oth b o (fun q => by rw [q, gS] at e; cases e) (hk' _ _ (fun q => by rw [q, gi] at e; cases e) (kg _ _ e))
    · rcases hb with rfl | rfl | rfl
      · exact hSz.symm
      · exact hSt.symm
      · exact hSi.symm
theorem map_collect {s : Shared} {Q : List Value → Shared → Prop} (G : Gd w g) (kg : Kp g s.heap) (r : Rm A 4) (hl : g.IsList l vs.toArray) (hvs : ∀ v ∈ vs, ∃ x t, v = Value.str x t) (hn : vs.length ≤ 1000) (M : MapAt s.heap z TI i l (.ref 94) 0) (gi : g.get? i = none) (hz : z ≠ i) (ht : TI ≠ i)
    (hQ : ∀ h' tk', Kp g h' → Q vs { s with heap := h', toks := tk' }) : wpAny (model P0 w) A (collect (.ref z)) Q E s := by
  have lz : z < s.heap.objs.size := Heap.lt_size M.z
  have lt : TI < s.heap.objs.size := Heap.lt_size M.t
  have li : i < s.heap.objs.size := by obtain ⟨o, ho, _⟩ := M.i; exact Heap.lt_size ho
  have gS : g.get? s.heap.objs.size = none := by
    cases q : g.get? s.heap.objs.size with
    | none => rfl
    | some o => exact absurd (Heap.lt_size (kg _ _ q)) (Nat.lt_irrefl _)
  have hSI : s.heap.objs.size ≠ z := Nat.ne_of_gt lz
  unfold collect
  refine wpAny_bind (wpAny_runValue (codeAny_builtin F.entry_proto_collect ?_))
  rw [Around.under_plainId F.plain_proto_collect _]
  show wpAny _ A.in1 (newList [] >>= fun l => again (.builtin "list.__iadd__" ⟨[l, .ref z], []⟩)) _ _ s
  refine wpAny_bind (wpAny_newObj_type ?_)
  refine wpAny_pure ⟨plainId_quiet F.plain_list_iadd _, codeAny_builtin F.entry_list_iadd ?_⟩
  rw [Around.under_plainId F.plain_list_iadd _]
  have M₁ : MapAt (s.heap.push { cls := .type "list", data := .seq ([] : List Value).toArray }) z TI i l (.ref 94) 0 := M.keep fun b o e _ => Heap.get?_push_of_some _ e
  have hT : ({ s with heap := s.heap.push { cls := .type "list", data := .seq ([] : List Value).toArray } } : Shared).TypeIs (.ref z) "map" := ⟨_, M₁.z, rfl⟩
  show wpAny _ A.in1 (Builtin.List.listExtendWith (.ref s.heap.objs.size) (.ref z) (.ref s.heap.objs.size)) _ _ _
  unfold Builtin.List.listExtendWith
  refine wpAny_bind (wpAny_typeOf hT ?_)
  have h1 : Builtin.List.listSameRef (.ref s.heap.objs.size) (.ref z) = false := by simp [Builtin.List.listSameRef, hSI]
  have h2 : (Value.type "map" == Value.type "list") = false := by decide
  have h3 : (Value.type "map" == Value.type "tuple") = false := by decide
  simp only [h1, h2, h3, Bool.or_false, Bool.false_eq_true, if_false]
  refine wpAny_bind (map_pyIter M₁ ?_)
  refine wpAny_bind (wpAny_holding ?_)
  unfold Builtin.List.listLengthHint
  refine wpAny_bind (wpAny_specialOf hT MapF.no_len ?_)
  show wpAny _ A.in1 (specialOf (Value.ref z) (Str.ofString "__length_hint__") >>= _) _ _ _
  refine wpAny_bind (wpAny_specialOf hT MapF.no_hint ?_)
  refine wpAny_pure ?_
  show wpAny _ A.in1 (rule "list.extend.makes-room" >>= fun _ => Builtin.List.listTouch (.ref s.heap.objs.size) >>= fun _ =>
    again (.builtin "list.extend.loop" ⟨[.ref s.heap.objs.size, .ref z, .ref s.heap.objs.size], []⟩)) _ _ _
  refine wpAny_bind (wpAny_rule ?_)
  have hS₁ : (s.heap.push { cls := .type "list", data := .seq ([] : List Value).toArray }).get? s.heap.objs.size = some { cls := .type "list", data := .seq ([] : List Value).toArray } := Heap.get?_push_size _ rfl
  refine wpAny_bind ?_
  show wpAny _ A.in1 (updateSeq s.heap.objs.size (·.push .none) >>= fun _ => updateSeq s.heap.objs.size (·.pop)) _ _ _
  refine wpAny_bind (wpAny_updateSeq hS₁ rfl ?_)
  have hS₂ := Heap.get?_update_self (Obj.mapSeq (·.push Value.none)) hS₁ rfl
  refine wpAny_updateSeq hS₂ rfl ?_
  have hS₃ := Heap.get?_update_self (Obj.mapSeq (·.pop)) hS₂ rfl
  have oth : ∀ b o, b ≠ s.heap.objs.size → (s.heap.push { cls := .type "list", data := .seq ([] : List Value).toArray }).get? b = some o →
      (((s.heap.push { cls := .type "list", data := .seq ([] : List Value).toArray }).update s.heap.objs.size (Obj.mapSeq (·.push Value.none))).update s.heap.objs.size (Obj.mapSeq (·.pop))).get? b = some o :=
    fun b o hb e => (Heap.get?_update_other _ _ (Ne.symm hb)).trans ((Heap.get?_update_other _ _ (Ne.symm hb)).trans e)
  have r1 : Rm A 3 := r.less (by exact om135)
  refine wpAny_pure ⟨plainId_quiet F.plain_extend_loop _, map_extend G r1 hl hvs hn gi gS hz ht hSI (Nat.ne_of_gt lt) (Nat.ne_of_gt li) _ vs.length 0 _ _ rfl (Nat.zero_le _) ?_ (M₁.keep fun b o e hb => oth b o ?_ e) hS₃ fun h' tk' c' kg' hS' => ?_⟩
  · exact fun b o e => oth b o (fun q => by rw [q, gS] at e; cases e) (Heap.get?_push_of_some _ (kg _ _ e))
  · rcases hb with rfl | rfl | rfl
    · exact hSI.symm
    · exact Nat.ne_of_lt lt
    · exact Nat.ne_of_lt li
  · show wpAny _ A (load s.heap.objs.size >>= _) _ _ _
    refine wpAny_bind (wpAny_load hS' ?_)
    refine wpAny_pure ?_
    simpa using hQ h' tk' kg'
end
theorem Rm.in1 {A : Around} {n : Nat} (r : Rm A (n + 1)) : Rm A.in1 n :=
  ⟨by have := r.depth; show A.depth + n < _; exact om348 this, by have := r.units; show A.units + 1 + 8 * n < _; exact om349 this, r.hand⟩
theorem tuple_new_map {w : World} {A : Around} {s : Shared} {E : Value → Shared → Prop} {g : Heap} {z TI i l : Addr} {vs : List Value} {Q₁ : Value → Shared → Prop} (G : Gd w g) (kg : Kp g s.heap) (r : Rm A 6) (hl : g.IsList l vs.toArray) (hvs : ∀ v ∈ vs, ∃ x t, v = Value.str x t) (hn : vs.length ≤ 1000) (M : MapAt s.heap z TI i l (.ref 94) 0) (gi : g.get? i = none) (hz : z ≠ i) (ht : TI ≠ i)
    (h : ∀ h' tk', Kp g h' → Q₁ (.ref h'.objs.size) { s with heap := h'.push (tobj vs), toks := tk' }) :
    codeAny (model P0 w) A (.call (.builtin "tuple.__new__") ⟨[.type "tuple", .ref z], []⟩) (wants Q₁ E) s := by
  refine codeAny_of_tree ?_
  show wpAny _ A.in1 (do checkBuiltinCall "tuple.__new__" ⟨[.type "tuple", .ref z], []⟩; again (.builtin "tuple.__new__" ⟨[.type "tuple", .ref z], []⟩)) _ _ s
  refine wpAny_bind (wpAny_of_eq (F.newCall_tuple_1 _) (wpAny_pure ⟨plainId_quiet F.plain_tuple_new _, codeAny_builtin F.entry_tuple_new ?_⟩))
  rw [Around.under_plainId F.plain_tuple_new _]
  have hsub := sub_tuple_self
  have hinit := init_tuple_lookup
  have hmh := madeHere_tuple
  have hTI : s.TypeIs (.ref z) "map" := ⟨_, M.z, rfl⟩
  have r1 : Rm A.in1 4 := (r.less (k := 5) (by exact om350)).in1
  wp_walk using wpAny_typeOf hTI, map_collect G kg r1 hl hvs hn M gi hz ht
  intro h' tk' kg'
  show wpAny _ _ (Builtin.Tuple.tupleExact vs.toArray >>= fun v => ret v) _ _ _
  unfold Builtin.Tuple.tupleExact
  refine wpAny_bind (wpAny_newObj_type ?_ (by show vs.toArray.size ≤ sizeLine; rw [List.size_toArray, sizeLine_eq]; exact om65 hn))
  exact wpAny_pure (h h' tk' kg')
theorem callTupleMap {w : World} {A : Around} {s : Shared} {Q E : Value → Shared → Prop} {g : Heap} {z TI i l : Addr} {vs : List Value} (G : Gd w g) (kg : Kp g s.heap) (r : Rm A 7) (hl : g.IsList l vs.toArray) (hvs : ∀ v ∈ vs, ∃ x t, v = Value.str x t) (hn : vs.length ≤ 1000) (M : MapAt s.heap z TI i l (.ref 94) 0) (gi : g.get? i = none) (hz : z ≠ i) (ht : TI ≠ i)
    (h : ∀ T h' tk', Kp g h' → h'.get? T = some (tobj vs) → g.get? T = none → Q (.ref T) { s with heap := h', toks := tk' }) :
    wpAny (model P0 w) A (call (.type "tuple") [.ref z]) Q E s := by
  refine callType_codes (Q₁ := fun obj s₁ => s₁.TypeIs obj "tuple" ∧ Q obj s₁) F.called_tuple (F.typeCall_tuple_1 _) F.entry_object_init
    (tuple_new_map G kg r.in1 hl hvs hn M gi hz ht fun h' tk' kg' => ⟨⟨_, Heap.get?_push_size _ rfl, rfl⟩, h _ _ _ (fun b o e => Heap.get?_push_of_some _ (kg' _ _ e)) (Heap.get?_push_size _ rfl) ?_⟩) fun obj s₁ h₁ => ?_
  · cases q : g.get? h'.objs.size with
    | none => rfl
    | some o => exact absurd (Heap.lt_size (kg' _ _ q)) (Nat.lt_irrefl _)
  · exact ⟨h₁.1, F.args_object_init_2 obj _, object_init_meets F.called_tuple.init.lookup F.called_tuple.made (by decide) _ w A.in1 _ s₁ ⟨h₁.1, rfl, h₁.2⟩⟩
theorem St.plus {B g h' : Heap} {L T : Addr} {m : Str → Option Value} {O : Led} {o : Obj} (S : St B L g m O) (k : Kp g h') (hT : h'.get? T = some o) (hn : g.get? T = none) : St B L h' m ((T, o) :: O) := by
  have S' := S.keep k
  obtain ⟨oL, es, ep, hL, rr⟩ := S.ns
  refine ⟨S'.ns, S'.kp, S'.off, fun p hp => ?_, ?_⟩
  · rcases List.mem_cons.mp hp with rfl | hp
    · refine ⟨hT, fun q => ?_, ?_⟩
      · rw [show T = L from q, hL] at hn; cases hn
      · cases q : B.get? T with
        | none => rfl
        | some o => have := S.kp _ _ q; rw [hn] at this; cases this
    · exact S'.nw p hp
  · rw [List.map_cons, List.nodup_cons]
    refine ⟨fun q => ?_, S.nd⟩
    obtain ⟨p, hp, e⟩ := List.mem_map.mp q
    have := (S.nw p hp).1
    rw [e, hn] at this; cases this
noncomputable def byTx (w : World) : Bool := w.params.followText "set-order"
noncomputable abbrev setO (es : Array (Int × Value)) (ep : Nat) (t : SetTable) : Obj := { cls := .type "set", dict := none, data := .set es ep t }
noncomputable def oneT (led : Bool) : SetTable := (layNew (.fresh 0 0 led) #[] 1 (.bool true)).2.1
theorem lay_one (led : Bool) : layNew (.fresh 0 0 led) #[] 1 (.bool true) = (#[(1, .bool true)], oneT led, false, false) := by cases led <;> rfl
theorem oneT_fits (led : Bool) : (oneT led).fits 1 = true := by cases led <;> rfl
theorem oneT_plain (led : Bool) : (oneT led).plain = true := by cases led <;> rfl
theorem oneT_led (led : Bool) : (oneT led).led = led := by cases led <;> rfl
theorem oneT_full (led : Bool) : (oneT led).tooFull = false := by cases led <;> rfl
theorem oneT_place (led : Bool) : (oneT led).place = #[1] := by cases led <;> rfl
noncomputable abbrev oneO (led : Bool) : Obj := setO #[(1, .bool true)] 1 (oneT led)
section
variable {w : World} {A : Around} {s : Shared} {E : Value → Shared → Prop} {B : Heap} {L a : Addr} {m : Str → Option Value} {O O₁ O₂ : Led}
theorem newS {Q : Value → Shared → Prop} (S : St B L s.heap m O) (h : ∀ a h', St B L h' m ((a, setO #[] 0 (.fresh 0 0 (!byTx w))) :: O) → Q (.ref a) { s with heap := h' }) : wpAny (model P0 w) A (newSet (.type "set")) Q E s := by
  unfold newSet setsByText
  refine wpAny_bind (wpAny_bind (wpAny_askSetting (wpAny_pure ?_)))
  dsimp only
  simp only [newObj]
  exact wpAny_bind (wpAny_alloc (wpAny_pure (h _ _ (S.push _ rfl))))
theorem hashT {Q : Int → Shared → Prop} (h : ∀ tk, Q 1 { s with toks := tk }) : wpAny (model P0 w) A (pyHash (.bool true)) Q E s := by
  have hT : s.TypeIs (.bool true) "bool" := rfl
  unfold pyHash
  have hv : [Value.bool true].any Value.onHeap = false := rfl
  refine wpAny_bind ?_
  rw [cRoomFor, if_neg (by rw [hv]; exact Bool.false_ne_true)]; refine wpAny_pure ?_
  refine wpAny_bind (wpAny_specialOf hT F.slot_bool_hash.lookup ?_)
  show wpAny _ _ (if (some (Value.builtin "int.__hash__") == some Value.none) = true then _ else _) Q E s
  rw [if_neg (by rw [beq_builtin_none]; exact Bool.false_ne_true)]
  refine wpAny_bind (wpAny_specialOf hT F.slot_bool_hash.lookup ?_)
  show wpAny _ _ (callSpecialIfBoundUnlessNone? (.bool true) "__hash__" _ >>= _) Q E s
  refine wpAny_bind (wpAny_callSpecialIfBoundUnlessNone?_slot hT F.slot_bool_hash
    (wpAny_call_entry F.slot_bool_hash hT entry_int_hash
      (show wpAny _ _ (do ret (← mkInt 1)) _ _ s from wpAny_ret_mkInt ?_) (args_int_hash _)))
  show wpAny _ _ (if _ then _ else _) Q E _
  rw [if_pos (by decide)]
  exact wpAny_pure (h _)
theorem addS0 {Q : Value → Shared → Prop} {led : Bool} (S : St B L s.heap m (O₁ ++ (a, setO #[] 0 (.fresh 0 0 led)) :: O₂))
    (h : ∀ h' tk', St B L h' m (O₁ ++ (a, oneO led) :: O₂) → Q .none { s with heap := h', toks := tk' }) : wpAny (model P0 w) A (call (.builtin "set.add") [.ref a, .bool true]) Q E s := by
  have ho := (S.nw (a, setO #[] 0 (.fresh 0 0 led)) (by simp)).1
  have hT : s.TypeIs (.ref a) "set" := ⟨_, ho, rfl⟩
  refine wpAny_call_entry F.slot_set_add hT F.entry_set_add ?_ (F.args_set_add_2 _ _)
  unfold Builtin.«set.add» Builtin.Frozenset.oneOther
  simp only [List.isEmpty_nil, bind_assoc]
  unfold Builtin.Frozenset.addrOf setAdd
  refine wpAny_bind (wpAny_pure ?_)
  try dsimp only
  refine wpAny_bind (wpAny_pure ?_)
  try dsimp only
  refine wpAny_bind ?_
  refine wpAny_holding ?_
  refine wpAny_bind (hashT fun tk => ?_)
  unfold setAddHashed setAddHashedIn
  refine wpAny_holding (wpAny_bind (wpAny_setState_of ho rfl (by cases led <;> rfl) ?_))
  dsimp only
  rw [show byScan (.bool true) #[] = true from by decide +kernel]
  simp only [↓reduceIte]
  unfold setAddByScan
  refine wpAny_bind ?_
  refine wpAny_bind (wpAny_rule ?_)
  refine wpAny_bind (wpAny_pure ?_)
  rw [lay_one]
  dsimp only
  refine wpAny_bind (wpAny_pure ?_)
  rw [oneT_plain]
  simp only [↓reduceIte]
  refine wpAny_bind (wpAny_pure ?_)
  simp only [↓reduceIte]
  refine wpAny_bind (wpAny_storeSet_of ho rfl ?_ (hz := by decide))
  rw [oneT_full]
  simp only [Bool.not_false, Bool.and_false, Bool.false_eq_true, ↓reduceIte]
  refine wpAny_pure (wpAny_pure ?_)
  show wpAny _ _ (ret Value.none) _ _ _
  refine wpAny_pure ⟨_, rfl, h _ _ (S.sameBut (Heap.SameBut.update ..) ?_)⟩
  rw [Heap.get?_update_self _ ho (by rw [putSet_of _ _ rfl]; rfl), putSet_of _ _ rfl]
theorem eqT {Q : Bool → Shared → Prop} (h : Q true s) : wpAny (model P0 w) A (eqBool (.bool true) (.bool true)) Q E s := by
  unfold eqBool
  refine wpAny_holding ?_
  rw [if_pos (by decide)]
  first
    | exact wpAny_bind (wpAny_rule (wpAny_pure h))
    | exact wpAny_bind (wpAny_bind (wpAny_rule (wpAny_pure (wpAny_pure h))))
theorem addS1 {Q : Value → Shared → Prop} {led : Bool} (S : St B L s.heap m (O₁ ++ (a, oneO led) :: O₂))
    (h : ∀ tk', Q .none { s with toks := tk' }) : wpAny (model P0 w) A (call (.builtin "set.add") [.ref a, .bool true]) Q E s := by
  have ho := (S.nw (a, oneO led) (by simp)).1
  have hT : s.TypeIs (.ref a) "set" := ⟨_, ho, rfl⟩
  refine wpAny_call_entry F.slot_set_add hT F.entry_set_add ?_ (F.args_set_add_2 _ _)
  unfold Builtin.«set.add» Builtin.Frozenset.oneOther
  simp only [List.isEmpty_nil, bind_assoc]
  unfold Builtin.Frozenset.addrOf setAdd
  refine wpAny_bind (wpAny_pure ?_)
  try dsimp only
  refine wpAny_bind (wpAny_pure ?_)
  try dsimp only
  refine wpAny_bind ?_
  refine wpAny_holding ?_
  refine wpAny_bind (hashT fun tk => ?_)
  unfold setAddHashed setAddHashedIn
  refine wpAny_holding (wpAny_bind (wpAny_setState_of ho rfl (oneT_fits led) ?_))
  dsimp only
  rw [show byScan (.bool true) #[(1, .bool true)] = true from by decide +kernel]
  simp only [↓reduceIte]
  unfold setAddByScan
  refine wpAny_bind ?_
  refine wpAny_bind (wpAny_rule ?_)
  refine wpAny_bind ?_
  show wpAny _ _ (setScanFrom a (.bool true) 1 true [(1, .bool true)] 0) _ _ _
  unfold setScanFrom
  rw [if_pos (by decide)]
  refine wpAny_bind (wpAny_setEpoch_of ho rfl (oneT_fits led) ?_)
  refine wpAny_bind (eqT ?_)
  rw [if_pos rfl]
  refine wpAny_pure ?_
  dsimp only
  refine wpAny_pure (wpAny_pure ?_)
  show wpAny _ _ (ret Value.none) _ _ _
  exact wpAny_pure ⟨_, rfl, h _⟩
end
namespace SetF
theorem entry_iter : entryFor table "set.__iter__" = some Builtin.«frozenset.__iter__» :=
  entryFor_alias (id' := "frozenset.__iter__") (by kernel_rfl) rfl (by decide +kernel) (by kernel_rfl)
theorem owner_si : Manifest.owners.lookup (String.ofList ['r', 'o', 't', 'a', 'r', 'e', 't', 'i', '_', 't', 'e', 's'].reverse) = some Manifest.sig_set_iterator := by kernel_rfl
theorem slot_next : Slot "set_iterator" "__next__" "set_iterator.__next__" :=
  .of (owner := "set_iterator") (n := "__next__") (by rw [typeLookup_type, builtinLookup_eq_fast]; kernel_rfl) (by decide +kernel) (by decide +kernel) (by decide +kernel)
    (by first | exact .inl (by decide +kernel) | exact .inr (by decide +kernel)) (by rw [isSubtype_type]; kernel_rfl)
theorem entry_next : entryFor table "set_iterator.__next__" = some Builtin.«set_iterator.__next__» := entryFor_of_tree (by kernel_rfl)
theorem args_next (a : Value) : argsOk "set_iterator.__next__" ⟨[a], []⟩ := by
  unfold argsOk; rw [signature?_of (id := "set_iterator.__next__") (n := ['_', '_', 't', 'x', 'e', 'n', '_', '_']) (o := ['r', 'o', 't', 'a', 'r', 'e', 't', 'i', '_', 't', 'e', 's']) (by kernel_rfl) owner_si]; kernel_rfl
end SetF
noncomputable abbrev siO (f i : Int) (a : Value) : Obj := { cls := .type "set_iterator", data := .fields #[.int f 0, .int i 0, a, .int 1 0, .int 1 0] }
section
variable {w : World} {A : Around} {s : Shared} {E : Value → Shared → Prop} {a : Addr}
theorem set_pyIter {Q : Value → Shared → Prop} (ho : s.heap.get? a = some (oneO (!byTx w)))
    (h : Q (.ref s.heap.objs.size) { s with heap := s.heap.push (siO 0 0 (.ref a)) }) : wpAny (model P0 w) A (pyIter (.ref a)) Q E s := by
  have hT : s.TypeIs (.ref a) "set" := ⟨_, ho, rfl⟩
  refine wpAny_pyIter_slot hT F.slot_set_iter (wpAny_call_entry F.slot_set_iter hT SetF.entry_iter ?_ (F.args_set_iter_1 _))
  show wpAny _ _ (Builtin.Frozenset.sizeOf a >>= _) _ _ s
  refine wpAny_bind ?_
  unfold Builtin.Frozenset.sizeOf
  refine wpAny_bind (wpAny_setEntries_of ho rfl (oneT_fits _) (wpAny_pure ?_))
  refine wpAny_bind ?_
  unfold setDrawn
  refine wpAny_bind (wpAny_setState_of ho rfl (oneT_fits _) ?_)
  unfold setsByText
  refine wpAny_bind (wpAny_bind (wpAny_askSetting (wpAny_pure ?_)))
  refine wpAny_pure ?_
  rw [if_neg (by
    rw [Bool.and_eq_true]
    rintro ⟨_, q⟩
    cases hb : byTx w with
    | false => rw [hb] at q; exact absurd q (by decide +kernel)
    | true => rw [hb] at q; exact absurd q (by decide +kernel))]
  refine wpAny_bind (wpAny_pure ?_)
  refine wpAny_bind (wpAny_setEpoch_of ho rfl (oneT_fits _) ?_)
  refine wpAny_bind (wpAny_newObj_type (wpAny_pure ⟨_, rfl, "set_iterator", _, ⟨_, Heap.get?_push_size _ rfl, rfl⟩, SetF.slot_next.lookup, h⟩))
theorem pick_one {α : Type} (f : Nat → Nat) (x : α) : pickOrder f #[x] = #[x] := by
  unfold pickOrder
  show pickOrder.go f 1 0 [x] #[] = _
  unfold pickOrder.go
  simp [Nat.mod_one, pickOrder.go]
theorem setNext_first {Q : Option (Value × Nat) → Shared → Prop} (ho : s.heap.get? a = some (oneO (!byTx w))) (h : Q (some (.bool true, if byTx w then 0 else 2)) s) : wpAny (model P0 w) A (setNext a 0 0 1) Q E s := by
  unfold setNext
  refine wpAny_bind (wpAny_setState_of ho rfl (oneT_fits _) ?_)
  unfold setsByText
  refine wpAny_bind (wpAny_bind (wpAny_askSetting (wpAny_pure ?_)))
  show wpAny _ _ (if byTx w = true then _ else _) _ _ _
  cases hb : byTx w with
  | true =>
    rw [hb, if_pos rfl] at h
    rw [if_pos rfl]
    simp only [bne_self_eq_false, Bool.false_eq_true, ↓reduceIte]
    refine wpAny_bind ?_
    unfold setWalk
    rw [hb] at ho
    refine wpAny_bind (wpAny_setState_of ho rfl (oneT_fits _) ?_)
    unfold setsByText
    refine wpAny_bind (wpAny_bind (wpAny_askSetting (wpAny_pure ?_)))
    show wpAny _ _ (if byTx w = true then _ else _) _ _ _
    rw [if_pos hb]
    refine wpAny_bind (wpAny_askSetting (wpAny_pure ?_))
    rw [pick_one]
    exact wpAny_pure h
  | false =>
    rw [hb, if_neg Bool.false_ne_true] at h
    rw [if_neg Bool.false_ne_true]
    exact wpAny_of_eq (a := some (.bool true, 2)) (by kernel_rfl) h
theorem setNext_end {Q : Option (Value × Nat) → Shared → Prop} (ho : s.heap.get? a = some (oneO (!byTx w))) (h : Q none s) : wpAny (model P0 w) A (setNext a (if byTx w then 0 else 2) 1 1) Q E s := by
  unfold setNext
  refine wpAny_bind (wpAny_setState_of ho rfl (oneT_fits _) ?_)
  unfold setsByText
  refine wpAny_bind (wpAny_bind (wpAny_askSetting (wpAny_pure ?_)))
  show wpAny _ _ (if byTx w = true then _ else _) _ _ _
  cases hb : byTx w with
  | true =>
    rw [if_pos rfl]
    simp only [bne_self_eq_false, Bool.false_eq_true, ↓reduceIte]
    refine wpAny_bind ?_
    unfold setWalk
    rw [hb] at ho
    refine wpAny_bind (wpAny_setState_of ho rfl (oneT_fits _) ?_)
    unfold setsByText
    refine wpAny_bind (wpAny_bind (wpAny_askSetting (wpAny_pure ?_)))
    show wpAny _ _ (if byTx w = true then _ else _) _ _ _
    rw [if_pos hb]
    refine wpAny_bind (wpAny_askSetting (wpAny_pure ?_))
    rw [pick_one]
    exact wpAny_pure h
  | false =>
    rw [if_neg Bool.false_ne_true]
    exact wpAny_of_eq (a := none) (by kernel_rfl) h
theorem set_next0 {Q : Option Value → Shared → Prop} {I : Addr} (ho : s.heap.get? a = some (oneO (!byTx w))) (hI : s.heap.get? I = some (siO 0 0 (.ref a))) (hne : a ≠ I)
    (h : ∀ h', h'.get? I = some (siO (if byTx w then 0 else 2) 1 (.ref a)) → Heap.SameBut I s.heap h' → Q (some (.bool true)) { s with heap := h' }) : wpAny (model P0 w) A (pyNext (.ref I)) Q E s := by
  have hT : s.TypeIs (.ref I) "set_iterator" := ⟨_, hI, rfl⟩
  unfold pyNext
  refine wpAny_bind (wpAny_attempt (wpAny_callSpecial?_slot (name := Str.ofString "__next__") hT SetF.slot_next
    (wpAny_call_entry SetF.slot_next hT SetF.entry_next ?_ (SetF.args_next _))))
  show wpAny _ _ (fieldsOf (.ref I) >>= _) _ _ _
  refine wpAny_bind (wpAny_fieldsOf hI rfl ?_)
  dsimp only
  refine wpAny_bind (wpAny_setEntries_of ho rfl (oneT_fits _) ?_)
  rw [if_neg (by decide)]
  refine wpAny_bind (setNext_first ho ?_)
  dsimp only
  refine wpAny_bind (wpAny_setField_rec hI (by simp) fun h₁ hI₁ hs₁ => ?_)
  refine wpAny_bind (wpAny_setField_rec hI₁ (by simp) fun h₂ hI₂ hs₂ => ?_)
  refine wpAny_pure ⟨_, rfl, wpAny_pure (h h₂ ?_ (hs₁.trans hs₂))⟩
  rw [hI₂]
  cases byTx w <;> rfl
theorem set_next1 {Q : Option Value → Shared → Prop} {I : Addr} (hh : A.handled = none) (ho : s.heap.get? a = some (oneO (!byTx w))) (hI : s.heap.get? I = some (siO (if byTx w then 0 else 2) 1 (.ref a))) (hne : a ≠ I)
    (h : ∀ h', Heap.ExtBut I s.heap h' → Q none { s with heap := h' }) : wpAny (model P0 w) A (pyNext (.ref I)) Q E s := by
  have hT : s.TypeIs (.ref I) "set_iterator" := ⟨_, hI, rfl⟩
  unfold pyNext
  refine wpAny_bind (wpAny_attempt (wpAny_callSpecial?_slot (name := Str.ofString "__next__") hT SetF.slot_next
    (wpAny_call_entry SetF.slot_next hT SetF.entry_next ?_ (SetF.args_next _))))
  show wpAny _ _ (fieldsOf (.ref I) >>= _) _ _ _
  refine wpAny_bind (wpAny_fieldsOf hI rfl ?_)
  dsimp only
  refine wpAny_bind (wpAny_setEntries_of ho rfl (oneT_fits _) ?_)
  rw [if_neg (by decide)]
  have e : (if byTx w then (0 : Int) else 2).toNat = (if byTx w then 0 else 2) := by cases byTx w <;> rfl
  rw [e]
  refine wpAny_bind (setNext_end ho ?_)
  dsimp only
  refine wpAny_bind (wpAny_setField_rec hI (by simp) fun h₁ hI₁ hs₁ => ?_)
  show wpAny _ _ (newExc (.type "StopIteration") [] >>= _) _ _ _
  refine wpAny_bind ?_
  simp only [newExc, newTuple]
  refine wpAny_bind (wpAny_newObj_type ?_ (by size_fits))
  refine wpAny_bind (m := firstArgMember _ _) (wpAny_of_eq (a := Value.none) (by first | rfl | (simp only [firstArgMember]; rfl)) ?_)
  refine wpAny_newObj_type ?_ (by size_fits)
  simp only [raiseNew]
  refine wpAny_bind (wpAny_handled ?_)
  rw [show A.in1.handled = none from hh]
  refine wpAny_bind (wpAny_pure (wpAny_throw ?_))
  refine wpAny_bind (wpAny_isInstance (T := "StopIteration") (b := true) ⟨_, Heap.get?_push_size _ rfl, rfl⟩ isSubtype_stop ?_)
  exact wpAny_pure (h _ ((hs₁.extBut.push _).push _))
end
theorem unpackOne {w : World} {A : Around} {s : Shared} {E : Value → Shared → Prop} {B : Heap} {L a : Addr} {m : Str → Option Value} {O : Led} {env : Env} {x : Str} {px pos : Pos} {k} {Q : Unit → Shared → Prop} (hh : A.handled = none) (S : St B L s.heap m O) (hm : (a, oneO (!byTx w)) ∈ O)
    (hL : env.locals = L) (hk : env.scope.kind = .function) (hx : env.kindOf x = some .local)
    (h : ∀ h' tk', St B L h' (fun y => if y = x then some (.bool true) else m y) O → Q () { s with heap := h', toks := tk' }) :
    wpAny (model P0 w) A (assign (.Tuple [.Name x px] k pos) env (.ref a)) Q E s := by
  have ho := S.get hm
  have hT : s.TypeIs (.ref a) "set" := ⟨_, ho, rfl⟩
  have hne : a ≠ s.heap.objs.size := Nat.ne_of_lt (Heap.lt_size ho)
  rw [arm_assign_Tuple]
  refine wpAny_bind (wpAny_standAt ?_)
  unfold unpack
  refine wpAny_bind (wpAny_holding ?_)
  show wpAny _ _ (unpackItems (.ref a) 1 none) _ _ _
  unfold unpackItems
  refine wpAny_bind ?_
  unfold notIterableAtAll
  refine wpAny_bind (wpAny_specialOf hT F.slot_set_iter.lookup ?_)
  refine wpAny_pure ?_
  simp only [Bool.false_eq_true, if_false]
  refine wpAny_bind (wpAny_holding (set_pyIter ho ?_))
  refine wpAny_bind (wpAny_holding ?_)
  have ho₁ : (s.heap.push (siO 0 0 (.ref a))).get? a = some (oneO (!byTx w)) := Heap.get?_push_of_some _ ho
  have S₁ : St B L (s.heap.push (siO 0 0 (.ref a))) m O := S.keep fun b o e => Heap.get?_push_of_some _ e
  show wpAny _ _ (pyNext (.ref s.heap.objs.size) >>= _) _ _ _
  refine wpAny_bind (set_next0 ho₁ (Heap.get?_push_size _ rfl) hne fun h₂ hI₂ hs₂ => ?_)
  have k₂ : Kp s.heap h₂ := fun b o e => hs₂.extBut _ _ (Nat.ne_of_lt (Heap.lt_size e)) (Heap.get?_push_of_some _ e)
  refine wpAny_bind (wpAny_holding (wpAny_pure (wpAny_pure ?_)))
  rw [if_neg (by simp)]
  refine wpAny_bind (wpAny_holding (set_next1 hh (k₂ _ _ ho) hI₂ hne fun h₃ hs₃ => ?_))
  simp only [Option.isSome_none, Bool.false_eq_true, if_false]
  have k₃ : Kp s.heap h₃ := fun b o e => hs₃ _ _ (Nat.ne_of_lt (Heap.lt_size e)) (k₂ _ _ e)
  refine wpAny_pure ?_
  show wpAny _ _ (holding [] (assign (.Name x px) env (.bool true)) >>= fun _ => pure ()) _ _ _
  refine wpAny_bind (wpAny_holding (wpAny_assign_Name ?_))
  exact stL (S.keep k₃) hL hk hx fun h' S' => wpAny_pure (h h' _ S')
noncomputable def CmpG (w : World) (A : Around) (g : Heap) (op : CmpOp) (items : Array Value) (bt : Nat → Nat → Bool) : Prop :=
  ∀ i j vi vj (s : Shared) (Q : Value → Shared → Prop) (E : Value → Shared → Prop), Kp g s.heap → items[i]? = some vi → items[j]? = some vj → Q (.bool (bt i j)) s → wpAny (model P0 w) A (richCompare op vi vj) Q E s

section
variable {w : World} {A : Around} {R : Result → Shared → Prop} {I l : Addr} {items : Array Value} {g : Heap}
theorem max_loop (hh : A.handled = none) (hl : g.IsList l items) (bt : Nat → Nat → Bool) (hcmp : CmpG w A.in1 g .Gt items bt) (S : Addr) (gI : g.get? I = none) (gS : g.get? S = none) (hIS : I ≠ S) :
    ∀ (k j : Nat) (s : Shared) (vb : Value) (c : Nat), items.size - (j + 1) = k → j + 1 ≤ items.size → Kp g s.heap → s.heap.IsListIter I l (j + 1) → items[argBest bt j]? = some vb →
    s.heap.get? S = some { cls := .type "list", dict := none, data := .seq #[vb, vb] c, slots := #[] } →
    (∀ v h' tk, items[argBest bt (items.size - 1)]? = some v → Kp g h' → R (.ok (.ret v)) { s with heap := h', toks := tk }) →
    codeAny (model P0 w) A (.builtin "max.loop" ⟨[.ref I, .none, .ref S], []⟩) R s := by
  have hname : (toString "max" ++ toString ".loop" : String) = "max.loop" := by decide
  intro k
  induction k with
  | zero =>
    intro j s vb c hk hj kg hit hPb hS hR
    have hin : j + 1 = items.size := by exact om136 hj hk
    refine codeAny_builtin F.entry_max_loop ?_
    rw [Around.under_plainId F.plain_max_loop _]
    show wpAny _ A.in1 (seqItems? (.ref S) >>= _) _ _ s
    refine wpAny_bind (wpAny_seqItems hS rfl ?_)
    show wpAny _ A.in1 (tryCatch (pyNext (.ref I)) _ >>= _) _ _ s
    refine wpAny_bind (wpAny_tryCatch (wpAny_pyNext_list_end hh hit (hl.at fun o e => kg _ _ e) (by simp [hin]) fun h' hk' => ?_))
    have hS' := hk' S _ hIS.symm hS
    show wpAny _ A.in1 (updateSeq S (fun _ => #[]) >>= _) _ _ _
    refine wpAny_bind ?_
    refine wpAny_updateSeq hS' rfl (wpAny_bind (wpAny_letGo (wpAny_pure ?_)))
    exact hR vb _ s.toks (by rw [← hin]; exact hPb) fun b o e => (Heap.get?_update_other _ _ (fun q : S = b => by rw [← q, gS] at e; cases e)).trans (hk' b o (fun q => by rw [q, gI] at e; cases e) (kg _ _ e))
  | succ k ih =>
    intro j s vb c hk hj kg hit hPb hS hR
    have hlt : j + 1 < items.size := by exact om137 hk
    refine codeAny_builtin F.entry_max_loop ?_
    rw [Around.under_plainId F.plain_max_loop _]
    show wpAny _ A.in1 (seqItems? (.ref S) >>= _) _ _ s
    refine wpAny_bind (wpAny_seqItems hS rfl ?_)
    show wpAny _ A.in1 (tryCatch (pyNext (.ref I)) _ >>= _) _ _ s
    have hv : items[j + 1]? = some (items[j + 1]) := Array.getElem?_eq_getElem hlt
    generalize items[j + 1] = v at hv
    refine wpAny_bind (wpAny_tryCatch (wpAny_pyNext_list_item hit (hl.at fun o e => kg _ _ e) hv fun h' hit' hs' => ?_))
    have hS' : h'.get? S = _ := (hs'.2 S hIS.symm).trans hS
    have kg' : Kp g h' := fun b o e => (hs'.2 b (fun q => by rw [q, gI] at e; cases e)).trans (kg _ _ e)
    show wpAny _ A.in1 (tryCatch (holding [v, v] (richCompare .Gt v vb >>= _)) _ >>= _) _ _ _
    refine wpAny_bind (wpAny_tryCatch (wpAny_holding (wpAny_bind (hcmp (j + 1) (argBest bt j) v vb _ _ _ kg' hv hPb ?_))))
    refine wpAny_bind (wpAny_holding (wpAny_truthy_bool ?_))
    refine wpAny_bind (wpAny_letGo (wpAny_pure ?_))
    cases hb : bt (j + 1) (argBest bt j) with
    | true =>
      simp only [if_true]
      refine wpAny_bind ?_
      refine wpAny_updateSeq hS' rfl (wpAny_bind (wpAny_letGo ?_))
      rw [hname]
      refine wpAny_pure ⟨plainId_quiet F.plain_max_loop _, ih (j + 1) _ v _ (by exact om43 hk) hlt (fun b o e => ?_) (hit'.at fun o e => ?_) (by simp only [argBest, hb, if_true]; exact hv) (Heap.get?_update_self _ hS' rfl) hR⟩
      · exact (Heap.get?_update_other _ _ (fun q : S = b => by rw [← q, gS] at e; cases e)).trans (kg' _ _ e)
      · exact (Heap.get?_update_other _ _ (fun q : S = I => hIS q.symm)).trans e
    | false =>
      simp only [Bool.false_eq_true, if_false]
      refine wpAny_bind (wpAny_letGo ?_)
      rw [hname]
      exact wpAny_pure ⟨plainId_quiet F.plain_max_loop _, ih (j + 1) _ vb c (by exact om43 hk) hlt kg' hit' (by simp only [argBest, hb, Bool.false_eq_true, if_false]; exact hPb) hS' hR⟩
theorem max_first (hh : A.handled = none) (hl : g.IsList l items) (bt : Nat → Nat → Bool) (hcmp : CmpG w A.in1 g .Gt items bt) (S : Addr) (gI : g.get? I = none) (gS : g.get? S = none) (hIS : I ≠ S) (hn : 0 < items.size) {s : Shared} {c : Nat} (kg : Kp g s.heap) (hit : s.heap.IsListIter I l 0)
    (hS : s.heap.get? S = some { cls := .type "list", dict := none, data := .seq #[] c, slots := #[] })
    (hR : ∀ v h' tk, items[argBest bt (items.size - 1)]? = some v → Kp g h' → R (.ok (.ret v)) { s with heap := h', toks := tk }) :
    codeAny (model P0 w) A (.builtin "max.loop" ⟨[.ref I, .none, .ref S], []⟩) R s := by
  have hname : (toString "max" ++ toString ".loop" : String) = "max.loop" := by decide
  refine codeAny_builtin F.entry_max_loop ?_
  rw [Around.under_plainId F.plain_max_loop _]
  show wpAny _ A.in1 (seqItems? (.ref S) >>= _) _ _ s
  refine wpAny_bind (wpAny_seqItems hS rfl ?_)
  show wpAny _ A.in1 (tryCatch (pyNext (.ref I)) _ >>= _) _ _ s
  have hv : items[0]? = some (items[0]) := Array.getElem?_eq_getElem hn
  generalize items[0] = v at hv
  refine wpAny_bind (wpAny_tryCatch (wpAny_pyNext_list_item hit (hl.at fun o e => kg _ _ e) hv fun h' hit' hs' => ?_))
  have hS' : h'.get? S = _ := (hs'.2 S hIS.symm).trans hS
  have kg' : Kp g h' := fun b o e => (hs'.2 b (fun q => by rw [q, gI] at e; cases e)).trans (kg _ _ e)
  show wpAny _ A.in1 (updateSeq S (fun _ => #[v, v]) >>= _) _ _ _
  refine wpAny_bind ?_
  refine wpAny_updateSeq hS' rfl ?_
  rw [hname]
  refine wpAny_pure ⟨plainId_quiet F.plain_max_loop _, max_loop hh hl bt hcmp S gI gS hIS _ 0 _ v _ rfl hn (fun b o e => ?_) (hit'.at fun o e => ?_) hv (Heap.get?_update_self _ hS' rfl) hR⟩
  · exact (Heap.get?_update_other _ _ (fun q : S = b => by rw [← q, gS] at e; cases e)).trans (kg' _ _ e)
  · exact (Heap.get?_update_other _ _ (fun q : S = I => hIS q.symm)).trans e
end
theorem call_max_list {w : World} {A : Around} {s : Shared} {Q E : Value → Shared → Prop} {l : Addr} {items : Array Value} (hh : A.handled = none) (hl : s.heap.IsList l items) (hn : 0 < items.size) (bt : Nat → Nat → Bool) (hcmp : CmpG w A.in1 s.heap .Gt items bt)
    (h : ∀ v h' tk, items[argBest bt (items.size - 1)]? = some v → Kp s.heap h' → Q v { s with heap := h', toks := tk }) : wpAny (model P0 w) A (call (.builtin "max") [.ref l]) Q E s := by
  have hname : (toString "max" ++ toString ".loop" : String) = "max.loop" := by decide
  refine call_function_tree F.kind_max F.plain_max F.entry_max (F.args_max1 _) ?_
  show wpAny _ A.in1 (Builtin.Builtins.bindParams "max" ["key", "default"] 0 ⟨[], []⟩ >>= _) _ _ s
  refine wpAny_bind (wpAny_of_eq (show Builtin.Builtins.bindParams "max" ["key", "default"] 0 ⟨[], []⟩ = pure [none, none] from rfl) ?_)
  refine wpAny_bind (wpAny_pure ?_)
  refine wpAny_bind (wpAny_pyIter_list hl ?_)
  refine wpAny_bind (wpAny_newObj_type ?_)
  rw [hname]
  have z1 : (s.heap.push (itO l 0)).objs.size = s.heap.objs.size + 1 := Heap.size_push ..
  refine wpAny_pure ⟨plainId_quiet F.plain_max_loop _, max_first hh hl bt hcmp _ (Heap.get?_none_of_le (Nat.le_refl _)) (Heap.get?_none_of_le ?_) (Nat.ne_of_lt ?_) hn (fun b o e => Heap.get?_push_of_some _ (Heap.get?_push_of_some _ e)) ⟨_, Heap.get?_push_of_some _ (Heap.get?_push_size _ rfl), rfl, rfl⟩ (Heap.get?_push_size _ rfl) h⟩
  · show _ ≤ (s.heap.push (itO l 0)).objs.size; rw [z1]; exact om68
  · show _ < (s.heap.push (itO l 0)).objs.size; rw [z1]; exact om19

section
variable {w : World} {A : Around} {R : Result → Shared → Prop} {I l : Addr} {items : Array Value} {g : Heap}
theorem min_loop (hh : A.handled = none) (hl : g.IsList l items) (bt : Nat → Nat → Bool) (hcmp : CmpG w A.in1 g .Lt items bt) (S : Addr) (gI : g.get? I = none) (gS : g.get? S = none) (hIS : I ≠ S) :
    ∀ (k j : Nat) (s : Shared) (vb : Value) (c : Nat), items.size - (j + 1) = k → j + 1 ≤ items.size → Kp g s.heap → s.heap.IsListIter I l (j + 1) → items[argBest bt j]? = some vb →
    s.heap.get? S = some { cls := .type "list", dict := none, data := .seq #[vb, vb] c, slots := #[] } →
    (∀ v h' tk, items[argBest bt (items.size - 1)]? = some v → Kp g h' → R (.ok (.ret v)) { s with heap := h', toks := tk }) →
    codeAny (model P0 w) A (.builtin "min.loop" ⟨[.ref I, .none, .ref S], []⟩) R s := by
  have hname : (toString "min" ++ toString ".loop" : String) = "min.loop" := by decide
  intro k
  induction k with
  | zero =>
    intro j s vb c hk hj kg hit hPb hS hR
    have hin : j + 1 = items.size := by exact om136 hj hk
    refine codeAny_builtin F.entry_min_loop ?_
    rw [Around.under_plainId F.plain_min_loop _]
    show wpAny _ A.in1 (seqItems? (.ref S) >>= _) _ _ s
    refine wpAny_bind (wpAny_seqItems hS rfl ?_)
    show wpAny _ A.in1 (tryCatch (pyNext (.ref I)) _ >>= _) _ _ s
    refine wpAny_bind (wpAny_tryCatch (wpAny_pyNext_list_end hh hit (hl.at fun o e => kg _ _ e) (by simp [hin]) fun h' hk' => ?_))
    have hS' := hk' S _ hIS.symm hS
    show wpAny _ A.in1 (updateSeq S (fun _ => #[]) >>= _) _ _ _
    refine wpAny_bind ?_
    refine wpAny_updateSeq hS' rfl (wpAny_bind (wpAny_letGo (wpAny_pure ?_)))
    exact hR vb _ s.toks (by rw [← hin]; exact hPb) fun b o e => (Heap.get?_update_other _ _ (fun q : S = b => by rw [← q, gS] at e; cases e)).trans (hk' b o (fun q => by rw [q, gI] at e; cases e) (kg _ _ e))
  | succ k ih =>
    intro j s vb c hk hj kg hit hPb hS hR
    have hlt : j + 1 < items.size := by exact om137 hk
    refine codeAny_builtin F.entry_min_loop ?_
    rw [Around.under_plainId F.plain_min_loop _]
    show wpAny _ A.in1 (seqItems? (.ref S) >>= _) _ _ s
    refine wpAny_bind (wpAny_seqItems hS rfl ?_)
    show wpAny _ A.in1 (tryCatch (pyNext (.ref I)) _ >>= _) _ _ s
    have hv : items[j + 1]? = some (items[j + 1]) := Array.getElem?_eq_getElem hlt
    generalize items[j + 1] = v at hv
    refine wpAny_bind (wpAny_tryCatch (wpAny_pyNext_list_item hit (hl.at fun o e => kg _ _ e) hv fun h' hit' hs' => ?_))
    have hS' : h'.get? S = _ := (hs'.2 S hIS.symm).trans hS
    have kg' : Kp g h' := fun b o e => (hs'.2 b (fun q => by rw [q, gI] at e; cases e)).trans (kg _ _ e)
    show wpAny _ A.in1 (tryCatch (holding [v, v] (richCompare .Lt v vb >>= _)) _ >>= _) _ _ _
    refine wpAny_bind (wpAny_tryCatch (wpAny_holding (wpAny_bind (hcmp (j + 1) (argBest bt j) v vb _ _ _ kg' hv hPb ?_))))
    refine wpAny_bind (wpAny_holding (wpAny_truthy_bool ?_))
    refine wpAny_bind (wpAny_letGo (wpAny_pure ?_))
    cases hb : bt (j + 1) (argBest bt j) with
    | true =>
      simp only [if_true]
      refine wpAny_bind ?_
      refine wpAny_updateSeq hS' rfl (wpAny_bind (wpAny_letGo ?_))
      rw [hname]
      refine wpAny_pure ⟨plainId_quiet F.plain_min_loop _, ih (j + 1) _ v _ (by exact om43 hk) hlt (fun b o e => ?_) (hit'.at fun o e => ?_) (by simp only [argBest, hb, if_true]; exact hv) (Heap.get?_update_self _ hS' rfl) hR⟩
      · exact (Heap.get?_update_other _ _ (fun q : S = b => by rw [← q, gS] at e; cases e)).trans (kg' _ _ e)
      · exact (Heap.get?_update_other _ _ (fun q : S = I => hIS q.symm)).trans e
    | false =>
      simp only [Bool.false_eq_true, if_false]
      refine wpAny_bind (wpAny_letGo ?_)
      rw [hname]
      exact wpAny_pure ⟨plainId_quiet F.plain_min_loop _, ih (j + 1) _ vb c (by exact om43 hk) hlt kg' hit' (by simp only [argBest, hb, Bool.false_eq_true, if_false]; exact hPb) hS' hR⟩
theorem min_first (hh : A.handled = none) (hl : g.IsList l items) (bt : Nat → Nat → Bool) (hcmp : CmpG w A.in1 g .Lt items bt) (S : Addr) (gI : g.get? I = none) (gS : g.get? S = none) (hIS : I ≠ S) (hn : 0 < items.size) {s : Shared} {c : Nat} (kg : Kp g s.heap) (hit : s.heap.IsListIter I l 0)
    (hS : s.heap.get? S = some { cls := .type "list", dict := none, data := .seq #[] c, slots := #[] })
    (hR : ∀ v h' tk, items[argBest bt (items.size - 1)]? = some v → Kp g h' → R (.ok (.ret v)) { s with heap := h', toks := tk }) :
    codeAny (model P0 w) A (.builtin "min.loop" ⟨[.ref I, .none, .ref S], []⟩) R s := by
  have hname : (toString "min" ++ toString ".loop" : String) = "min.loop" := by decide
  refine codeAny_builtin F.entry_min_loop ?_
  rw [Around.under_plainId F.plain_min_loop _]
  show wpAny _ A.in1 (seqItems? (.ref S) >>= _) _ _ s
  refine wpAny_bind (wpAny_seqItems hS rfl ?_)
  show wpAny _ A.in1 (tryCatch (pyNext (.ref I)) _ >>= _) _ _ s
  have hv : items[0]? = some (items[0]) := Array.getElem?_eq_getElem hn
  generalize items[0] = v at hv
  refine wpAny_bind (wpAny_tryCatch (wpAny_pyNext_list_item hit (hl.at fun o e => kg _ _ e) hv fun h' hit' hs' => ?_))
  have hS' : h'.get? S = _ := (hs'.2 S hIS.symm).trans hS
  have kg' : Kp g h' := fun b o e => (hs'.2 b (fun q => by rw [q, gI] at e; cases e)).trans (kg _ _ e)
  show wpAny _ A.in1 (updateSeq S (fun _ => #[v, v]) >>= _) _ _ _
  refine wpAny_bind ?_
  refine wpAny_updateSeq hS' rfl ?_
  rw [hname]
  refine wpAny_pure ⟨plainId_quiet F.plain_min_loop _, min_loop hh hl bt hcmp S gI gS hIS _ 0 _ v _ rfl hn (fun b o e => ?_) (hit'.at fun o e => ?_) hv (Heap.get?_update_self _ hS' rfl) hR⟩
  · exact (Heap.get?_update_other _ _ (fun q : S = b => by rw [← q, gS] at e; cases e)).trans (kg' _ _ e)
  · exact (Heap.get?_update_other _ _ (fun q : S = I => hIS q.symm)).trans e
end
theorem call_min_list {w : World} {A : Around} {s : Shared} {Q E : Value → Shared → Prop} {l : Addr} {items : Array Value} (hh : A.handled = none) (hl : s.heap.IsList l items) (hn : 0 < items.size) (bt : Nat → Nat → Bool) (hcmp : CmpG w A.in1 s.heap .Lt items bt)
    (h : ∀ v h' tk, items[argBest bt (items.size - 1)]? = some v → Kp s.heap h' → Q v { s with heap := h', toks := tk }) : wpAny (model P0 w) A (call (.builtin "min") [.ref l]) Q E s := by
  have hname : (toString "min" ++ toString ".loop" : String) = "min.loop" := by decide
  refine call_function_tree F.kind_min F.plain_min F.entry_min (F.args_min1 _) ?_
  show wpAny _ A.in1 (Builtin.Builtins.bindParams "min" ["key", "default"] 0 ⟨[], []⟩ >>= _) _ _ s
  refine wpAny_bind (wpAny_of_eq (show Builtin.Builtins.bindParams "min" ["key", "default"] 0 ⟨[], []⟩ = pure [none, none] from rfl) ?_)
  refine wpAny_bind (wpAny_pure ?_)
  refine wpAny_bind (wpAny_pyIter_list hl ?_)
  refine wpAny_bind (wpAny_newObj_type ?_)
  rw [hname]
  have z1 : (s.heap.push (itO l 0)).objs.size = s.heap.objs.size + 1 := Heap.size_push ..
  refine wpAny_pure ⟨plainId_quiet F.plain_min_loop _, min_first hh hl bt hcmp _ (Heap.get?_none_of_le (Nat.le_refl _)) (Heap.get?_none_of_le ?_) (Nat.ne_of_lt ?_) hn (fun b o e => Heap.get?_push_of_some _ (Heap.get?_push_of_some _ e)) ⟨_, Heap.get?_push_of_some _ (Heap.get?_push_size _ rfl), rfl, rfl⟩ (Heap.get?_push_size _ rfl) h⟩
  · show _ ≤ (s.heap.push (itO l 0)).objs.size; rw [z1]; exact om68
  · show _ < (s.heap.push (itO l 0)).objs.size; rw [z1]; exact om19
theorem eqA_symm (a b : At) : eqA a b = eqA b a := by
  cases a <;> cases b <;> simp [eqA, Bool.beq_comm]
theorem getL_both {vs us : List Value} {as bs : List At} (hv : Paired IsA vs as) (hu : Paired IsA us bs) (hl : as.length = bs.length) {i : Nat} (hi : i < as.length) :
    ∃ v u a b, vs[i]? = some v ∧ us[i]? = some u ∧ as.drop i = a :: as.drop (i + 1) ∧ bs.drop i = b :: bs.drop (i + 1) ∧ IsA v a ∧ IsA u b ∧ a ∈ as ∧ b ∈ bs := by
  have e1 : as[i]? = some as[i] := List.getElem?_eq_getElem hi
  have e2 : bs[i]? = some (bs[i]'(by exact om11 hi hl)) := List.getElem?_eq_getElem (by exact om11 hi hl)
  obtain ⟨v, h1, h2⟩ := paired_get hv e1
  obtain ⟨u, h3, h4⟩ := paired_get hu e2
  exact ⟨v, u, _, _, h1, h3, List.drop_eq_getElem_cons hi, List.drop_eq_getElem_cons (by exact om11 hi hl), h2, h4, List.getElem_mem hi, List.getElem_mem (by exact om11 hi hl)⟩
theorem lt_loop (l b : Addr) (vs us : List Value) (n n2 : Nat) (as bs : List At) (hv : Paired IsA vs as) (hu : Paired IsA us bs) (hl : as.length = bs.length) (hk : ∀ x ∈ as, ∀ y ∈ bs, kdA x y = true) (k : Nat) :
    ∀ i : Nat, as.length - i = k → Meets (Builtin.«list.__eq__.loop» ⟨[.ref l, .ref b, rawInt i, rawInt 0], []⟩)
      (fun _ R s => s.heap.get? l = some (lobj vs n) ∧ s.heap.get? b = some (lobj us n2) ∧ R (.ok (.ret (.bool (lexlt (as.drop i) (bs.drop i))))) s) := by
  induction k with
  | zero =>
    intro i hk' prog w A R s h
    obtain ⟨hp, g, d, tk, os⟩ := s; obtain ⟨hl', hb, h⟩ := h
    wp_walk using AutoSeq1.wpAny_loadPart' hl', AutoSeq1.wpAny_loadPart' hb
    have hi1 : vs.toArray[((i : Nat) : Int).toNat]? = none := by simp [hv.length]; exact om44 hk'
    have hi2 : us.toArray[((i : Nat) : Int).toNat]? = none := by simp [hu.length]; exact om45 hk' hl
    rw [List.drop_of_length_le (by exact om44 hk'), List.drop_of_length_le (by exact om45 hk' hl)] at h
    rw [hi1, hi2]
    wp_walk using AutoSeq1.wpAny_loadPart' hl', AutoSeq1.wpAny_loadPart' hb
    have e1 : vs.toArray.size = us.toArray.size := by simp [hv.length, hu.length, hl]
    show R (.ok (.ret (.bool (decide (vs.toArray.size < us.toArray.size))))) _
    rw [e1]
    simpa [lexlt] using h
  | succ k ih =>
    intro i hk' prog w A R s h
    obtain ⟨hp, g, d, tk, os⟩ := s; obtain ⟨hl', hb, h⟩ := h
    wp_walk using AutoSeq1.wpAny_loadPart' hl', AutoSeq1.wpAny_loadPart' hb
    obtain ⟨v, u, x, y, h1, h2, h3, h4, h5, h6, h7, h8⟩ := getL_both hv hu hl (i := i) (by exact om69 hk')
    have hi1 : vs.toArray[((i : Nat) : Int).toNat]? = some v := by simpa using h1
    have hi2 : us.toArray[((i : Nat) : Int).toNat]? = some u := by simpa using h2
    have hc : ((i : Int) + 1) = ((i + 1 : Nat) : Int) := by push_cast; rfl
    rw [h3, h4] at h
    rw [hi1, hi2]
    refine wpAny_bind (eqA_gives h5 h6 (hk x h7 y h8) prog w _ _ _ _ ?_)
    rw [lexlt] at h
    cases hb' : eqA x y with
    | true =>
      rw [hb', if_pos rfl] at h
      wp_walk
      rw [hc]
      exact ⟨plainId_quiet MeetsSeq3.plain_eq_loop _, codeAny_builtin MeetsSeq3.entry_eq_loop (by
        rw [Around.under_plainId MeetsSeq3.plain_eq_loop _]
        exact ih (i + 1) (by exact om70 hk') prog w A R _ ⟨hl', hb, h⟩)⟩
    | false =>
      rw [hb', if_neg Bool.false_ne_true] at h
      wp_walk using AutoSeq1.wpAny_loadPart' hl', AutoSeq1.wpAny_loadPart' hb
      rw [hi1, hi2]
      wp_walk using ltA_rc h5 h6 (hk x h7 y h8)
      exact h
theorem list_lt (l b : Addr) (vs us : List Value) (n n2 : Nat) (as bs : List At) (hv : Paired IsA vs as) (hu : Paired IsA us bs) (hl : as.length = bs.length) (hk : ∀ x ∈ as, ∀ y ∈ bs, kdA x y = true) :
    Meets (Builtin.«list.__lt__» ⟨[.ref l, .ref b], []⟩)
      (fun _ R s => s.heap.get? l = some (lobj vs n) ∧ s.heap.get? b = some (lobj us n2) ∧ R (.ok (.ret (.bool (lexlt as bs)))) s) := by
  intro prog w A R s h
  obtain ⟨hp, g, d, tk, os⟩ := s; obtain ⟨hl', hb, h⟩ := h
  have f3 := AutoSeq1.sub_list_list
  wp_walk using AutoSeq1.wpAny_loadPart' hl', AutoSeq1.wpAny_loadPart' hb
  exact ⟨plainId_quiet MeetsSeq3.plain_eq_loop _, codeAny_builtin MeetsSeq3.entry_eq_loop (by
    rw [Around.under_plainId MeetsSeq3.plain_eq_loop _]
    exact lt_loop l b vs us n n2 as bs hv hu hl hk _ 0 rfl prog w A R _ ⟨hl', hb, by simpa using h⟩)⟩
theorem lis_lt {w : World} {A : Around} {s : Shared} {Q E : Value → Shared → Prop} {a b : Addr} {vs us : List Value} {n n2 : Nat} {as bs : List At} (ha : s.heap.get? a = some (lobj vs n)) (hb : s.heap.get? b = some (lobj us n2))
    (hv : Paired IsA vs as) (hu : Paired IsA us bs) (hl : as.length = bs.length) (hk : ∀ x ∈ as, ∀ y ∈ bs, kdA x y = true) (hun : A.units < cLine) (h : Q (.bool (lexlt as bs)) s) : wpAny (model P0 w) A (richCompare .Lt (.ref a) (.ref b)) Q E s :=
  richCompare_meets_room (op := .Lt) (s := s) (T := "list") (show s.TypeIs (.ref a) "list" from ⟨_, ha, rfl⟩) (show s.TypeIs (.ref b) "list" from ⟨_, hb, rfl⟩) F.slot_list_lt F.entry_list_lt (F.args_list_lt_2 _ _) (list_lt a b vs us n n2 as bs hv hu hl hk) ⟨ha, hb, show _ ∧ _ from ⟨fun e => (by cases e), h⟩⟩ hun
theorem gt_loop (l b : Addr) (vs us : List Value) (n n2 : Nat) (as bs : List At) (hv : Paired IsA vs as) (hu : Paired IsA us bs) (hl : as.length = bs.length) (hk : ∀ x ∈ as, ∀ y ∈ bs, kdA x y = true) (k : Nat) :
    ∀ i : Nat, as.length - i = k → Meets (Builtin.«list.__eq__.loop» ⟨[.ref l, .ref b, rawInt i, rawInt 4], []⟩)
      (fun _ R s => s.heap.get? l = some (lobj vs n) ∧ s.heap.get? b = some (lobj us n2) ∧ R (.ok (.ret (.bool (lexlt (bs.drop i) (as.drop i))))) s) := by
  induction k with
  | zero =>
    intro i hk' prog w A R s h
    obtain ⟨hp, g, d, tk, os⟩ := s; obtain ⟨hl', hb, h⟩ := h
    wp_walk using AutoSeq1.wpAny_loadPart' hl', AutoSeq1.wpAny_loadPart' hb
    have hi1 : vs.toArray[((i : Nat) : Int).toNat]? = none := by simp [hv.length]; exact om44 hk'
    have hi2 : us.toArray[((i : Nat) : Int).toNat]? = none := by simp [hu.length]; exact om45 hk' hl
    rw [List.drop_of_length_le (by exact om45 hk' hl), List.drop_of_length_le (by exact om44 hk')] at h
    rw [hi1, hi2]
    wp_walk using AutoSeq1.wpAny_loadPart' hl', AutoSeq1.wpAny_loadPart' hb
    have e1 : vs.toArray.size = us.toArray.size := by simp [hv.length, hu.length, hl]
    show R (.ok (.ret (.bool (decide (vs.toArray.size > us.toArray.size))))) _
    rw [e1]
    simpa [lexlt] using h
  | succ k ih =>
    intro i hk' prog w A R s h
    obtain ⟨hp, g, d, tk, os⟩ := s; obtain ⟨hl', hb, h⟩ := h
    wp_walk using AutoSeq1.wpAny_loadPart' hl', AutoSeq1.wpAny_loadPart' hb
    obtain ⟨v, u, x, y, h1, h2, h3, h4, h5, h6, h7, h8⟩ := getL_both hv hu hl (i := i) (by exact om69 hk')
    have hi1 : vs.toArray[((i : Nat) : Int).toNat]? = some v := by simpa using h1
    have hi2 : us.toArray[((i : Nat) : Int).toNat]? = some u := by simpa using h2
    have hc : ((i : Int) + 1) = ((i + 1 : Nat) : Int) := by push_cast; rfl
    rw [h3, h4] at h
    rw [hi1, hi2]
    refine wpAny_bind (eqA_gives h5 h6 (hk x h7 y h8) prog w _ _ _ _ ?_)
    rw [lexlt] at h
    rw [eqA_symm y x] at h
    cases hb' : eqA x y with
    | true =>
      rw [hb', if_pos rfl] at h
      wp_walk
      rw [hc]
      exact ⟨plainId_quiet MeetsSeq3.plain_eq_loop _, codeAny_builtin MeetsSeq3.entry_eq_loop (by
        rw [Around.under_plainId MeetsSeq3.plain_eq_loop _]
        exact ih (i + 1) (by exact om70 hk') prog w A R _ ⟨hl', hb, h⟩)⟩
    | false =>
      rw [hb', if_neg Bool.false_ne_true] at h
      wp_walk using AutoSeq1.wpAny_loadPart' hl', AutoSeq1.wpAny_loadPart' hb
      rw [hi1, hi2]
      wp_walk using gtA_rc h5 h6 (hk x h7 y h8)
      exact h
theorem list_gt (l b : Addr) (vs us : List Value) (n n2 : Nat) (as bs : List At) (hv : Paired IsA vs as) (hu : Paired IsA us bs) (hl : as.length = bs.length) (hk : ∀ x ∈ as, ∀ y ∈ bs, kdA x y = true) :
    Meets (Builtin.«list.__gt__» ⟨[.ref l, .ref b], []⟩)
      (fun _ R s => s.heap.get? l = some (lobj vs n) ∧ s.heap.get? b = some (lobj us n2) ∧ R (.ok (.ret (.bool (lexlt bs as)))) s) := by
  intro prog w A R s h
  obtain ⟨hp, g, d, tk, os⟩ := s; obtain ⟨hl', hb, h⟩ := h
  have f3 := AutoSeq1.sub_list_list
  wp_walk using AutoSeq1.wpAny_loadPart' hl', AutoSeq1.wpAny_loadPart' hb
  exact ⟨plainId_quiet MeetsSeq3.plain_eq_loop _, codeAny_builtin MeetsSeq3.entry_eq_loop (by
    rw [Around.under_plainId MeetsSeq3.plain_eq_loop _]
    exact gt_loop l b vs us n n2 as bs hv hu hl hk _ 0 rfl prog w A R _ ⟨hl', hb, by simpa using h⟩)⟩
theorem lis_gt {w : World} {A : Around} {s : Shared} {Q E : Value → Shared → Prop} {a b : Addr} {vs us : List Value} {n n2 : Nat} {as bs : List At} (ha : s.heap.get? a = some (lobj vs n)) (hb : s.heap.get? b = some (lobj us n2))
    (hv : Paired IsA vs as) (hu : Paired IsA us bs) (hl : as.length = bs.length) (hk : ∀ x ∈ as, ∀ y ∈ bs, kdA x y = true) (hun : A.units < cLine) (h : Q (.bool (lexlt bs as)) s) : wpAny (model P0 w) A (richCompare .Gt (.ref a) (.ref b)) Q E s :=
  richCompare_meets_room (op := .Gt) (s := s) (T := "list") (show s.TypeIs (.ref a) "list" from ⟨_, ha, rfl⟩) (show s.TypeIs (.ref b) "list" from ⟨_, hb, rfl⟩) F.slot_list_gt F.entry_list_gt (F.args_list_gt_2 _ _) (list_gt a b vs us n n2 as bs hv hu hl hk) ⟨ha, hb, show _ ∧ _ from ⟨fun e => (by cases e), h⟩⟩ hun
theorem for_enum {w : World} {A : Around} {s : Shared} {B : Heap} {m : Str → Option Value} {O X : Led} {env : Env} {L : Addr} {x y : Str} {px py pt : Pos} {kt : Nat} {body : List Stmt} {e it l : Addr} {items : Array Value} {R : Result → Shared → Prop} {Q : Flow → Shared → Prop}
    (J : Nat → Heap → (Str → Option Value) → Led → Prop) (hh : A.handled = none) (hl : B.IsList l items) (hei : e ≠ it)
    (hL : env.locals = L) (hx : env.kindOf x = some .local) (hy : env.kindOf y = some .local) (hk : env.scope.kind = .function)
    (he : IsEnum s.heap e it 0 .none) (hi : s.heap.IsListIter it l 0) (S : St B L s.heap m (O ++ X)) (hXw : X.map (·.1) = [e, it]) (hJ : J 0 B m O)
    (turn : ∀ i t v C h m O X tk, items[i]? = some v → Kp B C → J i C m O → St C L h (fun z => if z = y then some v else if z = x then some (.int (i : Nat) t) else m z) (O ++ X) →
      wpAny (model P0 w) A (execs body env) (turnPost s C L X (J (i + 1)) Q) (fun _ _ => False) { s with heap := h, toks := tk })
    (done : ∀ C h m O tk, Kp B C → J items.size C m O → St C L h m O → Q .next { s with heap := h, toks := tk })
    (hR : ∀ f s', Q f s' → R (.ok f) s') :
    codeAny (model P0 w) A (.forLoop (.Tuple [.Name x px, .Name y py] kt pt) (.ref e) body [] env) R s := by
  subst hL
  refine via fun M_ k_ => ?_
  obtain ⟨ol, hol, _⟩ := id hl
  refine k_ ?_
  clear k_ M_
  have offX : ∀ b ∈ [e, it], B.get? b = none := fun b hb => by
    rw [← hXw] at hb
    refine via fun M_ k_ => ?_
    obtain ⟨p, hp, q⟩ := List.mem_map.mp hb
    refine k_ ?_
    clear k_ M_
    exact q ▸ (S.nw p (List.mem_append_right _ hp)).2.2
  have hle : l ≠ e := fun q => by rw [q, offX e (by simp)] at hol; cases hol
  have hli : l ≠ it := fun q => by rw [q, offX it (by simp)] at hol; cases hol
  have W := WalksT.enumerate (prog := P0) (w := w) (A := A) hh e it l hei hle hli items
  generalize hItD : (fun (i : Nat) (h : Heap) => (∃ old, IsEnum h e it i old) ∧ h.IsListIter it l i ∧ h.IsList l items) = It at W
  have hlive : ∀ i h, It i h → ∀ b ∈ [e, it], ∃ o, h.get? b = some o := by
    subst hItD
    intro i h hq43_ b hb
    refine via fun M_ k_ => ?_
    obtain ⟨⟨old, q⟩, ⟨o, ho, _⟩, _⟩ := hq43_
    refine k_ ?_
    clear k_ M_
    rcases List.mem_cons.mp hb with rfl | hb
    · exact ⟨_, q⟩
    · rw [List.mem_singleton.mp hb]; exact ⟨o, ho⟩
  have hfp : ∀ b ∈ [e, it, l], b ∈ [e, it] ∨ (∃ o, B.get? b = some o) ∨ b ∈ ([] : Led).map (·.1) := by
    intro b hb
    rcases List.mem_cons.mp hb with rfl | hb
    · exact .inl (by simp)
    · rcases List.mem_cons.mp hb with rfl | hb
      · exact .inl (by simp)
      · rw [List.mem_singleton.mp hb]; exact .inr (.inl ⟨ol, hol⟩)
  have hit0 : It 0 s.heap := by subst hItD; exact ⟨⟨_, he⟩, hi, hl.at fun o q => S.kp _ _ q⟩
  refine codeAny_forLoop_any (fun k s' => ∃ i h tk C m O X, k = items.size - i ∧ i ≤ items.size ∧ s' = { s with heap := h, toks := tk } ∧ Kp B C ∧ St C env.locals h m (O ++ X) ∧ X.map (·.1) = [e, it] ∧ It i h ∧ J i C m O) ?_ items.size
    ⟨0, s.heap, s.toks, B, m, O, X, rfl, Nat.zero_le _, rfl, kp_refl _, S, hXw, hit0, hJ⟩
  intro k s' hq44_
  refine via fun M_ k_ => ?_
  obtain ⟨i, h, tk, C, m, O, X, rfl, hi, rfl, kC, S, hXw, hit, hJ⟩ := hq44_
  refine k_ ?_
  clear k_ M_
  by_cases hlt : i < items.size
  · refine W.item i _ _ _ hlt hit fun T vals h₁ tk₁ hP hT hIT hMid hk₁ => ?_
    have hTw := W.apart _ _ _ hMid
    refine W.go _ _ _ i T _ _ _ hMid fun h₂ hit₂ hk₂ => ?_
    refine via fun M_ k_ => ?_
    obtain ⟨X₁, e₁, hX₁⟩ := newest (hlive _ _ hit₂)
    refine k_ ?_
    clear k_ M_
    have S₁ : St C env.locals h₂ m (O ++ X₁) := St.butX (X' := X₁) S (fun b z hb q => hk₂ b z (hXw ▸ hb) (hk₁ b z (hXw ▸ hb) q)) (e₁.trans hXw.symm) hX₁
    have hIT₂ : h₂.IsTuple T vals := hIT.at fun o q => hk₂ _ _ hTw q
    refine via fun M_ k_ => ?_
    obtain ⟨t, v, hv, rfl⟩ := hP
    refine k_ ?_
    clear k_ M_
    refine wpAny_assign_Tuple hh hIT₂ rfl rfl fun h₃ hs₃ => ?_
    have S₃ := S₁.keep (h' := h₃) fun b o q => hs₃ b o (Nat.ne_of_lt (Heap.lt_size q)) q
    show wpAny _ _ (holding [v] (assign (.Name x px) env (.int i t)) >>= fun _ => holding [] (assign (.Name y py) env v) >>= fun _ => pure ()) _ _ _
    refine wpAny_bind (wpAny_holding (wpAny_assign_Name (stL S₃ rfl hk hx fun h₄ S₄ => ?_)))
    refine wpAny_bind (wpAny_holding (wpAny_assign_Name (stL S₄ rfl hk hy fun h₅ S₅ => wpAny_pure ?_)))
    have hit₅ : It (i + 1) h₅ := W.frame _ _ _ hit₂ (leans (fp_in hfp e₁) kC kC (by simpa using S₁) (by simpa using S₅))
    refine wp_noted (wpAny_mono (turn i t v C h₅ m O X₁ _ hv kC hJ S₅) (fun f s₃ p => ?_) fun _ _ e => e)
    have fin : Turned s C env.locals X₁ (J (i + 1)) s₃ → ∃ k', k' < items.size - i ∧ ∃ i h tk C m O X, k' = items.size - i ∧ i ≤ items.size ∧ s₃ = { s with heap := h, toks := tk } ∧ Kp B C ∧ St C env.locals h m (O ++ X) ∧ X.map (·.1) = [e, it] ∧ It i h ∧ J i C m O := by
      intro hq45_
      refine via fun M_ k_ => ?_
      obtain ⟨h', tk', C', m', O', rfl, kC', S', hJ'⟩ := hq45_
      refine k_ ?_
      clear k_ M_
      exact ⟨items.size - (i + 1), by exact om33 hlt, i + 1, h', tk', C', m', O', X₁, rfl, hlt, rfl, kC.trans kC', S', e₁, W.frame _ _ _ hit₅ (leans (fp_in hfp e₁) kC (kC.trans kC') (by simpa using S₅) (by simpa using S')), hJ'⟩
    cases f with
    | next => exact fin p
    | cont => exact fin p
    | brk => exact hR _ _ p
    | ret v => exact hR _ _ p
  · have hin : i = items.size := by exact om17 hi hlt
    subst hin
    refine W.done _ _ _ hit fun h₁ tk₁ hk₁ => ?_
    exact wpAny_execs_nil (hR _ _ (done C h₁ m O tk₁ kC hJ (St.ends (X := X) S hXw hk₁)))
theorem splitL {w : World} {A : Around} {s : Shared} {Q E : Value → Shared → Prop} {B : Heap} {L : Addr} {m : Str → Option Value} {O : Led} {x y : Str} {t u : Tok} (S : St B L s.heap m O) (hy : (y.length == 0) = false)
    (hq : ∀ D l h' k, l.map (·.1) = Txt.split x y → St B L h' m ((D, lobj (strValues l) 0) :: O) → Q (.ref D) { s with heap := h', toks := k })
    (hsz : x.length ≤ sizeLine) (hsz2 : (Builtin.Str.partsBetween x (Builtin.Str.occurrences x y 0 x.length (x.length + 1)) y.length).length ≤ sizeLine) :
    wpAny (model P0 w) A (call (.builtin "str.split") [.str x t, .str y u]) Q E s := by
  cases h1 : (decide (x.length < y.length) || decide (Builtin.Str.strKind x < Builtin.Str.strKind y))
  · cases hf : (Builtin.Str.occurrences x y 0 x.length (x.length + 1)).isEmpty
    · refine call_meets F.slot_str_split (typeIs_str _ _ _) F.entry_str_split (F.args_str_split_2 _ _) (meets_str_split_sep x y t u h1 hy hf hsz hsz2) ?_
      show wants Q E _ { s with toks := _, heap := s.heap.push { cls := .type "list", data := .seq (strsFrom s.toks (Builtin.Str.partsBetween x (Builtin.Str.occurrences x y 0 x.length (x.length + 1)) y.length)).toArray } }
      rw [strsFrom_eq]
      exact hq _ (numbered s.toks _) _ _ ((numbered_texts _ _).trans ((if_neg (ne_true_of_eq_false h1)).trans (if_neg (ne_true_of_eq_false hf))).symm) (S.push _ rfl)
    · exact call_meets F.slot_str_split (typeIs_str _ _ _) F.entry_str_split (F.args_str_split_2 _ _) (meets_str_split_not_found x y t u h1 hy hf)
        (hq _ [(x, t)] _ s.toks ((if_neg (ne_true_of_eq_false h1)).trans (if_pos hf)).symm (S.push _ rfl))
  · exact call_meets F.slot_str_split (typeIs_str _ _ _) F.entry_str_split (F.args_str_split_2 _ _) (meets_str_split_cannot_occur x y t u h1)
      (hq _ [(x, t)] _ s.toks (if_pos h1).symm (S.push _ rfl))
noncomputable def jnC (c : Nat) : List (List Nat) → List Nat
  | [] => []
  | [p] => p
  | p :: r => p ++ c :: jnC c r
theorem jnC_cons2 (c : Nat) (p q : List Nat) (r : List (List Nat)) : jnC c (p :: q :: r) = p ++ c :: jnC c (q :: r) := rfl
theorem join_cps (c : Nat) : ∀ xs : List Str, (Str.join ⟨#[c]⟩ xs).cps.toList = jnC c (xs.map fun x => x.cps.toList)
  | [] => rfl
  | [x] => rfl
  | x :: y :: r => by
    show (x ++ ⟨#[c]⟩ ++ Str.join ⟨#[c]⟩ (y :: r)).cps.toList = _
    rw [str_app, str_app, join_cps c (y :: r)]
    simp only [List.map_cons, jnC_cons2, List.append_assoc]; rfl
theorem free_cut {c : Nat} : ∀ {p q a b : List Nat}, c ∉ p → c ∉ q → p ++ c :: a = q ++ c :: b → p = q ∧ a = b
  | [], [], _, _, _, _, h => by simpa using h
  | [], y :: q, _, _, _, hq, h => by simp at h hq; exact absurd h.1 (fun e => hq.1 e)
  | x :: p, [], _, _, hp, _, h => by simp at h hp; exact absurd h.1.symm (fun e => hp.1 e)
  | x :: p, y :: q, a, b, hp, hq, h => by
    simp only [List.cons_append, List.cons.injEq] at h
    obtain ⟨e1, e2⟩ := free_cut (fun z => hp (List.mem_cons_of_mem _ z)) (fun z => hq (List.mem_cons_of_mem _ z)) h.2
    exact ⟨by rw [h.1, e1], e2⟩
theorem jnC_inj {c : Nat} : ∀ {ps qs : List (List Nat)}, ps ≠ [] → qs ≠ [] → (∀ p ∈ ps, c ∉ p) → (∀ q ∈ qs, c ∉ q) → jnC c ps = jnC c qs → ps = qs
  | [], _, h, _, _, _, _ => absurd rfl h
  | _, [], _, h, _, _, _ => absurd rfl h
  | [p], [q], _, _, _, _, h => by rw [show p = q from h]
  | [p], q :: q' :: r, _, _, hp, _, h => by
    have : c ∈ p := by rw [show p = q ++ c :: jnC c (q' :: r) from h]; simp
    exact absurd this (hp p (by simp))
  | p :: p' :: r, [q], _, _, _, hq, h => by
    have : c ∈ q := by rw [show q = p ++ c :: jnC c (p' :: r) from h.symm]; simp
    exact absurd this (hq q (by simp))
  | p :: p' :: r, q :: q' :: t, _, _, hp, hq, h => by
    rw [jnC_cons2, jnC_cons2] at h
    obtain ⟨e1, e2⟩ := free_cut (hp p (by simp)) (hq q (by simp)) h
    rw [e1, jnC_inj (by simp) (by simp) (fun x hx => hp x (List.mem_cons_of_mem _ hx)) (fun x hx => hq x (List.mem_cons_of_mem _ hx)) e2]
theorem jnC_text : ∀ (d : Int) (r : List Int), jnC 47 ([] :: (d :: r).map fun d => (chS d).cps.toList) = tailC (d :: r)
  | d, [] => rfl
  | d, e :: r => by
    have ih := jnC_text e r
    rw [List.map_cons, jnC_cons2] at ih ⊢
    rw [List.map_cons, jnC_cons2, tailC_cons]
    simp only [List.nil_append] at ih ⊢
    rw [← ih]; rfl
theorem map_inj {α β : Type} {f : α → β} (hf : ∀ a b, f a = f b → a = b) : ∀ {xs ys : List α}, xs.map f = ys.map f → xs = ys
  | [], [], _ => rfl
  | [], _ :: _, h => by simp at h
  | _ :: _, [], h => by simp at h
  | x :: r, y :: q, h => by
    simp only [List.map_cons, List.cons.injEq] at h
    rw [hf _ _ h.1, map_inj hf h.2]
theorem split_text {r : List Int} (hr : r ≠ []) (hd : Dg r) : Txt.split (textS r) (Str.ofString "/") = Str.empty :: r.map chS := by
  have hs : Str.ofString "/" = ⟨#[47]⟩ := by decide
  rw [hs]
  have h1 := StrLaws.join_split (textS r) ⟨#[47]⟩
  have h2 := StrLaws.split_free (textS r) 47
  generalize Txt.split (textS r) ⟨#[47]⟩ = ps at h1 h2
  have h3 := congrArg (fun x : Str => x.cps.toList) h1
  rw [join_cps, textS_tail r hr] at h3
  obtain ⟨d, r', rfl⟩ : ∃ d r', r = d :: r' := by cases r with | nil => exact absurd rfl hr | cons d r' => exact ⟨d, r', rfl⟩
  rw [← jnC_text] at h3
  have hne : ps ≠ [] := by rintro rfl; simp [jnC] at h3
  have h4 := jnC_inj (by simpa using hne) (by simp) (fun p hp => by obtain ⟨x, hx, rfl⟩ := List.mem_map.mp hp; exact h2 x hx) (fun q hq => by
    rcases List.mem_cons.mp hq with rfl | hq
    · simp
    · obtain ⟨d', hd', rfl⟩ := List.mem_map.mp hq
      have := hd d' hd'
      show 47 ∉ [(48 + d').toNat]
      simp; exact om402 this) h3
  have h5 : (Str.empty :: (d :: r').map chS).map (fun x : Str => x.cps.toList) = [] :: (d :: r').map fun d => (chS d).cps.toList := by simp [Str.empty]
  rw [← h5] at h4
  exact map_inj (fun a b h => str_ext h) h4
theorem post_nm {w : World} {A : Around} {s : Shared} {m : Str → Option Value} {env : Env} {L : Addr} {y : Str} {py : Pos} {Qn : Shared → Prop} {E : Value → Shared → Prop} {C : Heap} {h : Heap} {Cl D : Addr} {mc : Str → Option Value} {oL : Obj} {tk : Nat} {P : Led} (hoL : ∀ h : Heap, h.get? L = some oL → h.Ns L m) (S : St C Cl h mc (P ++ [(L, oL)]))
    (hL : env.locals = L) (hk : env.scope.kind = .function) (hy : env.kindOf y = some .local)
    (hq : ∀ h' tk', St C L h' (fun z => if z = y then some (.ref D) else m z) P → Qn { s with heap := h', toks := tk' }) :
    compPost (model P0 w) A E (some (assign (.Name y py) env)) (fun _ => Qn) (.ref D) Cl (.ok .next) { s with heap := h, toks := tk } :=
  post_name (Q := fun _ => Qn) hoL S hL hk hy hq
theorem start_set {w : World} {A : Around} {s : Shared} {R : Result → Shared → Prop} {elt target iter : Expr} {ifs : List Expr} {rest : List Comprehension} {scope : Scope} {pos : Pos} {it acc : Value} {env : Env}
    (h0 : codeAny (model P0 w) A (.compLoop (.SetComp elt (⟨target, iter, ifs, 0⟩ :: rest) scope pos) 0 it acc env) R s)
    (h : wpAny (model P0 w) A (pyIter it) (fun it' s' => codeAny (model P0 w) A (.compLoop (.SetComp elt (⟨target, iter, ifs, 0⟩ :: rest) scope pos) 0 it' acc env) R s')
      (notedBy (model P0 w) A env fun x s' => R (.error x) s') s) :
    codeAny (model P0 w) A (.compStart (.SetComp elt (⟨target, iter, ifs, 0⟩ :: rest) scope pos) 0 it acc env) R s := by
  refine codeAny_of_tree ?_
  show wpAny _ _ ((compStart (.SetComp elt (⟨target, iter, ifs, 0⟩ :: rest) scope pos) 0 it acc env).onRaise (fun x => do noteFrame x env; standAt theWindowsPlace)) _ _ s
  refine wpAny_notedAt ?_
  unfold compStart
  show wpAny _ _ (ask >>= _) _ _ s
  refine wpAny_bind (wpAny_askSetting (wpAny_ite ?_))
  split
  · first
      | exact wpAny_bind (wpAny_pure (wpAny_pure (And.intro rfl h0)))
      | exact wpAny_pure (And.intro rfl h0)
  · first
      | exact wpAny_bind (wpAny_rule (wpAny_bind (wpAny_standAt (wpAny_bind (wpAny_mono h (fun it' s' h' => wpAny_pure (And.intro rfl h')) fun _ _ x => x)))))
      | (refine wpAny_bind (wpAny_rule ?_); show wpAny _ _ (standAt iter.pos >>= _) _ _ s; exact wpAny_bind (wpAny_standAt (wpAny_bind (wpAny_mono h (fun it' s' h' => wpAny_pure (And.intro rfl h')) fun _ _ x => x))))
theorem textS_starts (r : List Int) : Txt.startswith (textS r) (Str.ofString "/") = true := by
  obtain ⟨xc, hx⟩ : ∃ l, (textS r).cps.toList = 47 :: l := by
    cases r with
    | nil => exact ⟨[], by rw [textS_nil]; decide⟩
    | cons d q => exact ⟨_, textS_cps d q⟩
  have h2 : (textS r).cps = (47 :: xc).toArray := by rw [← hx]
  unfold Txt.startswith Builtin.Str.subAt
  rw [h2]
  have h3 : (textS r).length = (47 :: xc).length := by show (textS r).cps.size = _; rw [h2]; rfl
  rw [h3]
  have e : ((47 :: xc).toArray.extract 0 (0 + (Str.ofString "/").length) == (Str.ofString "/").cps) = true := by
    show ((47 :: xc).toArray.extract 0 1 == #[47]) = true
    simp
  rw [e]
  have : (Str.ofString "/").length = 1 := rfl
  simp [this]

noncomputable def lcp : List Int → List Int → List Int
  | a :: r, b :: q => if a = b then a :: lcp r q else []
  | _, _ => []
theorem lcp_stop : ∀ {r q : List Int} {i : Nat} {a b : Int}, r.take i = q.take i → r[i]? = some a → q[i]? = some b → a ≠ b → lcp r q = r.take i
  | x :: r, y :: q, 0, a, b, _, ha, hb, hne => by
    simp at ha hb
    subst ha; subst hb
    simp [lcp, hne]
  | x :: r, y :: q, i + 1, a, b, ht, ha, hb, hne => by
    simp only [List.take_succ_cons, List.cons.injEq] at ht
    simp only [List.getElem?_cons_succ] at ha hb
    rw [lcp, if_pos ht.1, lcp_stop ht.2 ha hb hne, List.take_succ_cons]
theorem lcp_self : ∀ r : List Int, lcp r r = r
  | [] => rfl
  | a :: r => by rw [lcp, if_pos rfl, lcp_self r]
theorem lcp_end {r q : List Int} (hl : r.length = q.length) (ht : r.take r.length = q.take r.length) : lcp r q = r := by
  rw [List.take_length, hl, List.take_length] at ht
  rw [ht, lcp_self]
theorem chS_inj {a b : Int} (ha : 0 ≤ a) (hb : 0 ≤ b) : ((chS a).cps.toList != (chS b).cps.toList) = decide (a ≠ b) := by
  show ([(48 + a).toNat] != [(48 + b).toNat]) = _
  by_cases h : a = b
  · subst h; simp
  · have : (48 + a).toNat ≠ (48 + b).toNat := by exact om403 hb h
    simp [h, this]
theorem St.plus2 {B g h' : Heap} {L T U : Addr} {m : Str → Option Value} {O : Led} {o o' : Obj} (S : St B L g m O) (k : Kp g h') (hT : h'.get? T = some o) (hn : g.get? T = none) (hU : h'.get? U = some o') (hm : g.get? U = none) (hne : T ≠ U) : St B L h' m ((T, o) :: (U, o') :: O) := by
  have S' := S.plus k hU hm
  obtain ⟨oL, es, ep, hL, rr⟩ := S.ns
  refine ⟨S'.ns, S'.kp, S'.off, fun p hp => ?_, ?_⟩
  · rcases List.mem_cons.mp hp with rfl | hp
    · refine ⟨hT, fun q => ?_, ?_⟩
      · rw [show T = L from q, hL] at hn; cases hn
      · cases q : B.get? T with
        | none => rfl
        | some o => have := S.kp _ _ q; rw [hn] at this; cases this
    · exact S'.nw p hp
  · rw [List.map_cons, List.nodup_cons]
    refine ⟨fun q => ?_, S'.nd⟩
    obtain ⟨p, hp, e⟩ := List.mem_map.mp q
    rcases List.mem_cons.mp hp with rfl | hp
    · exact hne e.symm
    · have := (S.nw p hp).1
      rw [e, hn] at this; cases this
theorem get_ge {g : Heap} {a : Addr} (h : g.objs.size ≤ a) : g.get? a = none := by
  cases q : g.get? a with
  | none => rfl
  | some o => exact absurd (Heap.lt_size q) (Nat.not_lt.mpr h)
theorem chS_vs {vs : List Value} {xs : List Str} (h : Paired VS vs xs) : ∀ v ∈ vs, ∃ x t, v = Value.str x t := by
  intro v hv
  obtain ⟨i, hi⟩ := List.getElem?_of_mem hv
  obtain ⟨x, _, t, e⟩ := paired_getL h hi
  exact ⟨x, t, e⟩
theorem strVals_paired : ∀ l : List (Str × Tok), Paired VS (strValues l) (l.map (·.1))
  | [] => .nil
  | (x, t) :: r => .cons ⟨t, rfl⟩ (strVals_paired r)
noncomputable def atR (r : List Int) : List At := r.map fun d => .s (chS d)
noncomputable def btMin (rs : List (List Int)) (i j : Nat) : Bool := lexlt (atR (rs.getD i [])) (atR (rs.getD j []))
noncomputable def btMax (rs : List (List Int)) (i j : Nat) : Bool := lexlt (atR (rs.getD j [])) (atR (rs.getD i []))
noncomputable def minR (rs : List (List Int)) : List Int := rs.getD (argBest (btMin rs) (rs.length - 1)) []
noncomputable def maxR (rs : List (List Int)) : List Int := rs.getD (argBest (btMax rs) (rs.length - 1)) []
theorem atR_paired : ∀ {vs : List Value} {r : List Int}, Paired VS vs (r.map chS) → Paired IsA vs (atR r)
  | _, [], h => by cases h; exact .nil
  | _, d :: r, h => by
    rw [List.map_cons] at h
    cases h with | cons h t => obtain ⟨tk, rfl⟩ := h; exact .cons rfl (atR_paired t)
theorem atR_kd (r q : List Int) : ∀ x ∈ atR r, ∀ y ∈ atR q, kdA x y = true := by
  intro x hx y hy
  obtain ⟨_, _, rfl⟩ := List.mem_map.mp hx
  obtain ⟨_, _, rfl⟩ := List.mem_map.mp hy
  rfl
noncomputable def ltD : List Int → List Int → Bool
  | a :: r, b :: q => if a = b then ltD r q else decide (a < b)
  | _, _ => false
theorem lexlt_atR : ∀ {r q : List Int}, r.length = q.length → Dg r → Dg q → lexlt (atR r) (atR q) = ltD r q
  | [], [], _, _, _ => rfl
  | a :: r, b :: q, h, ha, hb => by
    have ih := lexlt_atR (r := r) (q := q) (by simpa using h) (fun d hd => ha d (List.mem_cons_of_mem _ hd)) (fun d hd => hb d (List.mem_cons_of_mem _ hd))
    have h1 := ha a List.mem_cons_self
    have h2 := hb b List.mem_cons_self
    show (if eqA (.s (chS a)) (.s (chS b)) then lexlt (atR r) (atR q) else ltA (.s (chS a)) (.s (chS b))) = _
    have e1 : eqA (.s (chS a)) (.s (chS b)) = decide (a = b) := by
      show (chS a == chS b) = _
      by_cases e : a = b
      · rw [e]; simp
      · have : chS a ≠ chS b := fun z => by
          have z' : (#[(48 + a).toNat] : Array Nat) = #[(48 + b).toNat] := congrArg (fun x : Str => x.cps) z
          simp at z'; exact om497 h2 z' e
        simp [e, this]
    have e2 : ltA (.s (chS a)) (.s (chS b)) = decide (a < b) := by
      show decide ([(48 + a).toNat] < [(48 + b).toNat]) = _
      by_cases e : a < b
      · have : (48 + a).toNat < (48 + b).toNat := by exact om498 h2 e
        rw [decide_eq_true e]
        exact decide_eq_true (List.cons_lt_cons_iff.mpr (.inl this))
      · have : ¬ (48 + a).toNat < (48 + b).toNat := by exact om499 e
        rw [decide_eq_false e]
        refine decide_eq_false fun z => ?_
        rcases List.cons_lt_cons_iff.mp z with z | z
        · exact this z
        · exact absurd z.2 (List.lt_irrefl _)
    rw [e1, e2, ih]
    by_cases e : a = b <;> simp [ltD, e]
theorem ltD_irr : ∀ r : List Int, ltD r r = false
  | [] => rfl
  | a :: r => by simp [ltD, ltD_irr r]
theorem ltD_tri : ∀ {r q : List Int}, r.length = q.length → ltD r q = true ∨ r = q ∨ ltD q r = true
  | [], [], _ => .inr (.inl rfl)
  | a :: r, b :: q, h => by
    rcases Int.lt_trichotomy a b with e | e | e
    · left; simp [ltD, e, Int.ne_of_lt e]
    · subst e
      rcases ltD_tri (r := r) (q := q) (by simpa using h) with z | z | z
      · left; simpa [ltD] using z
      · right; left; rw [z]
      · right; right; simpa [ltD] using z
    · right; right; simp [ltD, e, Int.ne_of_lt e]
theorem ltD_asym : ∀ {r q : List Int}, ltD r q = true → ltD q r = false
  | [], [], h => by cases h
  | [], _ :: _, h => by cases h
  | _ :: _, [], h => by cases h
  | a :: r, b :: q, h => by
    by_cases e : a = b
    · subst e; simp only [ltD, if_true] at h ⊢; exact ltD_asym h
    · have e' : ¬ b = a := fun z => e z.symm
      simp [ltD, e] at h; simp [ltD, e']; exact om500 h
theorem ltD_trans : ∀ {r q p : List Int}, ltD r q = true → ltD q p = true → ltD r p = true
  | [], _, _, h, _ => by cases h
  | _ :: _, [], _, h, _ => by cases h
  | _ :: _, _ :: _, [], _, h => by cases h
  | a :: r, b :: q, c :: p, h, h' => by
    by_cases e : a = b
    · subst e
      simp only [ltD, if_true] at h
      by_cases e : a = c
      · subst e; simp only [ltD, if_true] at h' ⊢; exact ltD_trans h h'
      · simp [ltD, e] at h' ⊢; exact h'
    · simp [ltD, e] at h
      by_cases e' : b = c
      · subst e'; simp [ltD, e]; exact h
      · simp [ltD, e'] at h'
        have : a ≠ c := by exact om501 h h'
        simp [ltD, this]; exact om502 h h'
theorem ltD_between : ∀ {a b c : List Int} (i : Nat), a.length = b.length → b.length = c.length → ltD b a = false → ltD c b = false → a.take i = c.take i → b.take i = a.take i
  | _, _, _, 0, _, _, _, _, _ => by simp
  | [], [], _, i + 1, _, _, _, _, _ => rfl
  | x :: a, y :: b, [], i + 1, _, h, _, _, _ => by simp at h
  | x :: a, y :: b, z :: c, i + 1, h1, h2, h3, h4, h5 => by
    simp only [List.take_succ_cons, List.cons.injEq] at h5 ⊢
    obtain ⟨rfl, h5⟩ := h5
    have hxy : y = x := by
      by_cases e : y = x
      · exact e
      · have e' : ¬ x = y := fun q => e q.symm
        simp [ltD, e] at h3
        simp [ltD, e'] at h4
        exact om503 h3 h4
    subst hxy
    simp only [ltD, if_true] at h3 h4
    exact ⟨rfl, ltD_between i (by simpa using h1) (by simpa using h2) h3 h4 h5⟩
theorem lcp_take : ∀ (r q : List Int), lcp r q = r.take (lcp r q).length
  | [], _ => by simp [lcp]
  | _ :: _, [] => by simp [lcp]
  | a :: r, b :: q => by
    by_cases e : a = b
    · rw [lcp, if_pos e, List.length_cons, List.take_succ_cons, ← lcp_take r q]
    · rw [lcp, if_neg e]; rfl
theorem lcp_le : ∀ (r q : List Int), (lcp r q).length ≤ r.length ∧ (lcp r q).length ≤ q.length
  | [], _ => by simp [lcp]
  | _ :: _, [] => by simp [lcp]
  | a :: r, b :: q => by
    have := lcp_le r q
    by_cases e : a = b
    · rw [lcp, if_pos e]; simp; exact om504 this
    · rw [lcp, if_neg e]; simp
theorem lcp_iff : ∀ {r q : List Int} {i : Nat}, i ≤ r.length → r.length = q.length → (r.take i = q.take i ↔ i ≤ (lcp r q).length)
  | _, _, 0, _, _ => by simp
  | [], _, i + 1, h, _ => by simp at h
  | _ :: _, [], i + 1, _, h => by simp at h
  | a :: r, b :: q, i + 1, h, h' => by
    have ih := lcp_iff (r := r) (q := q) (i := i) (by simpa using h) (by simpa using h')
    by_cases e : a = b
    · subst e
      rw [lcp, if_pos rfl]; simp [ih]
    · rw [lcp, if_neg e]; simp [e]
theorem lcp_comm : ∀ (r q : List Int), lcp r q = lcp q r
  | [], [] => rfl
  | [], _ :: _ => rfl
  | _ :: _, [] => rfl
  | a :: r, b :: q => by
    by_cases e : a = b
    · subst e; rw [lcp, if_pos rfl, lcp, if_pos rfl, lcp_comm r q]
    · rw [lcp, if_neg e, lcp, if_neg fun z => e z.symm]
theorem argBest_ok {bt : Nat → Nat → Bool} (irr : ∀ i, bt i i = false) (as : ∀ i j, bt i j = true → bt j i = false) (tr : ∀ i j k, bt i j = false → bt j k = false → bt i k = false) : ∀ k, argBest bt k ≤ k ∧ ∀ j, j ≤ k → bt j (argBest bt k) = false
  | 0 => ⟨Nat.le_refl _, fun j hj => by
      have e : j = 0 := Nat.le_zero.mp hj
      rw [e]; exact irr 0⟩
  | k + 1 => by
    obtain ⟨h1, h2⟩ := argBest_ok irr as tr k
    simp only [argBest]
    split
    · rename_i hb
      refine ⟨Nat.le_refl _, fun j hj => ?_⟩
      by_cases e : j = k + 1
      · subst e; exact irr _
      · exact tr _ _ _ (h2 j (by exact om47 hj e)) (as _ _ hb)
    · rename_i hb
      refine ⟨by exact om5 h1, fun j hj => ?_⟩
      by_cases e : j = k + 1
      · subst e; simpa using hb
      · exact h2 j (by exact om47 hj e)
theorem ltD_ntrans {a b c : List Int} (h1 : a.length = b.length) (h2 : b.length = c.length) (h : ltD a b = false) (h' : ltD b c = false) : ltD a c = false := by
  cases z : ltD a c with
  | false => rfl
  | true =>
    rcases ltD_tri h1 with q | q | q
    · rw [q] at h; cases h
    · subst q; rw [z] at h'; cases h'
    · have := ltD_trans q z; rw [this] at h'; cases h'
structure Rows (rs : List (List Int)) (wd : Nat) : Prop where
  ne : rs ≠ []
  w : ∀ r ∈ rs, r.length = wd
  d : ∀ r ∈ rs, Dg r
theorem Rows.pos {rs : List (List Int)} {wd : Nat} (R : Rows rs wd) : 0 < rs.length := List.length_pos_iff.mpr R.ne
theorem Rows.get {rs : List (List Int)} {wd : Nat} (R : Rows rs wd) {i : Nat} (h : i < rs.length) : rs.getD i [] ∈ rs := by
  rw [List.getD_eq_getElem?_getD, List.getElem?_eq_getElem h]; exact List.getElem_mem h
noncomputable def clip (rs : List (List Int)) (i : Nat) : List Int := rs.getD (min i (rs.length - 1)) []
theorem Rows.clip {rs : List (List Int)} {wd : Nat} (R : Rows rs wd) (i : Nat) : clip rs i ∈ rs := R.get (by have := R.pos; exact om505 this)
theorem argBest_congr {b c : Nat → Nat → Bool} : ∀ k, (∀ i j, i ≤ k → j ≤ k → b i j = c i j) → argBest b k = argBest c k ∧ argBest c k ≤ k
  | 0, _ => ⟨rfl, Nat.le_refl _⟩
  | k + 1, h => by
    obtain ⟨e, l⟩ := argBest_congr (b := b) (c := c) k fun i j hi hj => h i j (by exact om5 hi) (by exact om5 hj)
    simp only [argBest]
    rw [e, h (k + 1) (argBest c k) (by exact om262) (by exact om5 l)]
    refine ⟨rfl, ?_⟩
    split <;> (first | exact om262 | exact om5 l)
theorem minR_ok {rs : List (List Int)} {wd : Nat} (R : Rows rs wd) : minR rs ∈ rs ∧ ∀ r ∈ rs, ltD r (minR rs) = false := by
  have hp := R.pos
  have hl : ∀ i j, (clip rs i).length = (clip rs j).length := fun i j => (R.w _ (R.clip i)).trans (R.w _ (R.clip j)).symm
  have E := argBest_congr (b := btMin rs) (c := fun i j => ltD (clip rs i) (clip rs j)) (rs.length - 1) fun i j hi hj => by
    unfold btMin clip
    rw [Nat.min_eq_left hi, Nat.min_eq_left hj]
    have m1 := R.get (i := i) (by exact om60 hp hi)
    have m2 := R.get (i := j) (by exact om60 hp hj)
    exact lexlt_atR ((R.w _ m1).trans (R.w _ m2).symm) (R.d _ m1) (R.d _ m2)
  have K := argBest_ok (bt := fun i j => ltD (clip rs i) (clip rs j)) (fun i => ltD_irr _) (fun i j h => ltD_asym h) (fun i j k h h' => ltD_ntrans (hl _ _) (hl _ _) h h') (rs.length - 1)
  unfold minR
  rw [E.1]
  refine ⟨R.get (by exact om263 hp E), fun r hr => ?_⟩
  obtain ⟨j, hj⟩ := List.getElem?_of_mem hr
  have hjl := (List.getElem?_eq_some_iff.mp hj).1
  have e1 : clip rs j = r := by unfold Mine.clip; rw [Nat.min_eq_left (by exact om12 hjl), List.getD_eq_getElem?_getD, hj]; rfl
  have e2 : ∀ i, i ≤ rs.length - 1 → clip rs i = rs.getD i [] := fun i hi => by unfold Mine.clip; rw [Nat.min_eq_left hi]
  have := K.2 j (by exact om12 hjl)
  rw [e1, e2 _ K.1] at this
  exact this
theorem maxR_ok {rs : List (List Int)} {wd : Nat} (R : Rows rs wd) : maxR rs ∈ rs ∧ ∀ r ∈ rs, ltD (maxR rs) r = false := by
  have hp := R.pos
  have hl : ∀ i j, (clip rs i).length = (clip rs j).length := fun i j => (R.w _ (R.clip i)).trans (R.w _ (R.clip j)).symm
  have E := argBest_congr (b := btMax rs) (c := fun i j => ltD (clip rs j) (clip rs i)) (rs.length - 1) fun i j hi hj => by
    unfold btMax clip
    rw [Nat.min_eq_left hi, Nat.min_eq_left hj]
    have m1 := R.get (i := i) (by exact om60 hp hi)
    have m2 := R.get (i := j) (by exact om60 hp hj)
    exact lexlt_atR ((R.w _ m2).trans (R.w _ m1).symm) (R.d _ m2) (R.d _ m1)
  have K := argBest_ok (bt := fun i j => ltD (clip rs j) (clip rs i)) (fun i => ltD_irr _) (fun i j h => ltD_asym h) (fun i j k h h' => ltD_ntrans (hl _ _) (hl _ _) h' h) (rs.length - 1)
  unfold maxR
  rw [E.1]
  refine ⟨R.get (by exact om263 hp E), fun r hr => ?_⟩
  obtain ⟨j, hj⟩ := List.getElem?_of_mem hr
  have hjl := (List.getElem?_eq_some_iff.mp hj).1
  have e1 : clip rs j = r := by unfold Mine.clip; rw [Nat.min_eq_left (by exact om12 hjl), List.getD_eq_getElem?_getD, hj]; rfl
  have e2 : ∀ i, i ≤ rs.length - 1 → clip rs i = rs.getD i [] := fun i hi => by unfold Mine.clip; rw [Nat.min_eq_left hi]
  have := K.2 j (by exact om12 hjl)
  rw [e1, e2 _ K.1] at this
  exact this
theorem cpR_iff {rs : List (List Int)} {wd : Nat} (R : Rows rs wd) {i : Nat} (hi : i ≤ wd) : i ≤ (lcp (minR rs) (maxR rs)).length ↔ ∀ r ∈ rs, ∀ q ∈ rs, r.take i = q.take i := by
  obtain ⟨m1, m2⟩ := minR_ok R
  obtain ⟨x1, x2⟩ := maxR_ok R
  have l1 := R.w _ m1
  have l2 := R.w _ x1
  rw [← lcp_iff (by exact om264 l1 hi) (by exact om48 l1 l2)]
  constructor
  · intro h
    have : ∀ r ∈ rs, r.take i = (minR rs).take i := fun r hr => ltD_between i (l1.trans (R.w _ hr).symm) ((R.w _ hr).trans l2.symm) (m2 r hr) (x2 r hr) h
    exact fun r hr q hq => (this r hr).trans (this q hq).symm
  · intro h
    exact h _ m1 _ x1
theorem cpR_take {rs : List (List Int)} {wd : Nat} (R : Rows rs wd) {r : List Int} (hr : r ∈ rs) : lcp (minR rs) (maxR rs) = r.take (lcp (minR rs) (maxR rs)).length := by
  have hl := lcp_le (minR rs) (maxR rs)
  have l1 := R.w _ (minR_ok R).1
  have := (cpR_iff R (i := (lcp (minR rs) (maxR rs)).length) (by exact om265 hl l1)).mp (Nat.le_refl _) r hr (minR rs) (minR_ok R).1
  rw [this]; exact lcp_take _ _
theorem cpR_two {a b : List Int} {wd : Nat} (R : Rows [a, b] wd) : lcp (minR [a, b]) (maxR [a, b]) = lcp a b := by
  have ha := R.w a (by simp)
  have hb := R.w b (by simp)
  have l1 := lcp_le (minR [a, b]) (maxR [a, b])
  have lm := R.w _ (minR_ok R).1
  have l2 := lcp_le a b
  have e1 := cpR_take R (r := a) (by simp)
  have key : ∀ i, i ≤ wd → (i ≤ (lcp (minR [a, b]) (maxR [a, b])).length ↔ i ≤ (lcp a b).length) := fun i hi => by
    rw [cpR_iff R hi, ← lcp_iff (by exact om264 ha hi) (by exact om48 ha hb)]
    constructor
    · intro h; exact h a (by simp) b (by simp)
    · intro h r hr q hq
      simp only [List.mem_cons, List.not_mem_nil, or_false] at hr hq
      rcases hr with rfl | rfl <;> rcases hq with rfl | rfl <;> first | rfl | exact h | exact h.symm
  have e : (lcp (minR [a, b]) (maxR [a, b])).length = (lcp a b).length := by
    have h1 := (key (lcp (minR [a, b]) (maxR [a, b])).length (by exact om265 l1 lm)).mp (Nat.le_refl _)
    have h2 := (key (lcp a b).length (by exact om506 l2 hb)).mpr (Nat.le_refl _)
    exact om507 h1 h2
  rw [e1, e, ← lcp_take]
theorem paired_take {α β : Type} {F : α → β → Prop} : ∀ {l₁ : List α} {l₂ : List β}, Paired F l₁ l₂ → ∀ i, Paired F (l₁.take i) (l₂.take i)
  | _, _, .nil, i => by simp; exact .nil
  | _, _, .cons h t, 0 => .nil
  | _, _, .cons h t, i + 1 => .cons h (paired_take t i)
theorem commonpath_spec {w : World} {A : Around} {s : Shared} {Q E : Value → Shared → Prop} {a : Addr} {rs : List (List Int)} {wd : Nat} {cp : List Int} (r : Rm A 9) (G : Gd w s.heap) (ha : SL s.heap a (rs.map textS)) (hne : rs ≠ []) (hw : ∀ r ∈ rs, r.length = wd) (hw1 : 1 ≤ wd) (hw2 : wd ≤ 100) (hd : ∀ r ∈ rs, Dg r) (hn : rs.length ≤ 100) (hcp : cp = lcp (minR rs) (maxR rs))
    (h : ∀ h' tk' t', Kp s.heap h' → Q (.str (textS cp) t') {s with heap := h', toks := tk'}) :
    wpAny (model P0 w) A (call (.ref 120) [.ref a]) Q E s := by
  refine enterC [("paths", .ref a)] G r.room rfl rfl rfl rfl (by decide) rfl rfl rfl ?_
  intro L h₁ tk cells hcs S
  refine via fun M_ k_ => ?_
  obtain ⟨o2, o1, rfl, hc2, hc1⟩ := CellsAre.two hcs
  refine k_ ?_
  clear k_ M_
  refine via fun M_ k_ => ?_
  obtain ⟨vs, e, hva, hP⟩ := ha
  refine k_ ?_
  clear k_ M_
  have hvl : vs.length = rs.length := by rw [hP.length, List.length_map]
  try dsimp only
  walk_at "go"
  refine callMap (isL (S.kp _ _ hva)) ?_
  intro z TI i h₂ k₂ M hz hTI hi hzi hti
  walk_at "go"
  refine callTupleMap (inG G S) k₂ (r.less (k := 8) (by exact om404) |>.deep _) (isL (S.kp _ _ hva)) (chS_vs hP) (by exact om144 hvl hn) M hi hzi hti ?_
  intro T h₃ tk₃ k₃ hT hTn
  have S₃ := S.plus k₃ hT hTn
  walk_at "go"
  rename_i h₄ S₄
  refine ktl_truthy (S₄.get (.head _)) (by rw [List.size_toArray]; exact om405 hvl hn) ?_
  have hvne : vs ≠ [] := fun q => hne (by rw [q] at hvl; exact List.eq_nil_of_length_eq_zero hvl.symm)
  have hnz : (vs.toArray.isEmpty) = false := by simpa using hvne
  rw [hnz]
  walk_at "go"
  refine via fun M_ k_ => ?_
  obtain ⟨v0, hv0⟩ : ∃ v, vs[0]? = some v := ⟨vs[0]'(List.length_pos_iff.mpr hvne), List.getElem?_eq_getElem _⟩
  refine k_ ?_
  clear k_ M_
  refine via fun M_ k_ => ?_
  obtain ⟨x0, _, t0, rfl⟩ := paired_getL hP hv0
  refine k_ ?_
  clear k_ M_
  refine itemT (isT (S₄.get (.head _))) (j := 0) rfl (by exact om10) hv0 (by with_unfolding_all rfl) ?_
  walk_at "go"
  refine IsiPair.str_bytes ?_
  walk_at "go"
  try dsimp only
  refine stC (O₁ := [(T, tobj vs), (L + 1 + 1, o2)]) (O₂ := []) S₄ hc1 rfl rfl rfl ?_
  intro h₅ o1' ho1 S₅
  walk_at "go"
  refine stC (O₁ := [(T, tobj vs)]) (O₂ := [(L + 1, o1')]) S₅ hc2 rfl rfl rfl ?_
  intro h₆ o2' ho2 S₆
  refine via fun M_ k_ => ?_
  obtain ⟨C, kC, kCh, hC, hO, S₇⟩ := St.freeze (O₁ := [(T, tobj vs), (L + 1 + 1, o2'), (L + 1, o1')]) (O₂ := []) S₆
  refine k_ ?_
  clear k_ M_
  have c1 : C.IsCell (L + 1) _ := ⟨o1', hO _ (.tail _ (.tail _ (.head _))), ho1⟩
  have c2 : C.IsCell (L + 1 + 1) _ := ⟨o2', hO _ (.tail _ (.head _)), ho2⟩
  have hTC : C.get? T = some (tobj vs) := hO _ (.head _)
  have GC := G.kp kC
  clear S S₃ S₄ S₅ S₆ hc1 hc2 hC hO hcs M k₂ hz hTI hi
  walk_at "go"
  try dsimp only
  have htx : ∀ r ∈ rs, (textS r).length ≤ 200 := by
    intro r hr
    rw [textS_len, hw r hr]; split <;> (first | exact om406 | exact om407 hw2)
  refine lcomp_assign rfl rfl rfl (by decide) (fun _ => rfl) ?_
  walk_at "go"
  refine iterTuple (O := []) [] r.hand (isT hTC) S₇ ?_
  intro I₁ oI₁ h₈ S₈ sr₁
  refine lcomp_src0 (O := []) (X₀ := []) (X := [(I₁, oI₁)]) (fun i C O acc => O = [] ∧ Paired (VSL C) acc ((rs.take i).map fun r => Str.empty :: r.map chS)) sr₁ rfl (by decide) rfl S₈ ⟨rfl, .nil⟩ (by rw [sizeLine_eq, List.size_toArray, hvl]; exact om21 hn) (fun _ => rfl) ?_ ?_
  · rintro Cl D i v C' h m O X e acc tk hi hv kC' ⟨rfl, hacc⟩ S₉
    rw [List.size_toArray, hvl] at hi
    refine via fun M_ k_ => ?_
    obtain ⟨x, hx, t, rfl⟩ := paired_getL hP (by simpa using hv)
    refine k_ ?_
    clear k_ M_
    rw [List.getElem?_map] at hx
    refine via fun M_ k_ => ?_
    obtain ⟨rr, hrr, rfl⟩ := Option.map_eq_some_iff.mp hx
    refine k_ ?_
    clear k_ M_
    have hmem := List.mem_of_getElem? hrr
    have hrne : rr ≠ [] := fun q => by have := hw rr hmem; rw [q] at this; simp at this; exact om408 this hw1
    have GC' := GC.kp kC'
    have c1' := c1.keeps kC'
    refine wpAny_assign_Name ?_
    walk_at "go"
    refine tests_nil ?_
    walk_at "go"
    rename_i S₁₀
    refine splitL S₁₀ (by decide) ?_ (by rw [sizeLine_eq]; have := htx rr hmem; exact om409 this) ?_
    · intro D₂ l h₁₁ k₁₁ hl S₁₁
      rw [split_text hrne (hd rr hmem)] at hl
      refine via fun M_ k_ => ?_
      obtain ⟨C₂, kC₂, kCh₂, hC₂, hO₂, S₁₂⟩ := St.freeze (O₁ := [(D₂, lobj (strValues l) 0)]) (O₂ := (D, lobj acc e) :: X) S₁₁
      refine k_ ?_
      clear k_ M_
      refine elt_mk (O' := []) kC₂ S₁₂ ⟨rfl, ?_⟩
      rw [take_succ' hrr, List.map_append]
      refine (hacc.mono fun _ _ z => z.kp kC₂).snoc ⟨D₂, rfl, _, _, hO₂ _ (.head _), ?_⟩
      show Paired VS (strValues l) (Str.empty :: rr.map chS)
      rw [← hl]
      exact strVals_paired l
    · rw [length_partsBetween, sizeLine_eq]
      have := StrLaws.occ_length_le (textS rr) (Str.ofString "/") 0 (textS rr).length ((textS rr).length + 1)
      have := htx rr hmem
      exact om410 this (by assumption)
  · intro D C' h₉ Cl mc oL O acc e tk kC' ⟨hO, hacc⟩ hoL S₉
    subst hO
    rw [List.size_toArray, hvl, List.take_length] at hacc
    refine post_nm (y := Str.ofString "split_paths") hoL S₉ rfl (by with_unfolding_all rfl) (by with_unfolding_all rfl) ?_
    intro h₁₀ tk₁₀ S₁₀
    refine via fun M_ k_ => ?_
    obtain ⟨C₁, kC₁, kCh₁, hC₁, hO₁, S₁₁⟩ := St.freeze (O₁ := [(D, lobj acc e)]) (O₂ := []) S₁₀
    refine k_ ?_
    clear k_ M_
    have GC₁ := GC.kp (kC'.trans kC₁)
    have K₁ := kC.trans (kC'.trans kC₁)
    have c1₁ := c1.keeps (kC'.trans kC₁)
    have c2₁ := c2.keeps (kC'.trans kC₁)
    have hTC₁ := kC₁ _ _ (kC' _ _ hTC)
    have hD := hO₁ _ (.head _)
    clear S₁₀ S₉ hC₁
    walk_at "go"
    refine PyProof.Rows.Assign_Tuple ?_ (hs := by with_unfolding_all rfl) (hw := by with_unfolding_all rfl)
    refine scomp_eval rfl rfl (by decide) (fun _ => rfl) ?_
    walk_at "go"
    refine iterTuple (O := []) [] r.hand (isT hTC₁) S₁₁ ?_
    intro I₂ oI₂ h₁₂ S₁₂ sr₂
    refine comp_at0 (O := []) (X₀ := []) (X := [(I₂, oI₂)]) sr₂.g0 rfl (by decide) rfl S₁₂ (fun Q' E' q => newS S₁₂ q) (fun D cenv s' R a b => start_set a b) ?_
    intro D₂ Cl₂ oL₂ h₁₃ hoL₂ S₁₃ sr₃
    refine comp_walk (O := [(D₂, setO #[] 0 (.fresh 0 0 (!byTx w)))]) (X₀ := [] ++ [(L, oL₂)]) (X := [(I₂, oI₂)]) (fun i C m O => O = [(D₂, if i = 0 then setO #[] 0 (.fresh 0 0 (!byTx w)) else oneO (!byTx w))]) sr₃.nm (ct_set1 ..) rfl rfl rfl S₁₃ rfl ?_ ?_
    · rintro i v C₂ h m O X tk hi hv kC₂ rfl S₁₄
      refine via fun M_ k_ => ?_
      obtain ⟨x, hx, t, rfl⟩ := paired_getL hP (by simpa using hv)
      refine k_ ?_
      clear k_ M_
      rw [List.getElem?_map] at hx
      refine via fun M_ k_ => ?_
      obtain ⟨rr, hrr, rfl⟩ := Option.map_eq_some_iff.mp hx
      refine k_ ?_
      clear k_ M_
      have GC₂ := GC₁.kp kC₂
      have c1₂ := c1₁.keeps kC₂
      try dsimp only
      refine wpAny_assign_Name ?_
      walk_at "go"
      rename_i S₁₅
      refine wpAny_bind (wpAny_bind ?_)
      walk_at "go"
      refine SC.startswith ?_
      rw [textS_starts]
      refine wpAny_bind (wpAny_standAt ?_)
      by_cases i0 : i = 0
      · subst i0
        rw [if_pos rfl] at S₁₅
        refine wpAny_bind (addS0 (O₁ := []) S₁₅ ?_)
        intro h₁₆ tk₁₆ S₁₆
        refine wpAny_pure (wpAny_pure ⟨rfl, turned_mk (kp_refl _) (O' := [(D₂, _)]) S₁₆ ?_⟩)
        rw [if_neg (by exact om411)]
      · rw [if_neg i0] at S₁₅
        refine wpAny_bind (addS1 (O₁ := []) S₁₅ ?_)
        intro tk₁₆
        refine wpAny_pure (wpAny_pure ⟨rfl, turned_mk (kp_refl _) (O' := [(D₂, _)]) S₁₅ ?_⟩)
        rw [if_neg (by exact om412)]
    · rintro C₂ h₁₄ m O tk kC₂ rfl S₁₄
      rw [List.size_toArray, hvl, if_neg (fun q => hne (List.eq_nil_of_length_eq_zero q))] at S₁₄
      refine post_none hoL₂ S₁₄ ?_
      intro h₁₅ S₁₅
      try dsimp only
      refine unpackOne r.hand S₁₅ (.head _) rfl (by with_unfolding_all rfl) (by with_unfolding_all rfl) ?_
      intro h₁₆ tk₁₆ S₁₆
      have S₁₇ : St C₂ L h₁₆ _ [] := S₁₆.drop (by simp)
      have GC₂ := GC₁.kp kC₂
      have K₂ := K₁.trans kC₂
      have c1₂ := c1₁.keeps kC₂
      have c2₂ := c2₁.keeps kC₂
      have hD₂ := kC₂ _ _ hD
      have hacc₂ := hacc.mono fun _ _ z => VSL.kp z (kC₁.trans kC₂)
      clear S₁₆ S₁₅ S₁₄
      try dsimp only
      walk_at "go"
      try dsimp only
      refine lcomp_assign rfl rfl rfl (by decide) (fun _ => rfl) ?_
      walk_at "go"
      refine iterList (O := []) [] r.hand (isL hD₂) S₁₇ ?_
      intro I₃ oI₃ h₁₈ S₁₈ sr₄
      refine lcomp_src0 (O := []) (X₀ := []) (X := [(I₃, oI₃)]) (fun i C O acc => O = [] ∧ Paired (VSL C) acc ((rs.take i).map fun r => r.map chS)) sr₄ rfl (by decide) rfl S₁₈ ⟨rfl, .nil⟩ (by rw [sizeLine_eq, List.size_toArray, hacc.length, List.length_map]; exact om21 hn) (fun _ => rfl) ?_ ?_
      · rintro Cl D i v C' h m O X e acc tk hi hv kC' ⟨rfl, hacc⟩ S₁₉
        refine via fun M_ k_ => ?_
        obtain ⟨xs, hxs, b, rfl, us, e', hub, hU⟩ := paired_getL hacc₂ (by simpa using hv)
        refine k_ ?_
        clear k_ M_
        rw [List.getElem?_map] at hxs
        refine via fun M_ k_ => ?_
        obtain ⟨rr, hrr, rfl⟩ := Option.map_eq_some_iff.mp hxs
        refine k_ ?_
        clear k_ M_
        have hmem := List.mem_of_getElem? hrr
        have GC' := GC₂.kp kC'
        have c2' := c2₂.keeps kC'
        try dsimp only
        refine wpAny_assign_Name ?_
        walk_at "go"
        rename_i S₂₀
        refine tests_nil ?_
        walk_at "go"
        refine lcomp_eval rfl rfl (by decide) (fun _ => rfl) ?_
        walk_at "go"
        refine iterList (O := (D, lobj acc e) :: []) X r.hand (isL (kC' _ _ hub)) S₂₀ ?_
        intro I₄ oI₄ h₂₁ S₂₁ sr₅
        try dsimp only
        have hul : us.length = rr.length + 1 := by rw [hU.length, List.length_cons, List.length_map]
        refine lcomp_src0 (L := Cl) (O := [(D, lobj acc e)]) (X₀ := X) (X := [(I₄, oI₄)]) (fun j C O ac => O = [(D, lobj acc e)] ∧ Paired VS ac ((rr.take (j - 1)).map chS)) sr₅ rfl (by decide) rfl S₂₁ ⟨rfl, .nil⟩ (by rw [sizeLine_eq, List.size_toArray, hul, hw rr hmem]; exact om413 hw2) (fun _ => rfl) ?_ ?_
        · rintro Cl₂ D₃ j v C₃ h m O X tk₃ ac tk hj hv kC₃ ⟨rfl, hac⟩ S₂₂
          refine via fun M_ k_ => ?_
          obtain ⟨x, hx, t, rfl⟩ := paired_getL hU (by simpa using hv)
          refine k_ ?_
          clear k_ M_
          have GC₃ := GC'.kp kC₃
          have c2₃ := c2'.keeps kC₃
          refine wpAny_assign_Name ?_
          walk_at "go"
          rename_i S₂₃
          refine tests_one ?_
          walk_at "go"
          cases j with
          | zero =>
            obtain rfl : x = Str.empty := by simpa using hx.symm
            refine P.truthy_str (by decide) ?_
            have hz : ((Str.empty.length : Int) != 0) = false := by decide
            rw [hz]
            walk_at "go"
            try dsimp only
            exact elt_mk (O' := [(D, lobj acc e)]) (kp_refl _) S₂₃ ⟨rfl, hac⟩
          | succ j =>
            rw [List.getElem?_cons_succ, List.getElem?_map] at hx
            refine via fun M_ k_ => ?_
            obtain ⟨d, hdd, rfl⟩ := Option.map_eq_some_iff.mp hx
            refine k_ ?_
            clear k_ M_
            have h1 : (chS d).length = 1 := rfl
            refine P.truthy_str (by rw [h1]; decide) ?_
            have hz : (((chS d).length : Int) != 0) = true := by rw [h1]; decide
            rw [hz]
            walk_at "go"
            have hd2 := hd rr hmem d (List.mem_of_getElem? hdd)
            have hne2 : ((chS d).cps.toList != (Str.ofString ".").cps.toList) = true := by
              show ([(48 + d).toNat] != [46]) = true
              simp; exact om414 hd2
            refine P.ne_str ?_
            rw [hne2]
            walk_at "go"
            try dsimp only
            refine elt_mk (O' := [(D, lobj acc e)]) (kp_refl _) S₂₃ ⟨rfl, ?_⟩
            show Paired VS _ ((rr.take (j + 1)).map chS)
            rw [take_succ' hdd, List.map_append]
            exact hac.snoc ⟨_, rfl⟩
        · intro D₃ C₃ h₂₂ Cl₂ mc oL O ac e₃ tk kC₃ ⟨hO, hac⟩ hoL S₂₂
          subst hO
          refine post_none hoL S₂₂ ?_
          intro h₂₃ S₂₃
          refine via fun M_ k_ => ?_
          obtain ⟨C₄, kC₄, kCh₄, hC₄, hO₄, S₂₄⟩ := St.freeze (O₁ := [(D₃, lobj ac e₃)]) (O₂ := (D, lobj acc e) :: X) S₂₃
          refine k_ ?_
          clear k_ M_
          refine elt_mk (O' := []) (kC₃.trans kC₄) S₂₄ ⟨rfl, ?_⟩
          rw [take_succ' hrr, List.map_append]
          refine (hacc.mono fun _ _ z => z.kp (kC₃.trans kC₄)).snoc ⟨D₃, rfl, _, _, hO₄ _ (.head _), ?_⟩
          rw [List.size_toArray, hul, Nat.add_sub_cancel, List.take_length] at hac
          exact hac
      · intro D C' h₁₉ Cl mc oL O acc e tk kC' ⟨hO, hacc⟩ hoL S₁₉
        subst hO
        have hal : hacc₂.length = hacc₂.length := rfl
        rw [List.size_toArray, hacc₂.length, List.length_map, List.take_length] at hacc
        refine post_nm (y := Str.ofString "split_paths") hoL S₁₉ rfl (by with_unfolding_all rfl) (by with_unfolding_all rfl) ?_
        intro h₂₀ tk₂₀ S₂₀
        refine via fun M_ k_ => ?_
        obtain ⟨C₃, kC₃, kCh₃, hC₃, hO₃, S₂₁⟩ := St.freeze (O₁ := [(D, lobj acc e)]) (O₂ := []) S₂₀
        refine k_ ?_
        clear k_ M_
        have GC₃ := GC₂.kp (kC'.trans kC₃)
        have K₃ := K₂.trans (kC'.trans kC₃)
        have c1₃ := c1₂.keeps (kC'.trans kC₃)
        have hD₃ := hO₃ _ (.head _)
        have hacc₃ := hacc.mono fun _ _ z => VSL.kp z kC₃
        clear S₂₀ S₁₉ hC₃
        try dsimp only
        walk_at "go"
        have hsz : acc.toArray.size = rs.length := by rw [List.size_toArray, hacc₃.length, List.length_map]
        have hrp : 0 < rs.length := List.length_pos_iff.mpr hne
        have hun : A.units + 3 + 10 < cLine := by have := r.units; exact om415 this
        have getR : ∀ {i : Nat} {v : Value}, acc.toArray[i]? = some v → ∃ b us e rr, v = .ref b ∧ C₃.get? b = some (lobj us e) ∧ Paired IsA us (atR rr) ∧ Paired VS us (rr.map chS) ∧ rs.getD i [] = rr ∧ rs[i]? = some rr := by
          intro i v hv
          refine via fun M_ k_ => ?_
          obtain ⟨xs, hxs, b, rfl, us, e', hub, hU⟩ := paired_getL hacc₃ (by simpa using hv)
          refine k_ ?_
          clear k_ M_
          rw [List.getElem?_map] at hxs
          refine via fun M_ k_ => ?_
          obtain ⟨rr, hrr, rfl⟩ := Option.map_eq_some_iff.mp hxs
          refine k_ ?_
          clear k_ M_
          exact ⟨b, us, e', rr, rfl, hub, atR_paired hU, hU, by rw [List.getD_eq_getElem?_getD, hrr]; rfl, hrr⟩
        refine call_min_list r.hand (isL (S₂₁.kp _ _ hD₃)) (by rw [hsz]; exact hrp) (btMin rs) ?_ ?_
        · intro i j vi vj s' Q' E' kg hi hj hq
          refine via fun M_ k_ => ?_
          obtain ⟨b, us, e1, r1, rfl, hb1, hp1, _, hr1, hm1⟩ := getR hi
          refine k_ ?_
          clear k_ M_
          refine via fun M_ k_ => ?_
          obtain ⟨b', us', e1', r1', rfl, hb1', hp1', _, hr1', hm1'⟩ := getR hj
          refine k_ ?_
          clear k_ M_
          refine lis_lt (kg _ _ (S₂₁.kp _ _ hb1)) (kg _ _ (S₂₁.kp _ _ hb1')) hp1 hp1' ?_ (atR_kd _ _) (by show A.units + 3 + 1 < cLine; exact om154 hun) ?_
          · unfold atR; rw [List.length_map, List.length_map, hw r1 (List.mem_of_getElem? hm1), hw r1' (List.mem_of_getElem? hm1')]
          · unfold btMin at hq; rw [hr1, hr1'] at hq; exact hq
        · intro v₁ h₂₂ tk₂₂ hv₁ k₂₂
          rw [hsz] at hv₁
          refine via fun M_ k_ => ?_
          obtain ⟨b₁, us₁, e₁, r₁, rfl, hb₁, _, hU₁, hr₁, hm₁⟩ := getR hv₁
          refine k_ ?_
          clear k_ M_
          have hr₁ : minR rs = r₁ := hr₁
          have S₂₂ := S₂₁.keep k₂₂
          clear S₂₁
          try dsimp only
          walk_at "go"
          rename_i h₂₃ S₂₃
          refine call_max_list r.hand (isL (S₂₃.kp _ _ hD₃)) (by rw [hsz]; exact hrp) (btMax rs) ?_ ?_
          · intro i j vi vj s' Q' E' kg hi hj hq
            refine via fun M_ k_ => ?_
            obtain ⟨b, us, e1, r1, rfl, hb1, hp1, _, hr1, hm1⟩ := getR hi
            refine k_ ?_
            clear k_ M_
            refine via fun M_ k_ => ?_
            obtain ⟨b', us', e1', r1', rfl, hb1', hp1', _, hr1', hm1'⟩ := getR hj
            refine k_ ?_
            clear k_ M_
            refine lis_gt (kg _ _ (S₂₃.kp _ _ hb1)) (kg _ _ (S₂₃.kp _ _ hb1')) hp1 hp1' ?_ (atR_kd _ _) (by show A.units + 3 + 1 < cLine; exact om154 hun) ?_
            · unfold atR; rw [List.length_map, List.length_map, hw r1 (List.mem_of_getElem? hm1), hw r1' (List.mem_of_getElem? hm1')]
            · unfold btMax at hq; rw [hr1, hr1'] at hq; exact hq
          · intro v₂ h₂₄ tk₂₄ hv₂ k₂₄
            rw [hsz] at hv₂
            refine via fun M_ k_ => ?_
            obtain ⟨b₂, us₂, e₂, r₂, rfl, hb₂, _, hU₂, hr₂, hm₂⟩ := getR hv₂
            refine k_ ?_
            clear k_ M_
            have hr₂ : maxR rs = r₂ := hr₂
            have S₂₄ := S₂₃.keep k₂₄
            clear S₂₃ S₂₂
            try dsimp only
            walk_at "go"
            rename_i h₂₅ S₂₅
            rw [hr₁, hr₂] at hcp
            have hl₁ := hw r₁ (List.mem_of_getElem? hm₁)
            have hl₂ := hw r₂ (List.mem_of_getElem? hm₂)
            have hd₁ := hd r₁ (List.mem_of_getElem? hm₁)
            have hd₂ := hd r₂ (List.mem_of_getElem? hm₂)
            have hlu₁ : us₁.length = wd := by rw [hU₁.length, List.length_map, hl₁]
            have hlu₂ : us₂.length = wd := by rw [hU₂.length, List.length_map, hl₂]
            refine call_enumerate_list (isL (S₂₅.kp _ _ hb₁)) ?_
            intro h₂₆ hE hI hsz₂₆ k₂₆
            refine via fun M_ k_ => ?_
            obtain ⟨oi, hoi, _⟩ := id hI
            refine k_ ?_
            clear k_ M_
            have S₂₆ := S₂₅.plus2 k₂₆ hE (get_ge (Nat.le_succ _)) hoi (get_ge (Nat.le_refl _)) (Nat.ne_of_gt (Nat.lt_succ_self _))
            try dsimp only
            walk_at "go"
            refine wpAny_pyIter_enum hE ?_
            refine for_enum (s := { s with heap := h₂₆, toks := _ }) (O := []) (X := [(_, _), (_, _)]) (Q := fun f s' => f = Flow.next ∧ ∃ h' tk' C m b us e, s' = { s with heap := h', toks := tk' } ∧ Kp C₃ C ∧ St C L h' m [] ∧ m (Str.ofString "common") = some (.ref b) ∧ m (Str.ofString "isabs") = some (.bool true) ∧ C.get? b = some (lobj us e) ∧ Paired VS us (cp.map chS))
              (fun i C m O => O = [] ∧ m (Str.ofString "common") = some (.ref b₁) ∧ m (Str.ofString "s1") = some (.ref b₁) ∧ m (Str.ofString "s2") = some (.ref b₂) ∧ m (Str.ofString "isabs") = some (.bool true) ∧ r₁.take i = r₂.take i)
              r.hand (isL hb₁) (Nat.ne_of_gt (Nat.lt_succ_self _)) rfl rfl rfl rfl hE hI S₂₆ rfl ⟨rfl, rfl, rfl, rfl, rfl, by simp⟩ ?_ ?_ ?_
            · intro i t v C h m O X tk hv kC hq46_ S₂₇
              refine via fun M_ k_ => ?_
              obtain ⟨rfl, m1, m2, m3, m4, ht⟩ := hq46_
              refine k_ ?_
              clear k_ M_
              refine via fun M_ k_ => ?_
              obtain ⟨x, hx, t', rfl⟩ := paired_getL hU₁ (by simpa using hv)
              refine k_ ?_
              clear k_ M_
              rw [List.getElem?_map] at hx
              refine via fun M_ k_ => ?_
              obtain ⟨d, hdd, rfl⟩ := Option.map_eq_some_iff.mp hx
              refine k_ ?_
              clear k_ M_
              have hil : i < wd := by rw [← hl₁]; exact (List.getElem?_eq_some_iff.mp hdd).1
              have GC := GC₃.kp kC
              try dsimp only
              walk_at "go"
              refine via fun M_ k_ => ?_
              obtain ⟨v2, hv2⟩ : ∃ v, us₂[i]? = some v := ⟨us₂[i]'(by exact om1 hil hlu₂), List.getElem?_eq_getElem _⟩
              refine k_ ?_
              clear k_ M_
              refine via fun M_ k_ => ?_
              obtain ⟨x2, hx2, t2, rfl⟩ := paired_getL hU₂ hv2
              refine k_ ?_
              clear k_ M_
              rw [List.getElem?_map] at hx2
              refine via fun M_ k_ => ?_
              obtain ⟨d2, hdd2, rfl⟩ := Option.map_eq_some_iff.mp hx2
              refine k_ ?_
              clear k_ M_
              refine itemL (isL (S₂₇.kp _ _ (kC _ _ hb₂))) (j := i) rfl (by exact om13 hil hw2) (by simpa using hv2) (by with_unfolding_all rfl) ?_
              refine P.ne_str ?_
              rw [chS_inj (hd₁ d (List.mem_of_getElem? hdd)).1 (hd₂ d2 (List.mem_of_getElem? hdd2)).1]
              walk_at "go"
              by_cases hne' : d = d2
              · rw [decide_eq_false (fun z => z hne')]
                walk_at "go"
                try dsimp only
                refine turn_next (kp_refl _) (O' := []) S₂₇ ⟨rfl, by walk_at "lk", by walk_at "lk", by walk_at "lk", by walk_at "lk", ?_⟩
                rw [take_succ' hdd, take_succ' hdd2, ht, hne']
              · rw [decide_eq_true hne']
                walk_at "go"
                refine cutL S₂₇ rfl (isL (S₂₇.kp _ _ (kC _ _ hb₁))) (.none) (.int _ _) (.none) (by decide) (by rw [List.size_toArray, sizeLine_eq, hlu₁]; exact om21 hw2) (by with_unfolding_all rfl) ?_
                intro a h₂₈ S₂₈
                rw [pick_upto _ (by exact om3)] at S₂₈
                try dsimp only
                walk_at "go"
                rename_i h₂₉ S₂₉
                refine via fun M_ k_ => ?_
                obtain ⟨C₅, kC₅, kCh₅, hC₅, hO₅, S₃₀⟩ := St.freeze (O₁ := [(a, _)]) (O₂ := X) S₂₉
                refine k_ ?_
                clear k_ M_
                refine ⟨rfl, _, _, C₅, _, a, _, _, rfl, kC.trans kC₅, S₃₀.drop (List.nil_sublist _), by walk_at "lk", by walk_at "lk", hO₅ _ (.head _), ?_⟩
                rw [hcp, lcp_stop ht hdd hdd2 hne', List.map_take, Int.toNat_natCast]
                exact paired_take hU₁ i
            · intro C h m O tk kC hq47_ S₂₇
              refine via fun M_ k_ => ?_
              obtain ⟨rfl, m1, m2, m3, m4, ht⟩ := hq47_
              refine k_ ?_
              clear k_ M_
              refine ⟨rfl, h, tk, C, m, b₁, us₁, e₁, rfl, kC, S₂₇, m1, m4, kC _ _ hb₁, ?_⟩
              rw [List.size_toArray, hlu₁] at ht
              rw [hcp, lcp_end (hl₁.trans hl₂.symm) (by rw [hl₁]; exact ht)]
              exact hU₁
            · intro f s' hq48_
              refine via fun M_ k_ => ?_
              obtain ⟨rfl, h', tk', C, m, b, us, e, rfl, kC, S₂₇, m1, m2, hb, hU⟩ := hq48_
              refine k_ ?_
              clear k_ M_
              have GC := GC₃.kp kC
              have c1C := c1₃.keeps kC
              try dsimp only
              walk_at "go"
              rename_i h₂₈ S₂₈
              refine via fun M_ k_ => ?_
              obtain ⟨l, el1, el2⟩ := strVals hU
              refine k_ ?_
              clear k_ M_
              have hcl : cp.length ≤ 100 := by
                rw [hcp]
                have := (lcp_le r₁ r₂).1
                exact om147 hl₁ hw2 this
              have hjo : JoinOk (Str.ofString "/") (cp.map chS) = true := joinOk_small (Nat.le_of_eq rfl) (chS_len cp) (by rw [List.length_map]; exact om77 hcl)
              refine SC.join (l := l) (by rw [el1]; exact isL (S₂₈.kp _ _ hb)) el2 hjo ?_
              intro t' k'
              refine addS ?_ ?_
              · have q := join_len (g := Str.ofString "/") (chS_len cp) (Nat.le_of_eq rfl)
                rw [List.length_map] at q
                have e1 : (Str.ofString "/").length = 1 := rfl
                rw [sizeLine_eq]; exact om416 e1 q hcl
              · intro t' tk'
                walk_at "go"
                exact h _ _ _ (K₃.trans (kC.trans S₂₈.kp))
section
variable {α β : Type} {M : Model} {A : Around} {E : Value → Shared → Prop} {s : Shared}
theorem wpC_holding {vs : List Value} {m : Sem α} {Q : α → Shared → Prop} (h : wpC M A m Q E s) : wpC M A (holding vs m) Q E s :=
  fun Γ p hΓ hC => by rw [Sem.wp_holding]; exact h Γ p hΓ hC
theorem wpC_onRaise {m : Sem α} {k : Value → Sem Unit} {Q : α → Shared → Prop}
    (h : wpC M A m Q (fun e s' => wpC M A (k e) (fun _ s'' => E e s'') E s') s) : wpC M A (m.onRaise k) Q E s := fun Γ p hΓ hC => by
  rw [Sem.wp_onRaise]
  exact Sem.wp_mono M Γ m (fun _ _ _ h' => h') (fun e p' s' h' => h' Γ p' hΓ hC) p s (h Γ p hΓ hC)
theorem wpC_runValue {c : Code} {Q : Value → Shared → Prop} (hd : isDec c = false)
    (hc : codeC M A c (fun r s' => match r with | .ok (.ret v) => Q v s' | .ok _ => False | .error e => E e s') s) : wpC M A (runValue c) Q E s := fun Γ p hΓ hC => by
  rw [Sem.wp_runValue]
  refine hc _ p rfl (hΓ.enter c none p (by intro x; cases x)) ⟨hd, fun x hx => ?_⟩
  rcases List.mem_cons.mp hx with rfl | hx
  · exact hC.1
  · exact hC.2 x hx
theorem codeC_of_tree {c : Code} {R : Result → Shared → Prop}
    (h : wpC M (A.under c) (M.den c) (fun fin s' => match fin with | .done f => R (.ok f) s' | .again c' => c'.quiet = true ∧ isDec c' = false ∧ codeC M A c' R s')
      (fun e s' => R (.error e) s') s) : codeC M A c R s := fun Γ p hc hΓ hC => by
  rw [wpCode_iff_wp, hc]
  refine Sem.wp_mono M Γ _ (fun fin p' s' h' => ?_) (fun _ _ _ h' => h') p s (h Γ p (hc ▸ hΓ.in) hC)
  cases fin with
  | done f => exact h'
  | again c' => exact ⟨h'.1, h'.2.2 (Γ.goto c') p' rfl (hΓ.goto c') ⟨h'.2.1, hC.2⟩⟩
end
section
variable {w : World} {A : Around} {E : Value → Shared → Prop} {s : Shared} {R : Result → Shared → Prop}
theorem codeC_builtin {id : String} {args : Args} {b : Builtin} (hb : entryFor table id = some b)
    (h : wpC (model P0 w) (A.under (.builtin id args)) (b args)
      (fun fin s' => match fin with | .done f => R (.ok f) s' | .again c' => c'.quiet = true ∧ isDec c' = false ∧ codeC (model P0 w) A c' R s') (fun e s' => R (.error e) s') s) :
    codeC (model P0 w) A (.builtin id args) R s := by
  refine codeC_of_tree ?_
  show wpC _ _ (match entryFor table id with | some b => b args | none => unsupported ((withoutEnding? id "#data").getD id)) _ _ s
  rw [hb]; exact h
theorem badNe {id x : String} (hd : badIds.contains id = false) (hx : badIds.contains x = true) : ¬ id = x := fun e => by
  rw [e, hx] at hd; cases hd
theorem notHeld {v : Value} : ∀ {l : List (Code × Pos)}, (∀ x ∈ l, isDec x.1 = false) → (l.any fun
    | (.builtin "bytearray.__contains__" ⟨x :: _, _⟩, _) | (.builtin "bytearray.__mod__" ⟨x :: _, _⟩, _)
    | (.builtin "bytearray.__rmod__" ⟨_ :: x :: _, _⟩, _) | (.builtin "_struct.pack_into.held" ⟨x :: _, _⟩, _) => Builtin.Bytes.sameRef x v
    | (.builtin "bytearray.find.held" ⟨_ :: _ :: held, _⟩, _) => held.any (Builtin.Bytes.sameRef v)
    | (.builtin id ⟨x :: _, _⟩, _) => Builtin.Bytes.sameRef x v && Builtin.Bytes.decodersThatHold.contains id
    | _ => false) = false := by
  intro l h
  rw [List.any_eq_false]
  intro x hx
  have hd := h x hx
  obtain ⟨c, p⟩ := x
  cases c
  case builtin id args =>
    have hd' : badIds.contains id = false := hd
    have n1 := badNe hd' (x := "bytearray.__contains__") (by decide +kernel)
    have n2 := badNe hd' (x := "bytearray.__mod__") (by decide +kernel)
    have n3 := badNe hd' (x := "bytearray.__rmod__") (by decide +kernel)
    have n4 := badNe hd' (x := "_struct.pack_into.held") (by decide +kernel)
    have n5 := badNe hd' (x := "bytearray.find.held") (by decide +kernel)
    have h6 : Builtin.Bytes.decodersThatHold.contains id = false := by
      cases q : Builtin.Bytes.decodersThatHold.contains id with
      | false => rfl
      | true =>
        unfold badIds at hd'
        rw [List.contains_append, q] at hd'; cases hd'
    obtain ⟨pos, kw⟩ := args
    clear h hx hd hd'
    unfold notHeld.match_1
    show ¬ (dite (id = "bytearray.__contains__") _ _ = true)
    rw [dif_neg n1, dif_neg n2, dif_neg n3, dif_neg n4, dif_neg n5]
    cases pos with
    | nil => exact Bool.false_ne_true
    | cons a b =>
      show ¬ ((Builtin.Bytes.sameRef a v && Builtin.Bytes.decodersThatHold.contains id) = true)
      rw [h6, Bool.and_false]; exact Bool.false_ne_true
  all_goals exact Bool.false_ne_true
theorem wpC_exported {v : Value} {Q : Bool → Shared → Prop} (h : Q false s) : wpC (model P0 w) A (Builtin.Bytes.exported v) Q E s := fun Γ p hΓ hC => by
  show Q (((Γ.code, p) :: Γ.below).any _) s
  refine Eq.mpr (congrArg (fun b => Q b s) ?_) h
  exact notHeld (v := v) (l := (Γ.code, p) :: Γ.below) (fun x hx => by
    rcases List.mem_cons.mp hx with rfl | hx
    · exact hC.1
    · exact hC.2 x hx)
end
namespace BaF
theorem mro : mroOf (.type "bytearray") = pure [.type "bytearray", .type "object"] := by rw [mroOf_type]; kernel_rfl
theorem lookup_new : typeLookup (.type "bytearray") "__new__" = pure (some (.builtin "bytearray.__new__")) := by rw [typeLookup_type, builtinLookup_eq_fast]; kernel_rfl
theorem slot_init : Slot "bytearray" "__init__" "bytearray.__init__" :=
  .of (owner := "bytearray") (n := "__init__") (by rw [typeLookup_type, builtinLookup_eq_fast]; kernel_rfl) (by decide +kernel) (by decide +kernel) (by decide +kernel)
    (by first | exact .inl (by decide +kernel) | exact .inr (by decide +kernel)) (by rw [isSubtype_type]; kernel_rfl)
theorem slot_setitem : Slot "bytearray" "__setitem__" "bytearray.__setitem__" :=
  .of (owner := "bytearray") (n := "__setitem__") (by rw [typeLookup_type, builtinLookup_eq_fast]; kernel_rfl) (by decide +kernel) (by decide +kernel) (by decide +kernel)
    (by first | exact .inl (by decide +kernel) | exact .inr (by decide +kernel)) (by rw [isSubtype_type]; kernel_rfl)
theorem called : TypeCalled "bytearray" "bytearray.__new__" "bytearray.__init__" :=
  ⟨by decide +kernel, by decide +kernel, ⟨_, _, mro⟩, madeBy_type mro lookup_new (by decide +kernel), by decide +kernel, PySem.F.isi_self_bytearray, slot_init⟩
theorem typeCall (a : Value) : checkTypeCall "bytearray" ⟨[a], []⟩ = pure () := by kernel_rfl
theorem newCall (a : Value) : checkBuiltinCall "bytearray.__new__" ⟨[.type "bytearray", a], []⟩ = pure () := by kernel_rfl
theorem entry_new : entryFor table "bytearray.__new__" = some Builtin.«list.__new__» :=
  entryFor_alias (id' := "list.__new__") (by kernel_rfl) rfl (by decide +kernel) (by kernel_rfl)
theorem plain_new : plainId "bytearray.__new__" = true := by decide +kernel
theorem entry_init : entryFor table "bytearray.__init__" = some Builtin.«bytearray.__init__» := by first | exact entryFor_of_fast (by kernel_rfl) | exact entryFor_of_tree (by kernel_rfl)
theorem plain_init : plainId "bytearray.__init__" = true := by decide +kernel
theorem entry_setitem : entryFor table "bytearray.__setitem__" = some Builtin.«bytearray.__setitem__» := by first | exact entryFor_of_fast (by kernel_rfl) | exact entryFor_of_tree (by kernel_rfl)
theorem lookup_release : typeLookup (.type "bytearray") "__release_buffer__" = pure (some (.builtin "bytearray.__release_buffer__")) := by rw [typeLookup_type, builtinLookup_eq_fast]; kernel_rfl
theorem lookup_buffer : typeLookup (.type "bytearray") "__buffer__" = pure (some (.builtin "bytearray.__buffer__")) := by rw [typeLookup_type, builtinLookup_eq_fast]; kernel_rfl
theorem no_bytes : typeLookup (.type "bytearray") "__bytes__" = pure none := by rw [typeLookup_type, builtinLookup_eq_fast]; kernel_rfl
theorem noIndex : typeLookup (.type "bytearray") "__index__" = pure none := by rw [typeLookup_type, builtinLookup_eq_fast]; kernel_rfl
theorem bind_init (v : Value) : Builtin.Bytes.bindOptional "bytearray.__init__" "bytearray" ["source", "encoding", "errors"] [v] [] = pure [some v, none, none] := by kernel_rfl
theorem args_init (a v : Value) : argsOk "bytearray.__init__" ⟨[a, v], []⟩ := by unfold argsOk; kernel_rfl
theorem args_setitem (a v u : Value) : argsOk "bytearray.__setitem__" ⟨[a, v, u], []⟩ := by unfold argsOk; kernel_rfl
theorem drop_release : "bytearray.__release_buffer__".dropRight ("__release_buffer__".length + 1) = "bytearray" := by decide +kernel
set_option maxRecDepth 1000000 in
set_option maxHeartbeats 4000000 in
theorem owner_new : ("bytearray.__new__".splitOn ".__new__").headD "" = "bytearray" := by simp +decide [String.splitOn, String.splitOnAux]
end BaF
noncomputable abbrev baO (b : Array UInt8) : Obj := { cls := .type "bytearray", data := .bytearray b }
section
variable {w : World} {A : Around} {E : Value → Shared → Prop} {s : Shared}
theorem ba_new (a : Value) {Q₁ : Value → Shared → Prop}
    (h : Q₁ (.ref s.heap.objs.size) { s with heap := s.heap.push (baO #[]) }) :
    codeAny (model P0 w) A (.call (.builtin "bytearray.__new__") ⟨[.type "bytearray", a], []⟩) (wants Q₁ E) s := by
  refine codeAny_of_tree ?_
  show wpAny _ A.in1 (do checkBuiltinCall "bytearray.__new__" ⟨[.type "bytearray", a], []⟩; again (.builtin "bytearray.__new__" ⟨[.type "bytearray", a], []⟩)) _ _ s
  refine wpAny_bind (wpAny_of_eq (BaF.newCall a) (wpAny_pure ⟨plainId_quiet BaF.plain_new _, codeAny_builtin_stack BaF.entry_new rfl fun p st => ?_⟩))
  rw [Around.under_plainId BaF.plain_new _]
  have hsub := PySem.F.isi_self_bytearray
  have hown := BaF.owner_new
  obtain ⟨hp, g, d, tk, os⟩ := s
  simp only [hown]
  wp_walk
  exact h
theorem ba_release {Q : Bool → Shared → Prop} {a : Addr} {b : Array UInt8} (ho : s.heap.get? a = some (baO b)) (h : Q false s) : wpAny (model P0 w) A (Builtin.Bytes.ownRelease (.ref a)) Q E s := by
  have hT : s.TypeIs (.ref a) "bytearray" := ⟨_, ho, rfl⟩
  unfold Builtin.Bytes.ownRelease Builtin.Bytes.slotIsOwn
  refine wpAny_bind ?_
  refine wpAny_bind (wpAny_specialOf hT BaF.lookup_release ?_)
  dsimp only
  rw [if_neg (by decide +kernel)]
  rw [BaF.drop_release]
  refine wpAny_isInstance (T := "bytearray") hT PySem.F.isi_self_bytearray ?_
  exact wpAny_pure h
theorem ba_write {a : Addr} {b : Array UInt8} {f : Array UInt8 → Array UInt8} {Q : Unit → Shared → Prop} (ho : s.heap.get? a = some (baO b)) (hz : (f b).size ≤ sizeLine)
    (h : ∀ h', Heap.SameBut a s.heap h' → h'.get? a = some (baO (f b)) → Q () { s with heap := h' }) : wpAny (model P0 w) A (Builtin.Bytes.write (.ref a) f) Q E s := by
  show wpAny _ _ (updateBytearray a f) _ _ _
  unfold updateBytearray
  refine wpAny_bind (wpAny_load ho ?_)
  show wpAny _ _ (update a (Obj.mapBytearray f) >>= fun _ => lookBehind a) _ _ _
  refine wpAny_bind (wpAny_update ho ?_)
  have ho₂ : (s.heap.update a (Obj.mapBytearray f)).get? a = some (baO (f b)) := Heap.get?_update_self (Obj.mapBytearray f) ho rfl
  refine wpAny_lookBehind ho₂ ?_ (h _ (Heap.SameBut.update ..) ho₂)
  show (if (f b).size > sizeLine then some "bytearray:memory" else none) = none
  rw [if_neg (by exact om271 hz)]
theorem asStr_int (n : Int) (t : Tok) : asStr? (Value.int n t) = pure none := rfl
theorem spec_int (n : Int) (t : Tok) : specialOf (Value.int n t) "__index__" = pure (some (.builtin "int.__index__")) := by
  simp only [specialOf]
  show (pure (Value.type "int") >>= _) = _
  rw [pure_bind]; exact PySem.int_index
theorem asIndex_int (n : Int) (t : Tok) : asIndex (Value.int n t) = pure n := rfl
theorem ba_init {a : Addr} {n : Nat} {t : Tok} {Q : Shared → Prop} (ho : s.heap.get? a = some (baO #[])) (hn : n ≤ 100000) (h : ∀ h', Heap.SameBut a s.heap h' → h'.get? a = some (baO (Array.replicate n 0)) → Q { s with heap := h' }) :
    wpC (model P0 w) A (Builtin.«bytearray.__init__» ⟨[.ref a, .int n t], []⟩) (fun fin s' => ∃ v, fin = .done (.ret v) ∧ v = .none ∧ Q s') E s := by
  unfold Builtin.«bytearray.__init__»
  dsimp only
  refine wpC_bindA (ba_release ho ?_)
  rw [if_neg Bool.false_ne_true]
  refine wpC_bindA (wpAny_of_eq (BaF.bind_init _) ?_)
  dsimp only
  refine wpC_bindA (wpAny_of_eq (a := ()) rfl ?_)
  refine wpC_bindA (wpAny_of_eq (a := ()) rfl ?_)
  refine wpC_bind (wpC_bind (wpC_exported ?_))
  refine wpC_of ?_
  show wpAny _ _ (Builtin.Bytes.exportsOf (.ref a) >>= fun e => pure (decide (e > 0))) _ _ _
  unfold Builtin.Bytes.exportsOf
  refine wpAny_bind (wpAny_bind (wpAny_load ho (wpAny_pure (wpAny_pure ?_))))
  refine wpC_of ?_
  rw [if_neg (by decide)]
  refine wpAny_bind (ba_write ho (Nat.zero_le _) fun h₁ hs₁ ho₁ => ?_)
  refine wpAny_bind ?_
  rw [asStr_int]
  refine wpAny_pure ?_
  rw [if_neg (by decide), if_neg (by decide)]
  try rw [if_neg (by decide)]
  rw [pure_bind]
  generalize hc63 : (2 ^ 63 - 1 : Int) = c63
  refine wpAny_bind ?_
  rw [spec_int]
  refine wpAny_pure ?_
  rw [if_pos (by rfl)]
  refine wpAny_bind ?_
  refine wpAny_attempt ?_
  rw [asIndex_int]
  refine wpAny_pure ?_
  dsimp only
  have f1 : Builtin.Bytes.fitsIndex (n : Int) = true := by
    unfold Builtin.Bytes.fitsIndex
    simp only [Bool.and_eq_true, decide_eq_true_eq]
    exact om272 hn
  have f2 : ((n : Int) == c63) = false := by
    rw [beq_eq_false_iff_ne]; exact om273 hc63 hn
  have f3 : Builtin.Bytes.tooLong (n : Int).toNat = false := by
    unfold Builtin.Bytes.tooLong
    rw [sizeLine_eq]
    simp only [decide_eq_false_iff_not]; exact om274 hn
  rw [f1, if_neg (by decide), if_neg (by exact om61), f2, if_neg Bool.false_ne_true, f3, if_neg Bool.false_ne_true]
  refine wpAny_bind ?_
  refine wpAny_rule ?_
  by_cases hn0 : (n : Int) > 0
  · rw [if_pos hn0]
    refine wpAny_bind ?_
    refine (ba_write ho₁ (by rw [Array.size_replicate, sizeLine_eq]; exact om275 hn) fun h₂ hs₂ ho₂ => ?_)
    exact wpAny_pure ⟨_, rfl, rfl, h h₂ (hs₁.trans hs₂) (by rw [Int.toNat_natCast] at ho₂; exact ho₂)⟩
  · rw [if_neg hn0]
    have : n = 0 := by exact om81 hn0
    subst this
    exact wpAny_pure ⟨_, rfl, rfl, h h₁ hs₁ ho₁⟩
end
section
variable {w : World} {A : Around} {E : Value → Shared → Prop} {s : Shared} {B : Heap} {L : Addr} {m : Str → Option Value} {O O₁ O₂ : Led}
theorem ba_newCall (a : Value) {Q : Value → Shared → Prop} (h : Q (.ref s.heap.objs.size) { s with heap := s.heap.push (baO #[]) }) :
    wpAny (model P0 w) A (call (.builtin "bytearray.__new__") [.type "bytearray", a]) Q E s := by
  refine wpAny_call (codeAny_mono (ba_new (E := E) (Q₁ := Q) a h) fun r s' hr => ?_)
  unfold wants at hr
  split at hr <;> first | exact hr | exact hr.elim
theorem callBA {n : Nat} {t : Tok} {Q : Value → Shared → Prop} (S : St B L s.heap m O) (hn : n ≤ 100000)
    (h : ∀ D h', St B L h' m ((D, baO (Array.replicate n 0)) :: O) → Q (.ref D) { s with heap := h' }) :
    wpC (model P0 w) A (call (.type "bytearray") [.int n t]) Q E s := by
  have ft := BaF.called
  obtain ⟨c, tl, hmro⟩ := ft.mro
  have hmade := ft.made
  have hsub := ft.sub
  show wpC _ _ (runValue _) _ _ _
  refine wpC_runValue rfl ?_
  refine codeC_of_tree ?_
  show wpC _ _ (callAny (.type "bytearray") _) _ _ _
  refine wpC_pure ⟨Code.quiet_builtin _ (by decide +kernel), rfl, codeC_builtin F.entry_type_call ?_⟩
  rw [Around.under_plain (weight_type_call_type "bytearray" _ []) rfl]
  unfold Builtin.«type.__call__»
  dsimp only
  rw [ft.notType]
  rw [if_neg Bool.false_ne_true]
  rw [ft.canCreate]
  rw [if_neg Bool.false_ne_true]
  refine wpC_bind ?_
  rw [BaF.typeCall]
  refine wpC_pure ?_
  refine wpC_bind ?_
  rw [hmro]
  refine wpC_pure ?_
  rw [if_neg (show ¬ ((c :: tl).isEmpty = true) from Bool.false_ne_true)]
  refine wpC_bind ?_
  rw [hmade]
  refine wpC_pure ?_
  dsimp only
  rw [pure_bind]
  refine wpC_bind ?_
  refine wpC_of ?_
  refine wpAny_holding ?_
  refine ba_newCall _ ?_
  have S₁ := S.push (baO #[]) rfl
  have hD := S₁.get (.head _)
  generalize s.heap.push (baO #[]) = h₁ at S₁ hD ⊢
  generalize s.heap.objs.size = D at S₁ hD ⊢
  have hT : (⟨h₁, s.gens, s.drawn, s.toks, s.os⟩ : Shared).TypeIs (.ref D) "bytearray" := ⟨_, hD, rfl⟩
  refine wpC_bind ?_
  refine wpC_of ?_
  refine wpAny_isInstance (T := "bytearray") hT hsub ?_
  rw [if_neg (by decide)]
  refine wpC_bind ?_
  refine wpC_holding ?_
  simp only [callSpecial?]
  refine wpC_bind ?_
  refine wpC_of ?_
  refine wpAny_specialOf hT BaF.slot_init.lookup ?_
  dsimp only
  refine wpC_holding ?_
  rw [BaF.slot_init.bind, pure_bind]
  refine wpC_bind ?_
  show wpC _ _ (runValue _) _ _ _
  refine wpC_runValue rfl ?_
  refine codeC_of_tree ?_
  show wpC _ A.in1.in1 (do checkBuiltinCall "bytearray.__init__" ⟨[.ref D, .int n t], []⟩; again (.builtin "bytearray.__init__" ⟨[.ref D, .int n t], []⟩)) _ _ _
  refine wpC_bind ?_
  refine wpC_of ?_
  refine BaF.slot_init.check _ _ _ _ _ _ _ _ hT (BaF.args_init _ _) ?_
  refine wpC_pure ⟨plainId_quiet BaF.plain_init _, show badIds.contains "bytearray.__init__" = false from by decide +kernel, codeC_builtin BaF.entry_init ?_⟩
  rw [Around.under_plainId BaF.plain_init _]
  refine wpC_mono (ba_init (E := E) hD hn (Q := fun s' => ∃ h', St B L h' m ((D, baO (Array.replicate n 0)) :: O) ∧ s' = ⟨h', s.gens, s.drawn, s.toks, s.os⟩) fun h' hs' hD' => ⟨h', S₁.sameBut (O₁ := []) hs' hD', rfl⟩) ?_ (fun _ _ x => x)
  rintro fin s' ⟨v, rfl, rfl, h₂, S₂, rfl⟩
  refine wpC_pure ?_
  dsimp only
  rw [if_neg (by decide)]
  exact wpC_pure (h _ _ S₂)
end
section
variable {w : World} {A : Around} {E : Value → Shared → Prop} {s : Shared} {B : Heap} {L D : Addr} {m : Str → Option Value} {O O₁ O₂ : Led}
theorem ba_payload {b : Array UInt8} {Q : Array UInt8 → Shared → Prop} (ho : s.heap.get? D = some (baO b)) (h : Q b s) : wpAny (model P0 w) A (Builtin.Bytes.payload (.ref D)) Q E s := by
  unfold Builtin.Bytes.payload Builtin.Bytes.payload?
  refine wpAny_bind ?_
  refine wpAny_bind ?_
  refine wpAny_load ho ?_
  refine wpAny_pure ?_
  exact wpAny_pure h
theorem setBA {b : Array UInt8} {k x : Int} {j : Nat} {t u : Tok} {Q : Unit → Shared → Prop} (S : St B L s.heap m (O₁ ++ (D, baO b) :: O₂)) (hk : k = (j : Int)) (hj : j < b.size) (hb : b.size ≤ 100000) (hx : 0 ≤ x ∧ x < 256)
    (h : ∀ h', St B L h' m (O₁ ++ (D, baO (b.setIfInBounds j x.toNat.toUInt8)) :: O₂) → Q () { s with heap := h' }) : wpAny (model P0 w) A (setItem (.ref D) (.int k t) (.int x u)) Q E s := by
  subst hk
  have ho := (S.nw (D, baO b) (by simp)).1
  have hT : s.TypeIs (.ref D) "bytearray" := ⟨_, ho, rfl⟩
  unfold setItem
  refine wpAny_holding ?_
  refine wpAny_bind ?_
  refine wpAny_sequenceKey hT (by decide) ?_
  refine wpAny_bind ?_
  refine wpAny_callSpecial?_slot (name := Str.ofString "__setitem__") hT BaF.slot_setitem
    (wpAny_call_entry BaF.slot_setitem hT BaF.entry_setitem ?_ (BaF.args_setitem _ _ _))
  unfold Builtin.«bytearray.__setitem__»
  dsimp only
  rw [if_neg (by decide)]
  refine wpAny_bind ?_
  unfold Builtin.Bytes.subscript?
  refine wpAny_bind ?_
  rw [spec_int]
  refine wpAny_pure ?_
  rw [if_neg (by decide)]
  refine wpAny_bind ?_
  rw [asIndex_int]
  refine wpAny_pure ?_
  have f1 : Builtin.Bytes.fitsIndex (j : Int) = true := by
    unfold Builtin.Bytes.fitsIndex
    simp only [Bool.and_eq_true, decide_eq_true_eq]
    exact om276 hj hb
  rw [f1, if_neg (by decide)]
  refine wpAny_pure ?_
  dsimp only
  refine wpAny_bind ?_
  unfold Builtin.Bytes.byteValue
  refine wpAny_bind ?_
  rw [asIndex_int]
  refine wpAny_pure ?_
  rw [if_neg (by simp only [Bool.or_eq_true, decide_eq_true_eq]; exact om277 hx)]
  refine wpAny_pure ?_
  refine wpAny_bind ?_
  refine ba_payload ho ?_
  have hs : seqIndex? (j : Int) b.size = some j := by
    unfold seqIndex?
    have h0 : ¬ ((j : Int) < 0) := by exact om61
    simp only [h0, if_false]
    have h1 : (decide (0 ≤ (j : Int)) && decide ((j : Int) < (b.size : Int))) = true := by simp; exact om27 hj
    rw [if_pos h1]; simp
  rw [hs]
  dsimp only
  refine wpAny_bind ?_
  refine ba_write (f := fun z => z.setIfInBounds j x.toNat.toUInt8) ho (by rw [Array.size_setIfInBounds, sizeLine_eq]; exact om82 hb) fun h' hs' ho' => ?_
  refine wpAny_pure ⟨_, rfl, ?_⟩
  exact wpAny_pure (h h' (S.sameBut hs' ho'))
theorem ba_slotBuffer {Q : Bool → Shared → Prop} {b : Array UInt8} (ho : s.heap.get? D = some (baO b)) (h : Q true s) : wpAny (model P0 w) A (Builtin.Bytes.slotIsOwn (.ref D) "__buffer__") Q E s := by
  have hT : s.TypeIs (.ref D) "bytearray" := ⟨_, ho, rfl⟩
  unfold Builtin.Bytes.slotIsOwn
  refine wpAny_bind (wpAny_specialOf hT BaF.lookup_buffer ?_)
  dsimp only
  rw [if_neg (by decide +kernel)]
  rw [show "bytearray.__buffer__".dropRight ("__buffer__".length + 1) = "bytearray" from by decide +kernel]
  exact wpAny_isInstance (T := "bytearray") hT PySem.F.isi_self_bytearray h
theorem callBytesBA {b : Array UInt8} {Q : Value → Shared → Prop} (ho : s.heap.get? D = some (baO b)) (hb : b.size ≤ 100000)
    (h : ∀ t k, Q (.bytes b t) { s with toks := k }) : wpAny (model P0 w) A (call (.type "bytes") [.ref D]) Q E s := by
  have hT : s.TypeIs (.ref D) "bytearray" := ⟨_, ho, rfl⟩
  refine callType_codes (Q₁ := fun obj s₁ => s₁.TypeIs obj "bytes" ∧ Q obj s₁) F.bm_called (F.bm_typeCall _) F.entry_object_init ?_ fun obj s₁ h₁ => ?_
  · refine PySem.codeAny_of_tree ?_
    show wpAny _ A.in1.in1 (do checkBuiltinCall "bytes.__new__" ⟨[.type "bytes", .ref D], []⟩; again (.builtin "bytes.__new__" ⟨[.type "bytes", .ref D], []⟩)) _ _ s
    refine wpAny_bind (wpAny_of_eq (F.bm_newCall _) (wpAny_pure ⟨plainId_quiet F.bm_plain _, codeAny_builtin F.bm_entry ?_⟩))
    rw [Around.under_plainId F.bm_plain _]
    unfold Builtin.«bytes.__new__»
    refine wpAny_bind (wpAny_of_eq (a := true) rfl ?_)
    refine bm_if_false rfl ?_
    refine wpAny_bind (wpAny_of_eq F.bm_sub ?_)
    refine bm_if_false rfl ?_
    refine wpAny_bind (wpAny_of_eq (F.bm_bind _) ?_)
    refine wpAny_bind (wpAny_of_eq (a := ()) rfl ?_)
    refine wpAny_bind (wpAny_of_eq (a := ()) rfl ?_)
    refine bm_if_false rfl ?_
    refine wpAny_bind (wpAny_specialOf hT BaF.no_bytes ?_)
    refine wpAny_bind (wpAny_bind ?_)
    show wpAny _ _ (load D >>= _) _ _ _
    refine wpAny_bind (wpAny_load ho ?_)
    refine wpAny_pure (wpAny_pure ?_)
    refine bm_if_false rfl ?_
    refine wpAny_bind (wpAny_specialOf hT BaF.noIndex ?_)
    refine bm_if_true rfl ?_
    first
      | show wpAny _ _ (Builtin.Bytes.buffer? "bytes.__new__" (.ref D) true >>= _) _ _ _
      | (refine wpAny_bind ?_; show wpAny _ _ (Builtin.Bytes.buffer? "bytes.__new__" (.ref D) true >>= _) _ _ _)
    refine wpAny_bind ?_
    unfold Builtin.Bytes.buffer?
    refine wpAny_bind (wpAny_specialOf hT BaF.lookup_buffer ?_)
    dsimp only
    refine wpAny_bind ?_
    refine ba_slotBuffer ho ?_
    refine bm_if_false rfl ?_
    refine wpAny_bind (wpAny_specialOf hT BaF.lookup_buffer ?_)
    show wpAny _ _ (Builtin.Bytes.ownRelease (Value.ref D) >>= _) _ _ _
    refine wpAny_bind (ba_release ho ?_)
    refine bm_if_false rfl ?_
    refine wpAny_bind (ba_payload ho ?_)
    refine wpAny_pure ?_
    dsimp only
    refine wpAny_bind (wpAny_rule ?_)
    have hbz : b.size ≤ sizeLine := by rw [sizeLine_eq]; exact om82 hb
    refine wpAny_bind ?_
    refine wpAny_mkBytes ?_ hbz
    show wpAny _ _ (if (Value.type "bytes" == Value.type "bytes") = true then _ else _) _ _ _
    refine bm_if_true (by decide) ?_
    first
      | exact wpAny_pure ⟨typeIs_bytes _ _ _, h _ _⟩
      | exact wpAny_bind (wpAny_pure (wpAny_pure ⟨typeIs_bytes _ _ _, h _ _⟩))
      | exact wpAny_bind (wpAny_pure ⟨typeIs_bytes _ _ _, h _ _⟩)
  · exact ⟨h₁.1, F.args_object_init_2 obj _, object_init_meets F.bm_called.init.lookup F.bm_called.made (by decide) _ w A.in1 _ s₁ ⟨h₁.1, rfl, h₁.2⟩⟩
end
section
variable {α : Type} {M : Model} {A : Around} {E : Value → Shared → Prop} {s : Shared} {env : Env}
theorem wpC_keep {vs : List Value} {m : Sem α} {Q : α → Shared → Prop} (h : wpC M A m Q E s) : wpC M A (m.keep vs) Q E s :=
  fun Γ p hΓ hC => by rw [Sem.wp_keep]; exact h Γ p hΓ hC
theorem wpC_operate {vs : List Value} {m : Sem Value} {Q : Value → Shared → Prop} (h : wpC M A m Q E s) : wpC M A (operate vs m) Q E s :=
  fun Γ p hΓ hC => by rw [Sem.wp_operate]; exact h Γ p hΓ hC
theorem wpC_execs_cons {st : Stmt} {rest : List Stmt} {Q : Flow → Shared → Prop}
    (h : wpC M A (exec st env) (fun f s' => match f with | .next => wpC M A (execs rest env) Q E s' | f => Q f s') E s) : wpC M A (execs (st :: rest) env) Q E s := by
  rw [execs_cons]
  refine wpC_bind (wpC_mono h (fun f s' h' => ?_) fun _ _ x => x)
  cases f <;> first | exact h' | exact wpC_pure h'
theorem wpC_Assign_Name {x : Str} {pos' : Pos} {value : Expr} {pos : Pos} {Q : Flow → Shared → Prop}
    (h : wpC M A (eval value env) (fun v s₁ => wpAny M A (storeName env x v) (fun _ => Q .next) E s₁) E s)
    (hs : swapsWith value (some (.Name x pos')) pos.line env = pure false) : wpC M A (exec (.Assign [.Name x pos'] value pos) env) Q E s := by
  rw [exec_Assign_Name env x pos' value pos hs]
  refine wpC_bindA (wpAny_standAt ?_)
  refine wpC_bind (wpC_mono h (fun v s' h' => ?_) fun _ _ x => x)
  refine wpC_of (wpAny_bind (wpAny_standAt (wpAny_bind (wpAny_bindName (wpAny_mono h' (fun _ _ q => wpAny_pure q) fun _ _ x => x)))))
theorem wpC_If {test : Expr} {body orelse : List Stmt} {pos : Pos} {Q : Flow → Shared → Prop}
    (h : wpC M A (isTrue test env (eval test env)) (fun b s₂ => if b then wpC M A (execs body env) Q E s₂ else wpC M A (execs orelse env) Q E s₂) E s) : wpC M A (exec (.If test body orelse pos) env) Q E s := by
  rw [PySem.exec_If]
  refine wpC_bindA (wpAny_standAt ?_)
  refine wpC_bind (wpC_mono h (fun b s' h' => ?_) fun _ _ x => x)
  cases b <;> exact h'
theorem wpC_isTrue_or {x : Expr} {rest : List Expr} {pos : Pos} {whole : Sem Value} {Q : Bool → Shared → Prop}
    (h : wpC M A (isTrue x env (eval x env)) (fun c s' => if c then Q true s' else wpC M A (isTrue (.BoolOp .Or rest pos) env whole) Q E s') E s) :
    wpC M A (isTrue (.BoolOp .Or (x :: rest) pos) env whole) Q E s := by
  show wpC M A (do
    match BoolOp.Or, ← isTrue x env (eval x env) with
    | .And, false => pure false
    | .Or, true => pure true
    | _, _ => allTrue .Or rest env) Q E s
  refine wpC_bind (wpC_mono h (fun c s' h' => ?_) fun _ _ x => x)
  cases c with
  | false => exact h'
  | true => exact wpC_pure h'
theorem wpC_isTrue_Compare1 {l r : Expr} {op : CmpOp} {pos : Pos} {whole : Sem Value} {Q : Bool → Shared → Prop}
    (h : wpC M A (eval l env) (fun a s₁ => wpC M A (eval r env) (fun b s₂ => wpAny M A (compareOp op a b) (fun c s₃ => wpAny M A (truthy c) Q E s₃) E s₂) E s₁) E s)
    (hm : behindInMarks op r = false) : wpC M A (isTrue (.Compare l [op] [r] pos) env whole) Q E s := by
  rw [PySem.isTrue_Compare1, markedBehindIn_of_false hm]
  refine wpC_bind (wpC_mono h (fun a s₁ h₁ => ?_) fun _ _ x => x)
  refine wpC_bind (wpC_holding (wpC_mono h₁ (fun b s₂ h₂ => ?_) fun _ _ x => x))
  refine wpC_bindA (wpAny_standAt ?_)
  refine wpC_bind (wpC_operate (wpC_of (wpAny_mono h₂ (fun c s₃ h₃ => ?_) fun _ _ x => x)))
  exact wpC_holding (wpC_of h₃)
theorem wpC_Call {func : Expr} {args : List Expr} {pos : Pos} {Q : Value → Shared → Prop}
    (h : wpAny M A (eval func env) (fun f s₁ => wpC M A (callWith pos f [] (backTo pos (starEach args env)) []) Q E s₁) E s)
    (he : eval (.Call func args [] pos) env = (do callWith pos (← eval func env) [] (backTo pos (starEach args env)) (backToKw pos (keywordEach [] env)))) :
    wpC M A (eval (.Call func args [] pos) env) Q E s := by
  rw [he]; exact wpC_bindA h
theorem callWithC_type {pos : Pos} {T : String} {e : Expr} {rest : List Expr} {Q : Value → Shared → Prop}
    (h : wpAny M A (spliced (backTo pos (starEach (e :: rest) env))) (fun vs s₁ => wpC M A (call (.type T) vs) Q E s₁) E s)
    (he : starEach (e :: rest) env = (false, eval e env) :: starEach rest env) (hplain : (backTo pos (starEach rest env)).any (·.1) = false) :
    wpC M A (callWith pos (.type T) [] (backTo pos (starEach (e :: rest) env)) []) Q E s := by
  rw [he] at h ⊢
  have hpl : ((backTo pos ((false, eval e env) :: starEach rest env)).any (·.1) || List.any ([] : List (Option Str × Sem Value)) (·.1.isNone)) = false := by
    show ((false || (backTo pos (starEach rest env)).any (·.1)) || false) = false; rw [hplain]; rfl
  unfold callWith
  refine wpC_bind (wpC_holding (wpC_of (PySem.Calls.evalArgs_plain (wpAny_mono h (fun vs s₁ h₁ => ?_) fun _ _ x => x))))
  refine wpC_bindA (wpAny_standAt ?_)
  simp only [hpl]
  refine wpC_bindA (wpAny_pure ?_)
  exact wpC_bind (wpC_mono h₁ (fun r s₂ hr => wpC_of (wpAny_bind (wpAny_holding (wpAny_point (wpAny_pure hr))))) fun _ _ x => x)
theorem callWithC_K {w : World} {f : Value} {pos : Pos} {e : Expr} {rest : List Expr} {Q : Value → Shared → Prop} (hk : keepIn (KK w) f = true)
    (h : wpAny M A (spliced (backTo pos (starEach (e :: rest) env))) (fun vs s₁ => (KK w).In s₁.heap ∧ wpC M A (call f vs) Q E s₁) E s)
    (he : starEach (e :: rest) env = (false, eval e env) :: starEach rest env) (hplain : (backTo pos (starEach rest env)).any (·.1) = false) :
    wpC M A (callWith pos f [] (backTo pos (starEach (e :: rest) env)) []) Q E s := by
  rw [he] at h ⊢
  have hpl : ((backTo pos ((false, eval e env) :: starEach rest env)).any (·.1) || List.any ([] : List (Option Str × Sem Value)) (·.1.isNone)) = false := by
    show ((false || (backTo pos (starEach rest env)).any (·.1)) || false) = false; rw [hplain]; rfl
  unfold callWith
  refine wpC_bind (wpC_holding (wpC_of (PySem.Calls.evalArgs_plain (wpAny_mono h (fun vs s₁ h₁ => ?_) fun _ _ x => x))))
  refine wpC_bindA (wpAny_standAt ?_)
  obtain ⟨k, hk', Lk⟩ := keeps_K (M := M) hk _ h₁.1
  simp only [hpl]
  refine wpC_bind (wpC_of (Lk.here ?_))
  have tail : ∀ {t : Sem Value}, wpC M A t Q E s₁ → wpC M A (t >>= fun r => holding [r] point >>= fun _ => pure r) Q E s₁ :=
    fun ht => wpC_bind (wpC_mono ht (fun r s₂ hr => wpC_of (wpAny_bind (wpAny_holding (wpAny_point (wpAny_pure hr))))) fun _ _ x => x)
  have marked (mk : Value) : wpC M A (callMarked mk f ([] ++ vs) []) Q E s₁ := by unfold callMarked; exact wpC_keep h₁.2
  rcases hk' with rfl | rfl | rfl <;> dsimp only <;> first | exact tail h₁.2 | (split <;> first | exact tail h₁.2 | exact tail (marked _))
end
section
variable {w : World} {A : Around} {s : Shared} {Q E : Value → Shared → Prop} {name qual : Str} {params : Arguments} {body : List Stmt} {scope : Scope} {dV kV doc pm cdv ct oc : Value} {an od : Option Addr} {osl : Array (Option Value)} {f : Addr} {args : List Value}
theorem codeC_func {env : Env} {R : Result → Shared → Prop} (h : wpC (model P0 w) (A.deeper env) (execs body env) (fun f s' => R (.ok (.ret (match f with | .ret v => v | _ => .none))) s') (fun _ _ => False) s) : codeC (model P0 w) A (.func body env) R s := by
  refine codeC_of_tree ?_
  show wpC _ (A.deeper env) (do point; match ← (execs body env).onRaise (leaving env) with | .ret v => ret v | _ => ret .none) _ _ s
  refine wpC_bindA (wpAny_point ?_)
  refine wpC_bind (wpC_onRaise (wpC_mono h (fun f s' h' => ?_) fun _ _ x => x.elim))
  cases f <;> exact wpC_pure h'
theorem callW (G : Gd w s.heap) (hroom : A.depth < recursionLimit)
    (ho : (KK w).lookup f = some ⟨oc, od, .func (fnOf name qual params body scope dV kV doc pm an cdv ct), osl⟩) (hcd : codeIn (KK w) cdv qual = true) (hco : scope.isCoroutine = false) (hgen : scope.isGenerator = false)
    (h : wpAny (model P0 w) A.in1 (bindArgs (fnOf name qual params body scope dV kV doc pm an cdv ct) ⟨args, []⟩) (fun binds s₁ =>
      wpAny (model P0 w) A.in1 (newFunctionEnv scope mainGlobals [] binds (qual ++ ".<locals>.") (some f) cdv none builtinsNs)
        (fun env s₂ => s₂.heap.NoLimit ∧ wpC (model P0 w) (A.deeper env) (execs body env) (fun fl s' => Q (match fl with | .ret v => v | _ => .none) s') (fun _ _ => False) s₂) E s₁) E s) :
    wpC (model P0 w) A (call (.ref f) args) Q E s := by
  have hcr := codeRec_of G.k hcd
  show wpC _ _ (runValue _) _ _ _
  refine wpC_runValue rfl ?_
  refine codeC_of_tree ?_
  show wpC _ A.in1 (callAny (.ref f) ⟨args, []⟩) _ _ s
  simp only [callAny]
  refine wpC_bindA (wpAny_load (G.k _ _ ho) ?_)
  obtain ⟨c, oc', vs, tq, hc, hoc, hdc, hq⟩ := hcr
  subst hc
  simp only [callFunction, hco, hgen]
  refine wpC_bindA (m := field (.ref c) 1) (wpAny_field hoc hdc hq ?_)
  refine wpC_bindA (wpAny_pure ?_)
  refine wpC_bindA (wpAny_mono h (fun binds s₁ h₁ => ?_) fun _ _ x => x)
  refine wpC_bindA (wpAny_mono h₁ (fun env s₂ h₂ => ?_) fun _ _ x => x)
  refine wpC_bindA (wpAny_enterFrame h₂.1 hroom ?_)
  exact wpC_pure ⟨rfl, rfl, codeC_func h₂.2⟩
theorem enterW (binds : List (Str × Value)) (G : Gd w s.heap) (hroom : A.depth < recursionLimit)
    (ho : (KK w).lookup f = some ⟨oc, od, .func (fnOf name qual params body scope dV kV doc pm an cdv ct), osl⟩) (hcd : codeIn (KK w) cdv qual = true)
    (hbind : BindsTo s (fnOf name qual params body scope dV kV doc pm an cdv ct) ⟨args, []⟩ binds) (hloc : ∀ y ∈ binds, scope.names.lookup y.1 = some .local)
    (hcell : ∀ x ∈ scope.names, x.2 ≠ .cell) (hco : scope.isCoroutine = false) (hgen : scope.isGenerator = false) (hk : scope.kind = .function)
    (h : ∀ L h₁, St s.heap L h₁ (fun y => binds.reverse.lookup y) [] →
      wpC (model P0 w) (A.deeper (envX qual scope L f cdv [])) (execs body (envX qual scope L f cdv []))
        (fun fl s' => Q (match fl with | .ret v => v | _ => .none) s') (fun _ _ => False) { s with heap := h₁, toks := s.toks + binds.length }) :
    wpC (model P0 w) A (call (.ref f) args) Q E s := by
  refine callW G hroom ho hcd hco hgen (hbind _ _ _ _ ?_)
  refine wpAny_newFunctionEnv hcell hloc (fun h₁ hns hsb => ?_) hk
  have k1 : Kp s.heap h₁ := fun b o e => hsb.extBut b o (Nat.ne_of_lt (Heap.lt_size e)) (Heap.get?_push_of_some _ e)
  refine ⟨G.nolimit.fresh _ hsb, ?_⟩
  exact h s.heap.objs.size h₁ ⟨hns, k1, Heap.get?_none_of_le (Nat.le_refl _), (fun p hp => by cases hp), List.nodup_nil⟩
theorem enterCW (binds : List (Str × Value)) (G : Gd w s.heap) (hroom : A.depth < recursionLimit)
    (ho : (KK w).lookup f = some ⟨oc, od, .func (fnOf name qual params body scope dV kV doc pm an cdv ct), osl⟩) (hcd : codeIn (KK w) cdv qual = true)
    (hbind : bindArgs (fnOf name qual params body scope dV kV doc pm an cdv ct) ⟨args, []⟩ = pure binds)
    (hkind : (binds.all fun y => scope.names.lookup y.1 == some .local || scope.names.lookup y.1 == some .cell) = true) (hnd : ((cellsFrom 0 scope.names []).map (·.1)).Nodup)
    (hco : scope.isCoroutine = false) (hgen : scope.isGenerator = false) (hk : scope.kind = .function)
    (h : ∀ L h₁ tk cells, CellsAre (bindC (envX qual scope L f cdv (cellsFrom (L + 1) scope.names [])).kindOf binds fun _ => none) (cellsFrom (L + 1) scope.names []) cells →
      St s.heap L h₁ (bindL (envX qual scope L f cdv (cellsFrom (L + 1) scope.names [])).kindOf binds fun _ => none) cells →
      wpC (model P0 w) (A.deeper (envX qual scope L f cdv (cellsFrom (L + 1) scope.names []))) (execs body (envX qual scope L f cdv (cellsFrom (L + 1) scope.names [])))
        (fun fl s' => Q (match fl with | .ret v => v | _ => .none) s') (fun _ _ => False) { s with heap := h₁, toks := tk }) :
    wpC (model P0 w) A (call (.ref f) args) Q E s := by
  refine callW G hroom ho hcd hco hgen ?_
  rw [hbind]
  refine wpAny_pure (wpAny_newFunctionEnv_cells hk (kindsX hkind _) fun env he s₁ x => ?_)
  subst he
  refine ⟨G.nolimit.keeps x.toInCall.keep, ?_⟩
  obtain ⟨h₁, tk, rfl, _⟩ := x.done
  obtain ⟨cells, NC, Y⟩ := Cl.news (h₀ := s.heap) (Nat.le_refl _) fun n c hm => ⟨x.cell n c (lookup_of_mem_nodup (cellsFrom_names scope.names 0 (s.heap.objs.size + 1) [] [] rfl ▸ hnd) hm), x.above n c hm⟩
  refine h s.heap.objs.size h₁ tk cells Y ⟨x.toInCall.ns, x.toInCall.keep, Heap.get?_none_of_le (Nat.le_refl _), NC, ?_⟩
  rw [cellsAre_addrs Y]
  exact List.pairwise_map.mpr x.apart
end
theorem byteArr_set (l : List Int) (k : Nat) (x : Int) : byteArr (l.set k x) = (byteArr l).setIfInBounds k x.toNat.toUInt8 := by
  unfold byteArr; simp [List.map_set]
theorem byteArr_zeros (n : Nat) : byteArr (List.replicate n 0) = Array.replicate n 0 := by
  unfold byteArr; simp
theorem bInts_byteArr {ns : List Int} (h : ∀ n ∈ ns, 0 ≤ n ∧ n < 256) : KBw.bInts (byteArr ns) = ns := by
  unfold KBw.bInts byteArr
  rw [List.map_map]
  conv => rhs; rw [← List.map_id ns]
  refine List.map_congr_left fun n hn => ?_
  have := h n hn
  show ((n.toNat.toUInt8.toNat : Nat) : Int) = n
  exact byte_back this.1 this.2
noncomputable def swO (rs : List (List Int)) (wd i : Nat) : List Int := laidN ((rs.take i).map List.reverse) ++ List.replicate ((rs.length - i) * wd) 0
noncomputable def swC (rs : List (List Int)) (wd i j : Nat) : List Int := laidN ((rs.take i).map List.reverse) ++ ((List.replicate (wd - j) 0 ++ (((rs.getD i []).take j).map (48 + ·)).reverse) ++ List.replicate ((rs.length - i - 1) * wd) 0)
theorem laid_len {rs : List (List Int)} {wd : Nat} (h : ∀ r ∈ rs, r.length = wd) : (laidN rs).length = rs.length * wd := by
  unfold laidN; rw [List.length_map, flat_len h]
theorem laid_byte {rs : List (List Int)} (hd : ∀ r ∈ rs, Dg r) : ∀ n ∈ laidN rs, 0 ≤ n ∧ n < 256 := by
  intro n hn
  obtain ⟨d, hd1, rfl⟩ := List.mem_map.mp hn
  obtain ⟨ds, hds, hd2⟩ := List.mem_flatten.mp hd1
  have := hd ds hds d hd2
  exact om62 this
theorem swC_zero {rs : List (List Int)} {wd i : Nat} (hi : i < rs.length) : swC rs wd i 0 = swO rs wd i := by
  unfold swC swO
  rw [Nat.sub_zero, List.take_zero, List.map_nil, List.reverse_nil, List.append_nil, List.replicate_append_replicate]
  congr 2
  have : rs.length - i = (rs.length - i - 1) + 1 := by exact om278 hi
  rw [this, Nat.succ_mul]; simp; exact om83
theorem swC_full {rs : List (List Int)} {wd i : Nat} (hw : ∀ r ∈ rs, r.length = wd) (hi : i < rs.length) : swC rs wd i wd = swO rs wd (i + 1) := by
  have hr : rs[i]? = some rs[i] := List.getElem?_eq_getElem hi
  unfold swC swO
  rw [Nat.sub_self, List.replicate_zero, List.nil_append, ← List.append_assoc]
  congr 1
  · have hrl := hw _ (List.getElem_mem hi)
    rw [List.getD_eq_getElem?_getD, hr, Option.getD_some, List.take_of_length_le (Nat.le_of_eq hrl), take_succ' hr, List.map_append]
    unfold laidN
    rw [List.flatten_append, List.map_append]
    simp
theorem swC_step {rs : List (List Int)} {wd i j : Nat} {r : List Int} {d : Int} (hw : ∀ r ∈ rs, r.length = wd) (hr : rs[i]? = some r) (hj : r[j]? = some d) :
    (swC rs wd i j).set (i * wd + (wd - 1 - j)) (48 + d) = swC rs wd i (j + 1) := by
  have hi : i < rs.length := (List.getElem?_eq_some_iff.mp hr).1
  have hrl := hw r (List.mem_of_getElem? hr)
  have hjl : j < wd := by rw [← hrl]; exact (List.getElem?_eq_some_iff.mp hj).1
  have hl : (laidN ((rs.take i).map List.reverse)).length = i * wd := by
    rw [laid_len (wd := wd), List.length_map, List.length_take, Nat.min_eq_left (by exact om63 hi)]
    intro q hq
    obtain ⟨q', hq', rfl⟩ := List.mem_map.mp hq
    rw [List.length_reverse]; exact hw q' (List.mem_of_mem_take hq')
  unfold swC
  rw [List.getD_eq_getElem?_getD, hr, Option.getD_some, take_succ' hj]
  rw [List.set_append_right _ _ (by exact om279 hl), hl, Nat.add_sub_cancel_left]
  congr 1
  rw [List.set_append_left _ _ (by rw [List.length_append, List.length_replicate]; exact om280 hjl)]
  congr 1
  rw [List.set_append_left _ _ (by rw [List.length_replicate]; exact om281 hjl)]
  have e : wd - j = (wd - 1 - j) + 1 := by exact om282 hjl
  rw [e, List.replicate_succ', List.set_append_right _ _ (by rw [List.length_replicate]; exact om283), List.length_replicate, Nat.sub_self]
  have e2 : wd - (j + 1) = wd - 1 - j := by exact om284
  rw [e2]
  simp
theorem swC_len {rs : List (List Int)} {wd i j : Nat} (hw : ∀ r ∈ rs, r.length = wd) (hi : i < rs.length) (hj : j ≤ wd) : (swC rs wd i j).length = rs.length * wd := by
  have hr : rs[i]? = some rs[i] := List.getElem?_eq_getElem hi
  have hrl := hw rs[i] (List.getElem_mem hi)
  have hl : (laidN ((rs.take i).map List.reverse)).length = i * wd := by
    rw [laid_len (wd := wd), List.length_map, List.length_take, Nat.min_eq_left (by exact om63 hi)]
    intro q hq
    obtain ⟨q', hq', rfl⟩ := List.mem_map.mp hq
    rw [List.length_reverse]; exact hw q' (List.mem_of_mem_take hq')
  unfold swC
  rw [List.getD_eq_getElem?_getD, hr, Option.getD_some]
  simp only [List.length_append, hl, List.length_replicate, List.length_reverse, List.length_map, List.length_take, hrl]
  have e : rs.length = i + 1 + (rs.length - i - 1) := by exact om285 hi
  generalize rs.length - i - 1 = q at e ⊢
  rw [e, Nat.add_mul, Nat.add_mul, Nat.one_mul]
  exact om286
theorem flat_at {α : Type} {rs : List (List α)} {c : Nat} (h : ∀ r ∈ rs, r.length = c) {i j : Nat} {r : List α} {d : α} (hr : rs[i]? = some r) (hj : r[j]? = some d) : rs.flatten[i * c + j]? = some d := by
  have hc := flat_cut h hr
  have hjl : j < c := by rw [← h r (List.mem_of_getElem? hr)]; exact (List.getElem?_eq_some_iff.mp hj).1
  rw [← hc, List.getElem?_take_of_lt hjl, List.getElem?_drop] at hj
  exact hj
theorem byteswap_spec {w : World} {A : Around} {s : Shared} {Q E : Value → Shared → Prop} {tb tw : Tok} {rs : List (List Int)} {wd : Nat} (r : Rm A 2) (G : Gd w s.heap) (hd : ∀ r ∈ rs, Dg r) (hw : ∀ r ∈ rs, r.length = wd) (hw1 : 1 ≤ wd) (hw2 : wd ≤ 100) (hn : rs.length ≤ 100)
    (h : ∀ h' tk' t', Kp s.heap h' → Q (.bytes (byteArr (laidN (rs.map List.reverse))) t') {s with heap := h', toks := tk'}) :
    wpC (model P0 w) A (call (.ref 155) [.bytes (byteArr (laidN rs)) tb, .int wd tw]) Q E s := by
  have hlen := laid_len hw
  have hb := bInts_byteArr (laid_byte hd)
  have hlb : rs.length * wd ≤ 100 * 100 := Nat.mul_le_mul hn hw2
  refine enterW [("data", .bytes (byteArr (laidN rs)) tb), ("width", .int wd tw)] G r.room rfl rfl (BindsTo.of_eq rfl) (locs rfl) (by decide) rfl rfl rfl ?_
  intro L h₁ S
  try dsimp only
  refine wpC_execs_cons ?_
  refine wpC_Assign_Name ?_ (by with_unfolding_all rfl)
  refine wpC_Call ?_ (by with_unfolding_all rfl)
  walk_at "go"
  refine callWithC_type ?_ (by with_unfolding_all rfl) (by with_unfolding_all rfl)
  walk_at "go"
  refine KBw.len_K hb (by rw [hlen]; exact om35 hlb) ?_
  rw [hlen]
  walk_at "go"
  refine callBA S (by exact om64 hlb) ?_
  intro D h₂ S₂
  rw [← byteArr_zeros] at S₂
  walk_at "go"
  rename_i S₃
  refine wpC_of ?_
  walk_at "go"
  refine KBw.len_K hb (by rw [hlen]; exact om35 hlb) ?_
  rw [hlen]
  walk_at "go"
  refine callRange3 S₃ (by exact om28 hw1) (by exact om84 hw2) ?_
  intro R h₄ tk₄ S₄ hR
  refine iterRangeAny (O := [(D, baO (byteArr (List.replicate (rs.length * wd) 0)))]) [] rs.length r.hand hR (small_step (by exact om3) (by exact om85 hlb) (by exact om28 hw1) (by exact om86 hw2)) (rangeSize_mul hw1) S₄ ?_
  intro I o h₅ S₅ sr
  have h0 : List.replicate (rs.length * wd) 0 = swO rs wd 0 := by
    unfold swO; rw [List.take_zero, Nat.sub_zero]; rfl
  rw [h0] at S₅
  refine for_src (O := [(D, baO (byteArr (swO rs wd 0)))]) (X₀ := []) (X := [(I, o)]) (fun i C m O => O = [(D, baO (byteArr (swO rs wd i)))] ∧ m "swapped_data" = some (.ref D) ∧ m "data" = some (.bytes (byteArr (laidN rs)) tb) ∧ m "width" = some (.int wd tw)) sr rfl rfl rfl S₅ ⟨rfl, rfl, rfl, rfl⟩ ?_ ?_ (fun f s' q => q)
  · intro i v C h m O X tk hi hq50_ kC hq51_ S₆
    refine via fun M_ k_ => ?_
    obtain ⟨tk0, rfl⟩ := hq50_
    obtain ⟨rfl, hsw, hdat, hwid⟩ := hq51_
    refine k_ ?_
    clear k_ M_
    refine via fun M_ k_ => ?_
    obtain ⟨ds, hds⟩ : ∃ ds, rs[i]? = some ds := ⟨rs[i], List.getElem?_eq_getElem hi⟩
    refine k_ ?_
    clear k_ M_
    have hd1 := hd ds (List.mem_of_getElem? hds)
    have hl1 := hw ds (List.mem_of_getElem? hds)
    have GC := G.kp kC
    rw [← swC_zero hi] at S₆
    walk_at "go"
    refine callRange1 S₆ ?_
    intro R₂ h₇ tk₇ u₇ v₇ S₇ hR₂
    refine iterRange0 (O := [(D, baO (byteArr (swC rs wd i 0)))]) X r.hand hR₂ (by exact om29 hw2) S₇ ?_
    intro I₂ o₂ h₈ S₈ sr₂
    refine for_src (O := [(D, baO (byteArr (swC rs wd i 0)))]) (X₀ := X) (X := [(I₂, o₂)]) (fun j C m O => O = [(D, baO (byteArr (swC rs wd i j)))] ∧ m "swapped_data" = some (.ref D) ∧ m "data" = some (.bytes (byteArr (laidN rs)) tb) ∧ m "width" = some (.int wd tw) ∧ m "i" = some (.int (0 + (i : Int) * (wd : Int)) tk0)) sr₂ rfl rfl rfl S₈ ⟨rfl, ?_, ?_, ?_, ?_⟩ ?_ ?_ (fun f s' q => q)
    · walk_at "lk"
    · walk_at "lk"
    · walk_at "lk"
    · exact rfl
    · intro j v C' h m O X tk hj hq52_ kC' hq53_ S₉
      refine via fun M_ k_ => ?_
      obtain ⟨t, rfl⟩ := hq52_
      obtain ⟨rfl, hsw, hdat, hwid, hiv⟩ := hq53_
      refine k_ ?_
      clear k_ M_
      refine via fun M_ k_ => ?_
      obtain ⟨d, hdd⟩ : ∃ d, ds[j]? = some d := ⟨ds[j]'(by exact om1 hj hl1), List.getElem?_eq_getElem (by exact om1 hj hl1)⟩
      refine k_ ?_
      clear k_ M_
      have hd2 := hd1 d (List.mem_of_getElem? hdd)
      have GC' := GC.kp kC'
      have hle : i * wd + wd ≤ rs.length * wd := by rw [← Nat.succ_mul]; exact Nat.mul_le_mul_right _ hi
      have hij : i * wd + j < rs.length * wd := by exact om287 hle hj
      have e2 : ((i * wd + (wd - 1 - j) : Nat) : Int) = (i : Int) * (wd : Int) + (wd : Int) - 1 - (j : Int) := by rw [Int.natCast_add, Int.natCast_mul]; exact om288 hj
      have e1 : ((0 : Int) + (i : Int) * (wd : Int) + (j : Int)) = ((i * wd + j : Nat) : Int) := by push_cast; exact om289
      have hget : (laidN rs).getD (i * wd + j) 0 = 48 + d := by
        have := flat_at hw hds hdd
        unfold laidN
        rw [List.getD_eq_getElem?_getD, List.getElem?_map, this]; rfl
      walk_at "go"
      rw [e1]
      refine KBw.item_K hb (by rw [hlen]; exact om35 hlb) (by exact om290) (by rw [hlen]; exact om291 hij) ?_ (by with_unfolding_all rfl) (by intro _; with_unfolding_all rfl)
      intro t' k' _ _
      rw [Int.toNat_natCast, hget]
      walk_at "go"
      refine setBA (O₁ := []) (j := i * wd + (wd - 1 - j)) S₉ (by rw [e2]; exact om292) ?_ ?_ (by exact om62 hd2) ?_
      · rw [byteArr_size, swC_len hw hi (by omega)]; omega
      · rw [byteArr_size, swC_len hw hi (by omega)]; exact om64 hlb
      · intro h₁₀ S₁₀
        rw [← byteArr_set, swC_step hw hds hdd] at S₁₀
        walk_at "go"
        refine turn_next (kp_refl _) (O' := [(D, _)]) S₁₀ ⟨rfl, ?_, ?_, ?_, ?_⟩
        · walk_at "lk"
        · walk_at "lk"
        · walk_at "lk"
        · walk_at "lk"
    · intro C' h₁₀ m' O tk kC' hq54_ S₉
      refine via fun M_ k_ => ?_
      obtain ⟨rfl, hsw, hdat, hwid, hiv⟩ := hq54_
      refine k_ ?_
      clear k_ M_
      rw [swC_full hw hi] at S₉
      walk_at "go"
      exact turn_next kC' (O' := [(D, _)]) S₉ ⟨rfl, hsw, hdat, hwid⟩
  · intro C h₉ m O tk kC hq55_ S₆
    refine via fun M_ k_ => ?_
    obtain ⟨rfl, hsw, hdat, hwid⟩ := hq55_
    refine k_ ?_
    clear k_ M_
    have GC := G.kp kC
    have e : swO rs wd rs.length = laidN (rs.map List.reverse) := by
      unfold swO; rw [List.take_length, Nat.sub_self, Nat.zero_mul]; simp
    rw [e] at S₆
    walk_at "go"
    refine callBytesBA (S₆.get (.head _)) ?_ ?_
    · rw [byteArr_size, laid_len (wd := wd), List.length_map]
      · exact om64 hlb
      · intro q hq
        refine via fun M_ k_ => ?_
        obtain ⟨q', hq', rfl⟩ := List.mem_map.mp hq
        refine k_ ?_
        clear k_ M_
        rw [List.length_reverse]; exact hw q' hq'
    · intro t k
      walk_at "go"
      exact h _ _ _ (kC.trans S₆.kp)
structure Best (L : Nat → Nat → Nat) (n : Nat) (I : List Nat) (k m : Nat) : Prop where
  lt : k < n
  out : k ∉ I
  att : ∃ j ∈ I, L j k = m
  best : ∀ j ∈ I, ∀ k', k' < n → k' ∉ I → L j k' < m ∨ (L j k' = m ∧ k ≤ k')
theorem Best.uniq {L : Nat → Nat → Nat} {n : Nat} {I : List Nat} {k m k' m' : Nat} (a : Best L n I k m) (b : Best L n I k' m') : k = k' ∧ m = m' := by
  obtain ⟨j, hj, e⟩ := a.att
  obtain ⟨j', hj', e'⟩ := b.att
  have h1 := b.best j hj k a.lt a.out
  have h2 := a.best j' hj' k' b.lt b.out
  exact om393 h1 h2 e e'
noncomputable def NetOk (L : Nat → Nat → Nat) (n : Nat) : List Nat → List (Nat × Nat) → Prop
  | _, [] => True
  | I, p :: ts => Best L n I p.1 p.2 ∧ NetOk L n (I ++ [p.1]) ts
theorem NetOk.uniq {L : Nat → Nat → Nat} {n : Nat} : ∀ {I : List Nat} {ts us : List (Nat × Nat)}, NetOk L n I ts → NetOk L n I us → ts.length = us.length → ts = us
  | _, [], [], _, _, _ => rfl
  | _, [], _ :: _, _, _, h => by simp at h
  | _, _ :: _, [], _, _, h => by simp at h
  | I, (k, m) :: ts, (k', m') :: us, a, b, h => by
    obtain ⟨e1, e2⟩ := a.1.uniq b.1
    simp only at e1 e2
    subst e1; subst e2
    rw [NetOk.uniq a.2 b.2 (by simpa using h)]
theorem NetOk.snoc {L : Nat → Nat → Nat} {n : Nat} {k m : Nat} : ∀ {I : List Nat} {ts : List (Nat × Nat)}, NetOk L n I ts → Best L n (I ++ ts.map (·.1)) k m → NetOk L n I (ts ++ [(k, m)])
  | I, [], _, b => by
    rw [List.map_nil, List.append_nil] at b
    exact ⟨b, trivial⟩
  | I, p :: ts, a, b => by
    refine ⟨a.1, NetOk.snoc a.2 ?_⟩
    rw [List.map_cons] at b
    rw [List.append_assoc]; exact b
theorem pigeon : ∀ (n : Nat) (I : List Nat), (∀ k, k < n → k ∈ I) → n ≤ I.length
  | 0, _, _ => Nat.zero_le _
  | n + 1, I, h => by
    have hn := h n (Nat.lt_succ_self n)
    have := pigeon n (I.erase n) fun k hk => (List.mem_erase_of_ne (by exact om394 hk)).mpr (h k (by exact om2 hk))
    rw [List.length_erase_of_mem hn] at this
    have : 0 < I.length := List.length_pos_of_mem hn
    exact om395 this (by assumption)
theorem outside {n : Nat} {I : List Nat} (h : I.length < n) : ∃ k, k < n ∧ k ∉ I := by
  false_or_by_contra
  rename_i hc
  have := pigeon n I fun k hk => by
    false_or_by_contra
    rename_i hk'
    exact hc ⟨k, hk, hk'⟩
  exact om396 h this
noncomputable def rowAt (rs : List (List Int)) (j : Nat) : List Int := rs.getD j []
noncomputable def lcpL (rs : List (List Int)) (j k : Nat) : Nat := (lcp (rowAt rs j) (rowAt rs k)).length
noncomputable def keyN (rs : List (List Int)) (j k : Nat) : Int × Int × Str :=
  (-((textS (lcp (rowAt rs j) (rowAt rs k))).length : Int), (k : Int), textS (lcp (rowAt rs j) (rowAt rs k)))
theorem lenT_mono {a b : List Int} (h : (textS a).length ≤ (textS b).length) : a.length ≤ b.length := by
  rw [textS_len, textS_len] at h
  cases a <;> cases b <;> simp at h ⊢ <;> (first | exact om397 h | exact om398 h)
theorem lenT_lt {a b : List Int} (h : (textS a).length < (textS b).length) : a.length < b.length := by
  rw [textS_len, textS_len] at h
  cases a <;> cases b <;> simp at h ⊢ <;> exact om27 h
theorem key_best {rs : List (List Int)} {j k j' k' : Nat} (h : lt3 (keyN rs j' k') (keyN rs j k) = false) : lcpL rs j' k' < lcpL rs j k ∨ (lcpL rs j' k' = lcpL rs j k ∧ k ≤ k') := by
  rw [bfalse (lt3_iff _ _)] at h
  unfold keyN at h
  simp only at h
  have h1 : ¬ (-((textS (lcp (rowAt rs j') (rowAt rs k'))).length : Int) < -((textS (lcp (rowAt rs j) (rowAt rs k))).length : Int)) := fun z => h (.inl z)
  have h2 : (textS (lcp (rowAt rs j') (rowAt rs k'))).length ≤ (textS (lcp (rowAt rs j) (rowAt rs k))).length := by exact om399 h
  rcases Nat.lt_or_eq_of_le h2 with z | z
  · exact .inl (lenT_lt z)
  · refine .inr ⟨Nat.le_antisymm (lenT_mono (Nat.le_of_eq z)) (lenT_mono (Nat.le_of_eq z.symm)), ?_⟩
    by_cases hk : k' < k
    · exact absurd (.inr ⟨by exact om400 z, .inl (by exact om401 hk)⟩) h
    · exact om31 hk
theorem keyN_k {rs : List (List Int)} {j k j' k' : Nat} (h : keyN rs j k = keyN rs j' k') : k = k' := by
  have := congrArg (fun p => p.2.1) h
  unfold keyN at this
  simp only at this
  exact om4 this
structure HpOk (rs : List (List Int)) (I : List Nat) (ks : List (Int × Int × Str)) : Prop where
  hp : IsHp lt3 ks
  frm : ∀ q ∈ ks, ∃ j ∈ I, ∃ k, k < rs.length ∧ q = keyN rs j k
theorem lt3_irr (a : Int × Int × Str) : lt3 a a = false := by
  cases q : lt3 a a with
  | false => rfl
  | true => have := so3.asym _ _ q; rw [q] at this; exact this
theorem HpOk.push {rs : List (List Int)} {I : List Nat} {ks : List (Int × Int × Str)} (h : HpOk rs I ks) {j k : Nat} (hj : j ∈ I) (hk : k < rs.length) :
    HpOk rs I (push lt3 ks (keyN rs j k)) ∧ (∀ q ∈ ks, q ∈ push lt3 ks (keyN rs j k)) ∧ keyN rs j k ∈ push lt3 ks (keyN rs j k) := by
  obtain ⟨a, b⟩ := push_ok so3 h.hp (keyN rs j k)
  refine ⟨⟨a, fun q hq => ?_⟩, fun q hq => b.symm.subset (List.mem_append_left _ hq), b.symm.subset (by simp)⟩
  rcases List.mem_append.mp (b.subset hq) with hq | hq
  · exact h.frm q hq
  · rw [List.mem_singleton.mp hq]; exact ⟨j, hj, k, hk, rfl⟩
theorem HpOk.pop {rs : List (List Int)} {I : List Nat} {k0 : Int × Int × Str} {ks : List (Int × Int × Str)} (h : HpOk rs I (k0 :: ks)) :
    HpOk rs I (popRest lt3 (k0 :: ks)) ∧ (∀ q ∈ k0 :: ks, q = k0 ∨ q ∈ popRest lt3 (k0 :: ks)) ∧ (∀ q ∈ popRest lt3 (k0 :: ks), lt3 q k0 = false) ∧ (popRest lt3 (k0 :: ks)).length = ks.length ∧ (∃ j ∈ I, ∃ k, k < rs.length ∧ k0 = keyN rs j k) := by
  obtain ⟨a, b⟩ := popRest_ok so3 h.hp
  have sub : ∀ q ∈ popRest lt3 (k0 :: ks), q ∈ k0 :: ks := fun q hq => b.subset (List.mem_cons_of_mem _ hq)
  refine ⟨⟨a, fun q hq => h.frm q (sub q hq)⟩, fun q hq => List.mem_cons.mp (b.symm.subset hq), fun q hq => ?_, ?_, h.frm k0 List.mem_cons_self⟩
  · obtain ⟨i, hi⟩ := List.getElem?_of_mem (sub q hq)
    exact hp_min so3 h.hp (lt3_irr k0) i q hi
  · have := b.length_eq
    simp at this; exact this
theorem HpOk.sub {rs : List (List Int)} {I I' : List Nat} {ks : List (Int × Int × Str)} (h : HpOk rs I ks) (hI : ∀ j ∈ I, j ∈ I') : HpOk rs I' ks :=
  ⟨h.hp, fun q hq => let ⟨j, hj, k, hk, e⟩ := h.frm q hq; ⟨j, hI j hj, k, hk, e⟩⟩
noncomputable def RTN (h : Heap) (v : Value) (p : Nat × Str) : Prop := ∃ a t u, v = .ref a ∧ h.get? a = some (tobj [.int (p.1 : Int) t, .str p.2 u])
theorem RTN.kp {h h' : Heap} {v : Value} {p : Nat × Str} (x : RTN h v p) (k : Kp h h') : RTN h' v p := let ⟨a, t, u, e, q⟩ := x; ⟨a, t, u, e, k _ _ q⟩
noncomputable def TLN (h : Heap) (a : Addr) (ps : List (Nat × Str)) : Prop := ∃ vs e, h.get? a = some (lobj vs e) ∧ Paired (RTN h) vs ps
noncomputable def netT (rs : List (List Int)) (ts : List (Nat × Nat)) : List (Nat × Str) := ts.map fun p => (p.1, textS ((rowAt rs p.1).take p.2))
theorem any_mem (I : List Nat) (k : Nat) : ((I.map fun (x : Nat) => (x : Int)).any (· == (k : Int))) = decide (k ∈ I) := by
  rw [List.any_map]
  by_cases h : k ∈ I
  · rw [decide_eq_true h, List.any_eq_true]
    exact ⟨k, h, by simp⟩
  · rw [decide_eq_false h, List.any_eq_false]
    intro x hx e
    have : (x : Int) = (k : Int) := by simpa using e
    exact h (by have : x = k := by exact om4 this
                rw [← this]; exact hx)
theorem rowAt_get {rs : List (List Int)} {j : Nat} (h : j < rs.length) : rs[j]? = some (rowAt rs j) := by
  unfold rowAt; rw [List.getD_eq_getElem?_getD, List.getElem?_eq_getElem h]; rfl
noncomputable def insI (ts : List (Nat × Nat)) : List Nat := 0 :: ts.map (·.1)
noncomputable def insZ (ts : List (Nat × Nat)) : List Int := (insI ts).map fun (x : Nat) => (x : Int)
theorem insI_len (ts : List (Nat × Nat)) : (insI ts).length = ts.length + 1 := by simp [insI]
theorem insI_snoc (ts : List (Nat × Nat)) (k m : Nat) : insI (ts ++ [(k, m)]) = insI ts ++ [k] := by simp [insI]
theorem netT_snoc (rs : List (List Int)) (ts : List (Nat × Nat)) (k m : Nat) : netT rs (ts ++ [(k, m)]) = netT rs ts ++ [(k, textS ((rowAt rs k).take m))] := by simp [netT]
inductive NetI (rs : List (List Int)) (a N H D : Addr) (k : Nat) (C : Heap) (m : Str → Option Value) (O : Led) : Prop
  | mk : ∀ ts ivs e1 hv e2 ks dv e3 P l, O = [(D, lobj dv e3), (H, lobj hv e2), (N, lobj ivs e1)] → m "ways" = some (.ref a) → m "inside" = some (.ref N) → m "heap" = some (.ref H) → m "said" = some (.ref D) → Paired VI ivs (insZ ts) → Paired (RT3 C) hv ks → Paired (RTN C) dv (netT rs ts) → NetOk (lcpL rs) rs.length [0] ts → HpOk rs (insI ts) ks → insI ts = P ++ [l] → l < rs.length → (∀ j ∈ P, ∀ k', k' < rs.length → k' ∉ insI ts → keyN rs j k' ∈ ks) → k + ts.length + 1 = rs.length → ks.length ≤ ts.length * 100 → NetI rs a N H D k C m O
inductive NetF (rs : List (List Int)) (ts : List (Nat × Nat)) (ks : List (Int × Int × Str)) (l : Nat) (dv : List Value) (e3 : Nat) (ivs : List Value) (e1 : Nat) (a N H D : Addr) (i : Nat) (C : Heap) (m : Str → Option Value) (O : Led) : Prop
  | mk : ∀ hv e2 ks', O = [(D, lobj dv e3), (H, lobj hv e2), (N, lobj ivs e1)] → m "ways" = some (.ref a) → m "inside" = some (.ref N) → m "heap" = some (.ref H) → m "said" = some (.ref D) → Paired (RT3 C) hv ks' → HpOk rs (insI ts) ks' → (∀ q ∈ ks, q ∈ ks') → (∀ k', k' < i → k' ∉ insI ts → keyN rs l k' ∈ ks') → ks'.length ≤ ks.length + i → NetF rs ts ks l dv e3 ivs e1 a N H D i C m O
inductive NetW (rs : List (List Int)) (ts : List (Nat × Nat)) (dv : List Value) (e3 : Nat) (ivs : List Value) (e1 : Nat) (a N H D : Addr) (k : Nat) (C : Heap) (m : Str → Option Value) (O : Led) : Prop
  | mk : ∀ hv e2 ks j c v0, O = [(D, lobj dv e3), (H, lobj hv e2), (N, lobj ivs e1)] → m "ways" = some (.ref a) → m "inside" = some (.ref N) → m "heap" = some (.ref H) → m "said" = some (.ref D) → m "step" = some v0 → RT3 C v0 (keyN rs j c) → j ∈ insI ts → c < rs.length → Paired (RT3 C) hv ks → HpOk rs (insI ts) ks → (∀ j' ∈ insI ts, ∀ k', k' < rs.length → k' ∉ insI ts → keyN rs j' k' = keyN rs j c ∨ keyN rs j' k' ∈ ks) → (∀ q ∈ ks, lt3 q (keyN rs j c) = false) → ks.length = k → k ≤ ts.length * 100 + 100 → NetW rs ts dv e3 ivs e1 a N H D k C m O
inductive NetQ (s : Shared) (rs : List (List Int)) (L D : Addr) (f : Flow) (s' : Shared) : Prop
  | mk : f = .next → ∀ h' tk C m ts dv e3 O', s' = { s with heap := h', toks := tk } → Kp s.heap C → St C L h' m ((D, lobj dv e3) :: O') → m "said" = some (.ref D) → Paired (RTN C) dv (netT rs ts) → NetOk (lcpL rs) rs.length [0] ts → ts.length + 1 = rs.length → NetQ s rs L D f s'
inductive NetX (s : Shared) (C' : Heap) (rs : List (List Int)) (ts : List (Nat × Nat)) (dv : List Value) (e3 : Nat) (ivs : List Value) (e1 : Nat) (L a N H D : Addr) (f : Flow) (s' : Shared) : Prop
  | mk : f = .next → ∀ h' tk C m hv e2 ks j c v0, s' = { s with heap := h', toks := tk } → Kp C' C → St C L h' m [(D, lobj dv e3), (H, lobj hv e2), (N, lobj ivs e1)] → m "ways" = some (.ref a) → m "inside" = some (.ref N) → m "heap" = some (.ref H) → m "said" = some (.ref D) → m "step" = some v0 → RT3 C v0 (keyN rs j c) → j ∈ insI ts → c < rs.length → Paired (RT3 C) hv ks → HpOk rs (insI ts) ks → (∀ j' ∈ insI ts, ∀ k', k' < rs.length → k' ∉ insI ts → keyN rs j' k' = keyN rs j c ∨ keyN rs j' k' ∈ ks) → (∀ q ∈ ks, lt3 q (keyN rs j c) = false) → ks.length ≤ ts.length * 100 + 100 → c ∉ insI ts → NetX s C' rs ts dv e3 ivs e1 L a N H D f s'
theorem net_spec {w : World} {A : Around} {s : Shared} {Q E : Value → Shared → Prop} {a : Addr} {rs : List (List Int)} {wd : Nat} (r : Rm A 10) (G : Gd w s.heap) (ha : SL s.heap a (rs.map textS)) (hne : rs ≠ []) (hw : ∀ r ∈ rs, r.length = wd) (hw1 : 1 ≤ wd) (hw2 : wd ≤ 100) (hd : ∀ r ∈ rs, Dg r) (hn : rs.length ≤ 100)
    (h : ∀ D h' tk' ts, Kp s.heap h' → NetOk (lcpL rs) rs.length [0] ts → ts.length + 1 = rs.length → TLN h' D (netT rs ts) → Q (.ref D) {s with heap := h', toks := tk'}) :
    wpAny (model P0 w) A (call (.ref 191) [.ref a]) Q E s := by
  refine enter [("ways", .ref a)] G r.room rfl rfl (BindsTo.of_eq rfl) (locs rfl) (by decide) rfl rfl rfl ?_
  intro L h₁ S
  try dsimp only
  refine via fun M_ k_ => ?_
  obtain ⟨vs, e, hva, hP⟩ := ha
  refine k_ ?_
  clear k_ M_
  have hvl : vs.length = rs.length := by rw [hP.length, List.length_map]
  have hrp : 0 < rs.length := List.length_pos_iff.mpr hne
  walk_at "go"
  refine newL S (by walk_at "sz") ?_
  intro N h₂ S₂
  walk_at "go"
  refine newL (by assumption) (by decide) ?_
  intro H h₃ S₃
  walk_at "go"
  refine newL (by assumption) (by decide) ?_
  intro D h₄ S₄
  walk_at "go"
  rename_i h₅ S₅
  refine while_inv (X := []) (NetI rs a N H D)
    (Q := (NetQ s rs L D))
    (rs.length - 1) rfl (by rw [List.append_nil]; exact S₅)
    ⟨[], _, 0, [], 0, [], [], 0, [], 0, rfl, rfl, rfl, rfl, rfl, .cons ⟨_, rfl⟩ .nil, .nil, .nil, trivial, ⟨fun i x y _ hx => by simp at hx, fun q hq => by cases hq⟩, rfl, hrp, fun j hj => (by cases hj), by simp; exact om139 hrp, by simp⟩ ?_ ?_
  · intro kk C h m O tk kC hq56_ S₆
    refine via fun M_ k_ => ?_
    obtain ⟨ts, ivs, e1, hv, e2, ks, dv, e3, P, l, rfl, m1, m2, m3, m4, hiv, hhv, hdv, hok, hhp, hIl, hln, hold, hlen, hkl⟩ := hq56_
    refine k_ ?_
    clear k_ M_
    rw [List.append_nil] at S₆
    have GC := G.kp kC
    have hil : ivs.length = ts.length + 1 := by rw [hiv.length]; unfold insZ; rw [List.length_map, insI_len]
    walk_at "go"
    refine lenL (isL (S₆.get (.tail _ (.tail _ (.head _))))) (by rw [List.size_toArray]; exact om140 hlen hil hn) ?_
    intro t₇ tk₇
    walk_at "go"
    refine lenL (isL (S₆.kp _ _ (kC _ _ hva))) (by rw [List.size_toArray]; exact om24 hvl hn) ?_
    intro t₈ tk₈
    walk_at "go"
    rw [List.size_toArray, List.size_toArray, hil, hvl]
    refine split_dec (fun hlt => ?_) (fun hlt => ?_)
    · refine via fun M_ k_ => ?_
      obtain ⟨tl, hlast⟩ : ∃ tl, ivs[ivs.length - 1]? = some (.int (l : Int) tl) := by
        have e : (insZ ts)[ivs.length - 1]? = some (l : Int) := by
          unfold insZ
          rw [hIl, List.map_append, hil]
          have : P.length + 1 = ts.length + 1 := by rw [← insI_len, hIl]; simp
          rw [List.getElem?_append_right (by rw [List.length_map]; exact om363 this), List.length_map]
          have : ts.length + 1 - 1 - P.length = 0 := by exact om364 this
          rw [this]; rfl
        obtain ⟨v, hv1, t, rfl⟩ := paired_get hiv e
        exact ⟨t, hv1⟩
      refine k_ ?_
      clear k_ M_
      have getW : ∀ {j : Nat}, j < rs.length → ∃ t, vs[j]? = some (.str (textS (rowAt rs j)) t) := fun {j} hj => by
        refine via fun M_ k_ => ?_
        obtain ⟨v, hv1, t, rfl⟩ := paired_get hP (show (rs.map textS)[j]? = some (textS (rowAt rs j)) by rw [List.getElem?_map, rowAt_get hj]; rfl)
        refine k_ ?_
        clear k_ M_
        exact ⟨t, hv1⟩
      walk_at "go"
      refine lenL (isL (S₆.kp _ _ (kC _ _ hva))) (by rw [List.size_toArray]; exact om24 hvl hn) ?_
      intro t₉ tk₉
      rw [List.size_toArray, hvl]
      walk_at "go"
      refine callRange1 S₆ ?_
      intro R h₇ tk₇ u v S₇ hR
      refine iterRange0 (O := [(D, lobj dv e3), (H, lobj hv e2), (N, lobj ivs e1)]) [] r.hand hR (by exact om29 hn) S₇ ?_
      intro I o h₈ S₈ sr
      refine for_src (O := [(D, lobj dv e3), (H, lobj hv e2), (N, lobj ivs e1)]) (X₀ := []) (X := [(I, o)]) (NetF rs ts ks l dv e3 ivs e1 a N H D) sr rfl rfl rfl S₈ ⟨hv, e2, ks, rfl, m1, m2, m3, m4, hhv, hhp, fun _ h => h, fun k' h => by exact om141 h, by exact om365⟩ ?_ ?_ (fun f s' q => q)
      · intro i v C' h m' O X tk hi hq57_ kC' hq58_ S₉
        refine via fun M_ k_ => ?_
        obtain ⟨t, rfl⟩ := hq57_
        obtain ⟨hv', e2', ks', rfl, n1, n2, n3, n4, hhv', hhp', hsub, hnew, hkl'⟩ := hq58_
        refine k_ ?_
        clear k_ M_
        have GC' := GC.kp kC'
        walk_at "go"
        refine notin_list_ints (isL (S₉.get (.tail _ (.tail _ (.head _))))) (intsAre_of hiv) ?_
        rw [show (insZ ts).any (· == (i : Int)) = decide (i ∈ insI ts) from any_mem _ _]
        by_cases hin : i ∈ insI ts
        · rw [decide_eq_true hin]
          walk_at "go"
          refine turn_next (kp_refl _) (O' := [(D, lobj dv e3), (H, lobj hv' e2'), (N, lobj ivs e1)]) S₉ ⟨hv', e2', ks', rfl, ?_, ?_, ?_, ?_, hhv', hhp', hsub, fun k' h1 h2 => ?_, by exact om366 hkl'⟩
          · walk_at "lk"
          · walk_at "lk"
          · walk_at "lk"
          · walk_at "lk"
          · rcases Nat.lt_succ_iff_lt_or_eq.mp h1 with h1 | h1
            · exact hnew k' h1 h2
            · exact absurd (h1 ▸ hin) h2
        · rw [decide_eq_false hin]
          walk_at "go"
          refine negI ?_
          walk_at "go"
          refine itemLn (isL (S₉.get (.tail _ (.tail _ (.head _))))) (by exact om367) (by rw [List.size_toArray]; exact om368 hil) (by exact om369) (v := .int (l : Int) tl) ?_ (by with_unfolding_all rfl) ?_
          · have e : ((-1 : Int) + (ivs.toArray.size : Nat)).toNat = ivs.length - 1 := by rw [List.size_toArray]; exact om370
            rw [e]; simpa using hlast
          refine via fun M_ k_ => ?_
          obtain ⟨tl', htl⟩ := getW hln
          refine k_ ?_
          clear k_ M_
          refine via fun M_ k_ => ?_
          obtain ⟨ti', hti⟩ := getW hi
          refine k_ ?_
          clear k_ M_
          refine itemL (isL (S₉.kp _ _ (kC' _ _ (kC _ _ hva)))) (j := l) rfl (by exact om13 hln hn) (by simpa using htl) (by with_unfolding_all rfl) ?_
          walk_at "go"
          refine itemL (isL (S₉.kp _ _ (kC' _ _ (kC _ _ hva)))) (j := i) rfl (by exact om13 hi hn) (by simpa using hti) (by with_unfolding_all rfl) ?_
          walk_at "go"
          refine newL S₉ (by walk_at "sz") ?_
          intro Lt h₁₀ S₁₀
          walk_at "go"
          have mem_l := List.mem_of_getElem? (rowAt_get hln)
          have mem_i := List.mem_of_getElem? (rowAt_get hi)
          have two : ∀ {p : List Int → Prop}, (∀ r ∈ rs, p r) → ∀ r ∈ [rowAt rs l, rowAt rs i], p r := fun {p} hp r hr => by
            rcases List.mem_cons.mp hr with rfl | hr
            · exact hp _ mem_l
            · rw [List.mem_singleton.mp hr]; exact hp _ mem_i
          have R2 : Rows [rowAt rs l, rowAt rs i] wd := ⟨by simp, two hw, two hd⟩
          refine commonpath_spec (rs := [rowAt rs l, rowAt rs i]) (wd := wd) (cp := lcp (rowAt rs l) (rowAt rs i)) (r.deep _) (inG GC' S₁₀) ⟨_, _, S₁₀.get (.head _), .cons ⟨_, rfl⟩ (.cons ⟨_, rfl⟩ .nil)⟩ (by simp) (two hw) hw1 hw2 (two hd) (by simp) (cpR_two R2).symm ?_
          intro h₁₁ tk₁₁ t₁₁ k₁₁
          have S₁₁ := S₁₀.keep k₁₁
          clear S₁₀ S₉
          walk_at "go"
          have htl : (textS (lcp (rowAt rs l) (rowAt rs i))).length ≤ 1000 := by
            rw [textS_len]
            have := (lcp_le (rowAt rs l) (rowAt rs i)).1
            have := hw _ mem_l
            split <;> (first | exact om371 | exact om372 this hw2 (by assumption))
          refine PySem.P.len_str (by exact om373 htl) ?_
          refine negI ?_
          walk_at "go"
          refine newT (by assumption) (by walk_at "sz") ?_
          intro T h₁₂ S₁₂
          walk_at "go"
          refine via fun M_ k_ => ?_
          obtain ⟨C₂, kC₂, kCh₂, hC₂, hO₂, S₁₃⟩ := St.freeze (O₁ := [(T, _), (Lt, _)]) (O₂ := [(D, lobj dv e3), (H, lobj hv' e2'), (N, lobj ivs e1)] ++ X) S₁₂
          refine k_ ?_
          clear k_ M_
          have hH := S₁₃.nw (H, lobj hv' e2') (by simp)
          refine heappush_spec (cmp3 w) (x := keyN rs l i) (r.less (k := 3) (by exact om374) |>.deep _) (GC'.kp kC₂) kCh₂ hH.2.2 hH.1 (hhv'.mono fun _ _ z => (cmp3 w).mono kC₂ z) ⟨T, _, _, _, rfl, hO₂ _ (.head _)⟩ (by rw [hhv'.length]; exact om375 hlt hi hn hkl hkl') ?_
          intro h₁₄ tk₁₄ items' e₄ k₁₄ hH₁₄ hP₁₄
          have S₁₄ := St.but (O₁ := [(D, lobj dv e3)]) S₁₃ k₁₄ hH₁₄
          walk_at "go"
          have ps := hhp'.push (j := l) (k := i) (by rw [hIl]; simp) hi
          refine turn_next kC₂ (O' := [(D, lobj dv e3), (H, _), (N, lobj ivs e1)]) S₁₄ ⟨_, _, _, rfl, ?_, ?_, ?_, ?_, hP₁₄, ps.1, fun q hq => ps.2.1 q (hsub q hq), fun k' h1 h2 => ?_, ?_⟩
          · walk_at "lk"
          · walk_at "lk"
          · walk_at "lk"
          · walk_at "lk"
          · rcases Nat.lt_succ_iff_lt_or_eq.mp h1 with h1 | h1
            · exact ps.2.1 _ (hnew k' h1 h2)
            · subst h1; exact ps.2.2
          · have := (push_ok so3 hhp'.hp (keyN rs l i)).2.length_eq
            rw [List.length_append, List.length_singleton] at this
            exact om376 this hkl'
      · intro C' h₉ m' O tk kC' hq59_ S₉
        refine via fun M_ k_ => ?_
        obtain ⟨hv', e2', ks', rfl, n1, n2, n3, n4, hhv', hhp', hsub, hnew, hkl'⟩ := hq59_
        refine k_ ?_
        clear k_ M_
        rw [List.append_nil] at S₉
        have GC' := GC.kp kC'
        refine via fun M_ k_ => ?_
        obtain ⟨k1, hk1, hk1'⟩ := outside (n := rs.length) (I := insI ts) (by rw [insI_len]; exact om146 hlt)
        refine k_ ?_
        clear k_ M_
        have hall : ∀ j ∈ insI ts, ∀ k', k' < rs.length → k' ∉ insI ts → keyN rs j k' ∈ ks' := fun j hj k' h1 h2 => by
          rw [hIl] at hj
          rcases List.mem_append.mp hj with hj | hj
          · exact hsub _ (hold j hj k' h1 h2)
          · rw [List.mem_singleton.mp hj]; exact hnew k' h1 h2
        have hlI : l ∈ insI ts := by rw [hIl]; simp
        have hk10 := hall l hlI k1 hk1 hk1'
        cases ks' with
        | nil => cases hk10
        | cons q0 kr =>
        have po := hhp'.pop
        refine via fun M_ k_ => ?_
        obtain ⟨j0, hj0, c0, hc0, rfl⟩ := po.2.2.2.2
        refine k_ ?_
        clear k_ M_
        walk_at "go"
        have hH := S₉.nw (H, lobj hv' e2') (by simp)
        refine heappop_spec (cmp3 w) (r.less (k := 4) (by exact om151) |>.deep _) GC' S₉.kp hH.2.2 hH.1 hhv' (by rw [hhv'.length]; exact om377 hlt hn hkl hkl') ?_
        intro h₁₀ tk₁₀ items' e₄ v0 k₁₀ hH₁₀ hP₁₀ hv0
        have S₁₀ := St.but (O₁ := [(D, lobj dv e3)]) S₉ k₁₀ hH₁₀
        clear S₉
        walk_at "go"
        rename_i h₁₁ S₁₁
        refine while_inv (X := []) (NetW rs ts dv e3 ivs e1 a N H D)
          (Q := (NetX s C' rs ts dv e3 ivs e1 L a N H D))
          _ rfl (by rw [List.append_nil]; exact S₁₁)
          ⟨items', e₄, _, j0, c0, v0, rfl, ?a1, ?a2, ?a3, ?a4, ?a5, hv0, hj0, hc0, hP₁₀, po.1, fun j' hj' k' h1 h2 => po.2.1 _ (hall j' hj' k' h1 h2), po.2.2.1, rfl, ?a6⟩ ?_ ?_
        case a1 => walk_at "lk"
        case a2 => walk_at "lk"
        case a3 => walk_at "lk"
        case a4 => walk_at "lk"
        case a5 => exact rfl
        case a6 =>
          have := po.2.2.2.1
          simp only [List.length_cons] at hkl'
          exact om378 hkl' hn hkl po
        · intro k C'' h m O tk kC'' hq60_ S₁₂
          refine via fun M_ k_ => ?_
          obtain ⟨hv, e2, ks, j, c, v0, rfl, n1, n2, n3, n4, n5, ⟨T0, ta, tb, tc, rfl, hT0⟩, hj, hc, hhv, hhp, hal, hmin, rfl, hkb⟩ := hq60_
          refine k_ ?_
          clear k_ M_
          rw [List.append_nil] at S₁₂
          have GC'' := GC'.kp kC''
          walk_at "go"
          refine itemT (isT (S₁₂.kp _ _ hT0)) (j := 1) rfl (by exact om72) rfl (by with_unfolding_all rfl) ?_
          walk_at "go"
          refine in_list_ints (isL (S₁₂.get (.tail _ (.tail _ (.head _))))) (intsAre_of hiv) ?_
          rw [show (insZ ts).any (· == (keyN rs j c).2.1) = decide (c ∈ insI ts) from any_mem _ _]
          walk_at "go"
          by_cases hin : c ∈ insI ts
          · rw [decide_eq_true hin]
            have hk2 : keyN rs l k1 ∈ ks := (hal l hlI k1 hk1 hk1').resolve_left fun z => hk1' (keyN_k z ▸ hin)
            cases ks with
            | nil => cases hk2
            | cons q1 kr1 =>
            have po := hhp.pop
            refine via fun M_ k_ => ?_
            obtain ⟨j1, hj1, c1, hc1, rfl⟩ := po.2.2.2.2
            refine k_ ?_
            clear k_ M_
            walk_at "go"
            have hH := S₁₂.nw (H, lobj hv e2) (by simp)
            refine heappop_spec (cmp3 w) (r.less (k := 4) (by exact om151) |>.deep _) GC'' S₁₂.kp hH.2.2 hH.1 hhv (by rw [hhv.length]; exact om379 hlt hkb hn) ?_
            intro h₁₃ tk₁₃ items2 e₅ v1 k₁₃ hH₁₃ hP₁₃ hv1
            have S₁₃ := St.but (O₁ := [(D, lobj dv e3)]) S₁₂ k₁₃ hH₁₃
            clear S₁₂
            walk_at "go"
            rename_i h₁₄ S₁₄
            refine turn_next (kp_refl _) (O' := [(D, lobj dv e3), (H, _), (N, lobj ivs e1)]) (by rw [List.append_nil]; exact S₁₄) ⟨_, ?b6, _, _, _, j1, c1, v1, rfl, ?b1, ?b2, ?b3, ?b4, ?b5, hv1, hj1, hc1, hP₁₃, po.1, fun j' hj' k' h1 h2 => ?b7, po.2.2.1, rfl, ?b8⟩
            case b1 => walk_at "lk"
            case b2 => walk_at "lk"
            case b3 => walk_at "lk"
            case b4 => walk_at "lk"
            case b5 => exact rfl
            case b6 =>
              rw [po.2.2.2.1]; simp
            case b7 =>
              have := (hal j' hj' k' h1 h2).resolve_left fun z => h2 (keyN_k z ▸ hin)
              exact po.2.1 _ this
            case b8 =>
              rw [po.2.2.2.1]; simp at hkb; exact om380 hkb
          · rw [decide_eq_false hin]
            walk_at "go"
            exact ⟨rfl, _, _, C'', m, hv, e2, ks, j, c, _, rfl, kC'', S₁₂, n1, n2, n3, n4, n5, ⟨T0, ta, tb, tc, rfl, hT0⟩, hj, hc, hhv, hhp, hal, hmin, hkb, hin⟩
        · intro f s' hq61_
          refine via fun M_ k_ => ?_
          obtain ⟨rfl, h₂, tk₂, C'', m, hv, e2, ks, j, c, v0, rfl, kC'', S₁₂, n1, n2, n3, n4, n5, ⟨T0, ta, tb, tc, rfl, hT0⟩, hj, hc, hhv, hhp, hal, hmin, hkb, hin⟩ := hq61_
          refine k_ ?_
          clear k_ M_
          have GC'' := GC'.kp kC''
          walk_at "go"
          have hT := S₁₂.kp _ _ hT0
          refine gmAppend S₁₂ (.tail _ (.tail _ (.head _))) ?_
          walk_at "go"
          refine itemT (isT hT) (j := 1) rfl (by exact om72) rfl (by with_unfolding_all rfl) ?_
          walk_at "go"
          refine appL (O₁ := [(D, lobj dv e3), (H, lobj hv e2)]) (O₂ := []) S₁₂ (by rw [sizeLine_eq]; exact om381 hlt hil hn) ?_
          intro h₁₅ e₆ S₁₅
          walk_at "go"
          have hT₁₅ := S₁₅.kp _ _ hT0
          refine gmAppend S₁₅ (.head _) ?_
          walk_at "go"
          refine itemT (isT hT₁₅) (j := 1) rfl (by exact om72) rfl (by with_unfolding_all rfl) ?_
          walk_at "go"
          refine itemT (isT hT₁₅) (j := 2) rfl (by exact om382) rfl (by with_unfolding_all rfl) ?_
          walk_at "go"
          refine newT S₁₅ (by walk_at "sz") ?_
          intro T2 h₁₆ S₁₆
          walk_at "go"
          have hdl : dv.length = ts.length := by rw [hdv.length]; unfold netT; rw [List.length_map]
          refine appL (O₁ := [(T2, _)]) S₁₆ (by rw [sizeLine_eq]; exact om383 hlt hdl hn) ?_
          intro h₁₇ e₇ S₁₇
          refine via fun M_ k_ => ?_
          obtain ⟨C₄, kC₄, kCh₄, hC₄, hO₄, S₁₈⟩ := St.freeze (O₁ := [(T2, _)]) (O₂ := [(D, _), (H, lobj hv e2), (N, _)]) S₁₇
          refine k_ ?_
          clear k_ M_
          walk_at "go"
          have b : Best (lcpL rs) rs.length (insI ts) c (lcpL rs j c) := ⟨hc, hin, ⟨j, hj, rfl⟩, fun j' hj' k' h1 h2 => by
            rcases hal j' hj' k' h1 h2 with z | z
            · exact key_best (by rw [z]; exact lt3_irr _)
            · exact key_best (hmin _ z)⟩
          refine turn_next (kC'.trans (kC''.trans kC₄)) (O' := [(D, _), (H, _), (N, _)]) (by rw [List.append_nil]; exact S₁₈)
            ⟨rs.length - (ts.length + 2), by exact om148 hlt hlen, ts ++ [(c, lcpL rs j c)], _, _, hv, e2, ks, _, _, insI ts, c, rfl, n1, n2, n3, n4, ?c1, hhv.mono fun _ _ z => (cmp3 w).mono kC₄ z, ?c2, hok.snoc b, hhp.sub (fun q hq => by rw [insI_snoc]; exact List.mem_append_left _ hq), insI_snoc .., hc, fun j' hj' k' h1 h2 => ?c3, ?c4, ?c5⟩
          case c1 =>
            unfold insZ
            rw [insI_snoc, List.map_append]
            exact hiv.snoc ⟨_, rfl⟩
          case c2 =>
            rw [netT_snoc]
            have e : textS (lcp (rowAt rs j) (rowAt rs c)) = textS ((rowAt rs c).take (lcpL rs j c)) := by
              unfold lcpL
              rw [lcp_comm (rowAt rs j) (rowAt rs c), ← lcp_take]
            rw [← e]
            have hT2 := hO₄ _ (.head _)
            exact (hdv.mono fun _ _ z => z.kp (kC'.trans (kC''.trans kC₄))).snoc ⟨T2, tb, tc, rfl, hT2⟩
          case c3 =>
            rw [insI_snoc] at h2
            have h3 : k' ∉ insI ts := fun z => h2 (List.mem_append_left _ z)
            have h4 : k' ≠ c := fun z => h2 (by rw [z]; simp)
            exact (hal j' hj' k' h1 h3).resolve_left fun z => h4 (keyN_k z)
          case c4 => rw [List.length_append, List.length_singleton]; exact om149 hlt
          case c5 => rw [List.length_append, List.length_singleton]; exact om384 hkb
    · exact ⟨rfl, _, _, C, m, ts, dv, e3, _, rfl, kC, S₆, m4, hdv, hok, by exact om150 hlen hlt⟩
  · intro f s' hq62_
    refine via fun M_ k_ => ?_
    obtain ⟨rfl, h₂, tk₂, C, m, ts, dv, e3, O', rfl, kC, S₆, m1, hdv, hok, hlen⟩ := hq62_
    refine k_ ?_
    clear k_ M_
    walk_at "go"
    exact h _ _ _ ts (kC.trans S₆.kp) hok hlen ⟨dv, e3, S₆.get (.head _), hdv.mono fun _ _ z => z.kp S₆.kp⟩
section
variable {w : World} {A : Around} {s : Shared} {B : Heap} {L : Addr} {m : Str → Option Value} {O X X₀ : Led} {env : Env}
theorem for_srcT {target : Expr} {body : List Stmt} {I : Addr} {n : Nat} {P : Nat → Value → Prop} {R : Result → Shared → Prop} {Q : Flow → Shared → Prop}
    (J : Nat → Heap → (Str → Option Value) → Led → Prop) (sr : Src w A B X₀ X s.heap I n P) (ht : ∀ v, letOwnedTupleGo target (.ref I) v = pure ())
    (S : St B L s.heap m (O ++ (X₀ ++ X))) (hJ : J 0 B m O)
    (turn : ∀ i v C h m O X tk, i < n → P i v → Kp B C → J i C m O → St C L h m (O ++ X) →
      wpAny (model P0 w) A (assign target env v) (fun _ s₂ => wpAny (model P0 w) A (execs body env) (turnPost s C L X (J (i + 1)) Q) (fun _ _ => False) s₂) (fun _ _ => False) { s with heap := h, toks := tk })
    (done : ∀ C h m O tk, Kp B C → J n C m O → St C L h m (O ++ X₀) → Q .next { s with heap := h, toks := tk })
    (hR : ∀ f s', Q f s' → R (.ok f) s') :
    codeAny (model P0 w) A (.forLoop target (.ref I) body [] env) R s := by
  obtain ⟨fp, wr, It, W, hfp, hlive, hit, hXw⟩ := sr
  refine codeAny_forLoop_any (fun k s' => ∃ i h tk C m O X, k = n - i ∧ i ≤ n ∧ s' = { s with heap := h, toks := tk } ∧ Kp B C ∧ St C L h m (O ++ (X₀ ++ X)) ∧ X.map (·.1) = wr ∧ It i h ∧ J i C m O) ?_ n
    ⟨0, s.heap, s.toks, B, m, O, X, rfl, Nat.zero_le _, rfl, kp_refl _, S, hXw, hit, hJ⟩
  rintro k s' ⟨i, h, tk, C, m, O, X, rfl, hi, rfl, kC, S, hXw, hit, hJ⟩
  by_cases hlt : i < n
  · refine W.item i _ _ _ hlt hit fun v h₁ tk₁ hP hit₁ hk₁ => ?_
    obtain ⟨X₁, e₁, hX₁⟩ := newest (hlive _ _ hit₁)
    have S₁ : St C L h₁ m (O ++ (X₀ ++ X₁)) := by
      have := St.butX (O := O ++ X₀) (by rw [List.append_assoc]; exact S) (fun b x hb e => hk₁ b x (hXw ▸ hb) e) (e₁.trans hXw.symm) hX₁
      rw [List.append_assoc] at this; exact this
    refine wpAny_of_eq (ht v) ?_
    refine wp_noted (wpAny_mono (turn i v C h₁ m O (X₀ ++ X₁) _ hlt hP kC hJ S₁) (fun _ s₂ p₂ => ?_) fun _ _ e => e)
    refine wp_noted (wpAny_mono p₂ (fun f s₃ p => ?_) fun _ _ e => e)
    have fin : Turned s C L (X₀ ++ X₁) (J (i + 1)) s₃ → ∃ k', k' < n - i ∧ ∃ i h tk C m O X, k' = n - i ∧ i ≤ n ∧ s₃ = { s with heap := h, toks := tk } ∧ Kp B C ∧ St C L h m (O ++ (X₀ ++ X)) ∧ X.map (·.1) = wr ∧ It i h ∧ J i C m O := by
      rintro ⟨h', tk', C', m', O', rfl, kC', S', hJ'⟩
      exact ⟨n - (i + 1), by exact om33 hlt, i + 1, h', tk', C', m', O', X₁, rfl, hlt, rfl, kC.trans kC', S', e₁, W.frame _ _ _ hit₁ (leans (fp_in hfp e₁) kC (kC.trans kC') S₁ S'), hJ'⟩
    cases f with
    | next => exact fin p
    | cont => exact fin p
    | brk => exact hR _ _ p
    | ret v => exact hR _ _ p
  · have hin : i = n := by exact om17 hi hlt
    subst hin
    refine W.done _ _ _ hit fun h₁ tk₁ hk₁ => ?_
    exact wpAny_execs_nil (hR _ _ (done C h₁ m O tk₁ kC hJ (St.ends (X := X) (by rw [List.append_assoc]; exact S) hXw hk₁)))
theorem nmFO {env : Env} {c : Addr} {o : Obj} {x : Str} {v : Value} {pos : Pos} {E Q : Value → Shared → Prop} (S : St B L s.heap m O) (hc : env.cells.lookup x = some c) (hm : (c, o) ∈ O) (hv : o.data = .cell (some v)) (hk : env.scope.kind = .function) (hx : env.kindOf x = some .free) (hd : (x == ("__debug__" : Str)) = false) (hn : (x == ("__classdict__" : Str)) = false) (h : Q v s) :
    wpAny (model P0 w) A (eval (.Name x pos) env) Q E s := wpAny_Name (wpAny_loadName_free hk hx hc ⟨o, S.get hm, hv⟩ h hn) hd
end
noncomputable def IsMax (L : Nat → Nat → Nat) (I : List Nat) (k M : Nat) : Prop := (∃ j ∈ I, L j k = M) ∧ ∀ j ∈ I, L j k ≤ M
noncomputable def ltT (p q : Nat × Nat) : Bool := lexlt [.i (-(p.1 : Int)), .i (p.2 : Int)] [.i (-(q.1 : Int)), .i (q.2 : Int)]
theorem ltT_iff (p q : Nat × Nat) : ltT p q = true ↔ q.1 < p.1 ∨ (p.1 = q.1 ∧ p.2 < q.2) := by
  unfold ltT
  simp only [lexlt, eqA, ltA]
  by_cases h : p.1 = q.1
  · by_cases h2 : p.2 = q.2
    · simp [h, h2]
    · have : ¬ ((p.2 : Int) = (q.2 : Int)) := by exact om71 h2
      simp [h, this]
  · have : ¬ (-(p.1 : Int) = -(q.1 : Int)) := by exact om351 h
    simp [this]; exact om352 this
theorem ltT_no (p q : Nat × Nat) : ltT p q = false ↔ ¬ (q.1 < p.1 ∨ (p.1 = q.1 ∧ p.2 < q.2)) := bfalse (ltT_iff p q)
noncomputable def clT (os : List (Nat × Nat)) (i : Nat) : Nat × Nat := os.getD (min i (os.length - 1)) (0, 0)
noncomputable def btT (os : List (Nat × Nat)) (i j : Nat) : Bool := ltT (os.getD i (0, 0)) (os.getD j (0, 0))
theorem minT_ok {os : List (Nat × Nat)} (hne : 0 < os.length) : ∃ p, os[argBest (btT os) (os.length - 1)]? = some p ∧ p ∈ os ∧ ∀ q ∈ os, ltT q p = false := by
  have E := argBest_congr (b := btT os) (c := fun i j => ltT (clT os i) (clT os j)) (os.length - 1) fun i j hi hj => by
    unfold btT clT
    rw [Nat.min_eq_left hi, Nat.min_eq_left hj]
  have K := argBest_ok (bt := fun i j => ltT (clT os i) (clT os j)) (fun i => by rw [ltT_no]; exact om353) (fun i j h => by rw [ltT_iff] at h; rw [ltT_no]; exact om354 h)
    (fun i j k h h' => by rw [ltT_no] at h h' ⊢; exact om355 h h') (os.length - 1)
  rw [E.1]
  generalize argBest _ (os.length - 1) = b at K ⊢
  have hlt : b < os.length := by exact om138 hne K
  refine ⟨_, List.getElem?_eq_getElem hlt, List.getElem_mem hlt, fun q hq => ?_⟩
  obtain ⟨j, hj⟩ := List.getElem?_of_mem hq
  have hjl := (List.getElem?_eq_some_iff.mp hj).1
  have e1 : clT os j = q := by unfold clT; rw [Nat.min_eq_left (by exact om12 hjl), List.getD_eq_getElem?_getD, hj]; rfl
  have := K.2 j (by exact om12 hjl)
  rw [e1] at this
  unfold clT at this
  rw [Nat.min_eq_left K.1, List.getD_eq_getElem?_getD, List.getElem?_eq_getElem hlt] at this
  exact this
noncomputable def btM (ns : List Nat) (i j : Nat) : Bool := decide ((ns.getD j 0 : Int) < (ns.getD i 0 : Int))
theorem maxN_ok {ns : List Nat} (hne : 0 < ns.length) : ∃ M, ns[argBest (btM ns) (ns.length - 1)]? = some M ∧ M ∈ ns ∧ ∀ q ∈ ns, q ≤ M := by
  have E := argBest_congr (b := btM ns) (c := fun i j => decide (((ns.getD (min j (ns.length - 1)) 0 : Nat) : Int) < ((ns.getD (min i (ns.length - 1)) 0 : Nat) : Int))) (ns.length - 1) fun i j hi hj => by
    unfold btM
    rw [Nat.min_eq_left hi, Nat.min_eq_left hj]
  have K := argBest_ok (bt := fun i j => decide (((ns.getD (min j (ns.length - 1)) 0 : Nat) : Int) < ((ns.getD (min i (ns.length - 1)) 0 : Nat) : Int))) (fun i => by simp) (fun i j h => by simp at h ⊢; exact om63 h)
    (fun i j k h h' => by simp at h h' ⊢; exact om20 h h') (ns.length - 1)
  rw [E.1]
  generalize argBest _ (ns.length - 1) = b at K ⊢
  have hlt : b < ns.length := by exact om138 hne K
  refine ⟨_, List.getElem?_eq_getElem hlt, List.getElem_mem hlt, fun q hq => ?_⟩
  obtain ⟨j, hj⟩ := List.getElem?_of_mem hq
  have hjl := (List.getElem?_eq_some_iff.mp hj).1
  have := K.2 j (by exact om12 hjl)
  rw [Nat.min_eq_left K.1, Nat.min_eq_left (show j ≤ ns.length - 1 by exact om12 hjl), List.getD_eq_getElem?_getD, List.getD_eq_getElem?_getD, hj, List.getElem?_eq_getElem hlt] at this
  simp at this
  exact this
section
variable {w : World} {A : Around} {s : Shared} {B : Heap} {L : Addr} {m : Str → Option Value} {O : Led}
theorem nmCE {env : Env} {c : Addr} {x : Str} {v : Value} {pos : Pos} {E Q : Value → Shared → Prop} (S : St B L s.heap m O) (hc : env.cells.lookup x = some c) (hm : ∃ o, (c, o) ∈ O ∧ o.data = .cell (some v)) (hk : env.scope.kind = .function) (hx : env.kindOf x = some .cell) (hd : (x == ("__debug__" : Str)) = false) (h : Q v s) :
    wpAny (model P0 w) A (eval (.Name x pos) env) Q E s := let ⟨_, a, b⟩ := hm; nmCO S hc a b hk hx hd h
theorem nmFE {env : Env} {c : Addr} {x : Str} {v : Value} {pos : Pos} {E Q : Value → Shared → Prop} (S : St B L s.heap m O) (hc : env.cells.lookup x = some c) (hm : ∃ o, (c, o) ∈ O ∧ o.data = .cell (some v)) (hk : env.scope.kind = .function) (hx : env.kindOf x = some .free) (hd : (x == ("__debug__" : Str)) = false) (hn : (x == ("__classdict__" : Str)) = false) (h : Q v s) :
    wpAny (model P0 w) A (eval (.Name x pos) env) Q E s := let ⟨_, a, b⟩ := hm; nmFO S hc a b hk hx hd hn h
end
local macro_rules | `(tactic| walk_at "me") => `(tactic| first | (refine ⟨_, .head _, ?_⟩; assumption) | (refine ⟨_, .tail _ (.head _), ?_⟩; assumption) | (refine ⟨_, .tail _ (.tail _ (.head _)), ?_⟩; assumption) | (refine ⟨_, .tail _ (.tail _ (.tail _ (.head _))), ?_⟩; assumption) | (refine ⟨_, .tail _ (.tail _ (.tail _ (.tail _ (.head _)))), ?_⟩; assumption) | (refine ⟨_, .tail _ (.tail _ (.tail _ (.tail _ (.tail _ (.head _))))), ?_⟩; assumption))
local macro_rules | `(tactic| walk_at "nm") => `(tactic| first
  | (refine nmCE (by assumption) (c := ?cc) (v := ?vv) ?hc ?hm ?hk ?hx ?hd ?_; (case hc => exact rfl); (case hm => walk_at "me"); (case hk => with_unfolding_all rfl); (case hx => with_unfolding_all rfl); (case hd => decide))
  | (refine nmFE (by assumption) (c := ?cc) (v := ?vv) ?hc ?hm ?hk ?hx ?hd ?hn ?_; (case hc => exact rfl); (case hm => walk_at "me"); (case hk => with_unfolding_all rfl); (case hx => with_unfolding_all rfl); (case hd => decide); (case hn => decide)))
noncomputable def RTI (h : Heap) (v : Value) (p : Nat × Nat) : Prop := ∃ T t u, v = .ref T ∧ h.get? T = some (tobj [.int (-(p.1 : Int)) t, .int (p.2 : Int) u])
theorem RTI.kp {h h' : Heap} {v : Value} {p : Nat × Nat} (x : RTI h v p) (k : Kp h h') : RTI h' v p := let ⟨a, t, u, e, q⟩ := x; ⟨a, t, u, e, k _ _ q⟩
inductive ToldI (rs : List (List Int)) (L a N D : Addr) (k : Nat) (C' : Heap) (m : Str → Option Value) (O : Led) : Prop
  | mk : ∀ ts ivs e1 dv e3 oc u, O = [(D, lobj dv e3), (N, lobj ivs e1), (L + 1 + 1, oc)] → oc.data = .cell u → m "rows" = some (.ref a) → m "inside" = some (.ref N) → m "told" = some (.ref D) → Paired VI ivs (insZ ts) → Paired (RTN C') dv (netT rs ts) → NetOk (lcpL rs) rs.length [0] ts → (∀ j ∈ insI ts, j < rs.length) → k + ts.length + 1 = rs.length → ToldI rs L a N D k C' m O
inductive ToldF (rs : List (List Int)) (ts : List (Nat × Nat)) (dv : List Value) (e3 : Nat) (ivs : List Value) (e1 : Nat) (L a N D Z : Addr) (i : Nat) (C' : Heap) (m : Str → Option Value) (O : Led) : Prop
  | mk : ∀ os ov e4 oc u, O = [(Z, lobj ov e4), (D, lobj dv e3), (N, lobj ivs e1), (L + 1 + 1, oc)] → oc.data = .cell u → m "rows" = some (.ref a) → m "inside" = some (.ref N) → m "told" = some (.ref D) → m "open_ones" = some (.ref Z) → Paired (RTI C') ov os → (∀ p ∈ os, p.2 < i ∧ p.2 ∉ insI ts ∧ IsMax (lcpL rs) (insI ts) p.2 p.1) → (∀ k, k < i → k ∉ insI ts → ∃ M, (M, k) ∈ os) → os.length ≤ i → ToldF rs ts dv e3 ivs e1 L a N D Z i C' m O
inductive ToldQ (s : Shared) (C : Heap) (rs : List (List Int)) (L D : Addr) (f : Flow) (s' : Shared) : Prop
  | mk : f = .next → ∀ h' tk C' m ts dv e3 O', s' = { s with heap := h', toks := tk } → Kp C C' → St C' L h' m ((D, lobj dv e3) :: O') → m "told" = some (.ref D) → Paired (RTN C') dv (netT rs ts) → NetOk (lcpL rs) rs.length [0] ts → ts.length + 1 = rs.length → ToldQ s C rs L D f s'
theorem told_spec {w : World} {A : Around} {s : Shared} {Q E : Value → Shared → Prop} {a b : Addr} {rs mks : List (List Int)} {wd : Nat} (r : Rm A 3) (G : Gd w s.heap) (ha : IIL s.heap a rs) (hb : IIL s.heap b mks) (hne : rs ≠ []) (hw : ∀ r ∈ rs, r.length = wd) (hw2 : wd ≤ 100) (hd : ∀ r ∈ rs, Dg r) (hn : rs.length ≤ 100)
    (hml : mks.length = rs.length) (hmw : ∀ r ∈ mks, r.length = wd) (hal : ∀ j k, j < rs.length → k < rs.length → alikeN (rowAt mks j) (rowAt mks k) = lcpL rs j k)
    (h : ∀ D h' tk' ts, Kp s.heap h' → NetOk (lcpL rs) rs.length [0] ts → ts.length + 1 = rs.length → TLN h' D (netT rs ts) → Q (.ref D) {s with heap := h', toks := tk'}) :
    wpAny (model P0 w) A (call (.ref 201) [.ref a, .ref b]) Q E s := by
  refine enterC [("rows", .ref a), ("marks", .ref b)] G r.room rfl rfl rfl rfl (by decide) rfl rfl rfl ?_
  intro L h₁ tk cells hcs S
  refine via fun M_ k_ => ?_
  obtain ⟨o2, o1, rfl, hc2, hc1⟩ := CellsAre.two hcs
  refine k_ ?_
  clear k_ M_
  refine via fun M_ k_ => ?_
  obtain ⟨C, kC, kCh, hC, hO, S₁⟩ := St.freeze (O₁ := [(L + 1, o1)]) (O₂ := [(L + 1 + 1, o2)]) (S.perm (List.Perm.swap _ _ _))
  refine k_ ?_
  clear k_ M_
  have c1 : C.IsCell (L + 1) (some (.ref b)) := ⟨o1, hO _ (.head _), hc1⟩
  have GC := G.kp kC
  refine via fun M_ k_ => ?_
  obtain ⟨vs, e, hva, hP⟩ := ha
  refine k_ ?_
  clear k_ M_
  refine via fun M_ k_ => ?_
  obtain ⟨us, e', hub, hU⟩ := hb
  refine k_ ?_
  clear k_ M_
  have hvl : vs.length = rs.length := hP.length
  have hul : us.length = rs.length := hU.length.trans hml
  have hrp : 0 < rs.length := List.length_pos_iff.mpr hne
  have hva := kC _ _ hva
  have hub := kC _ _ hub
  have hP := hP.mono fun _ _ z => VIL.kp z kC
  have hU := hU.mono fun _ _ z => VIL.kp z kC
  clear S hc1 hC hO hcs
  try dsimp only
  walk_at "go"
  refine newL S₁ (by walk_at "sz") ?_
  intro N h₂ S₂
  walk_at "go"
  refine newL (by assumption) (by decide) ?_
  intro D h₃ S₃
  walk_at "go"
  rename_i h₄ S₄
  refine while_inv (X := []) (ToldI rs L a N D)
    (Q := (ToldQ s C rs L D))
    (rs.length - 1) rfl (by rw [List.append_nil]; exact S₄)
    ⟨[], _, 0, [], 0, o2, _, rfl, hc2, rfl, rfl, rfl, .cons ⟨_, rfl⟩ .nil, .nil, trivial, fun j hj => (by rw [List.mem_singleton.mp hj]; exact hrp), by simp; exact om139 hrp⟩ ?_ ?_
  · intro kk C₁ h m O tk kC₁ hq65_ S₆
    refine via fun M_ k_ => ?_
    obtain ⟨ts, ivs, e1, dv, e3, oc, u, rfl, hu, m1, m2, m3, hiv, hdv, hok, hin, hlen⟩ := hq65_
    refine k_ ?_
    clear k_ M_
    rw [List.append_nil] at S₆
    have GC₁ := GC.kp kC₁
    have c1₁ := c1.keeps kC₁
    have hil : ivs.length = ts.length + 1 := by rw [hiv.length]; unfold insZ; rw [List.length_map, insI_len]
    walk_at "go"
    refine lenL (isL (S₆.get (.tail _ (.head _)))) (by rw [List.size_toArray]; exact om140 hlen hil hn) ?_
    intro t₇ tk₇
    walk_at "go"
    refine lenL (isL (S₆.kp _ _ (kC₁ _ _ hva))) (by rw [List.size_toArray]; exact om24 hvl hn) ?_
    intro t₈ tk₈
    walk_at "go"
    rw [List.size_toArray, List.size_toArray, hil, hvl]
    refine split_dec (fun hlt => ?_) (fun hlt => ?_)
    · walk_at "go"
      refine newL S₆ (by decide) ?_
      intro Z h₉ S₉
      walk_at "go"
      rename_i h₁₀ S₁₀
      refine lenL (isL (S₁₀.kp _ _ (kC₁ _ _ hva))) (by rw [List.size_toArray]; exact om24 hvl hn) ?_
      intro t₁₁ tk₁₁
      rw [List.size_toArray, hvl]
      walk_at "go"
      refine callRange1 S₁₀ ?_
      intro R h₁₁ tk₁₁ u₁ v₁ S₁₁ hR
      refine iterRange0 (O := [(Z, lobj [] 0), (D, lobj dv e3), (N, lobj ivs e1), (L + 1 + 1, oc)]) [] r.hand hR (by exact om29 hn) S₁₁ ?_
      intro I o h₁₂ S₁₂ sr
      refine for_srcT (L := L) (O := [(Z, lobj [] 0), (D, lobj dv e3), (N, lobj ivs e1), (L + 1 + 1, oc)]) (X₀ := []) (X := [(I, o)]) (ToldF rs ts dv e3 ivs e1 L a N D Z) sr (fun _ => rfl) S₁₂ ⟨[], [], 0, oc, u, rfl, hu, ?a1, ?a2, ?a3, rfl, .nil, fun p hp => (by cases hp), fun k hk => (by exact om141 hk), Nat.le_refl _⟩ ?_ ?_ (fun f s' q => q)
      case a1 => walk_at "lk"
      case a2 => walk_at "lk"
      case a3 => walk_at "lk"
      · intro i v C' h m' O X tk hi hq66_ kC' hq67_ S₁₃
        refine via fun M_ k_ => ?_
        obtain ⟨t, rfl⟩ := hq66_
        obtain ⟨os, ov, e4, oc, u, rfl, hu, n1, n2, n3, n4, hov, hall, hex, hol⟩ := hq67_
        refine k_ ?_
        clear k_ M_
        have GC' := GC₁.kp kC'
        have c1' := c1₁.keeps kC'
        refine wpAny_assign_Name ?_
        refine stC (O₁ := [(Z, lobj ov e4), (D, lobj dv e3), (N, lobj ivs e1)]) (O₂ := X) S₁₃ hu rfl (by with_unfolding_all rfl) (by with_unfolding_all rfl) ?_
        intro h₁₄ oc' ho' S₁₄
        clear S₁₃
        try dsimp only [List.cons_append, List.nil_append] at S₁₄
        walk_at "go"
        refine notin_list_ints (isL (S₁₄.get (.tail _ (.tail _ (.head _))))) (intsAre_of hiv) ?_
        rw [show (insZ ts).any (· == (i : Int)) = decide (i ∈ insI ts) from any_mem _ _]
        by_cases hii : i ∈ insI ts
        · rw [decide_eq_true hii]
          walk_at "go"
          refine turn_next (kp_refl _) (O' := [(Z, lobj ov e4), (D, lobj dv e3), (N, lobj ivs e1), (L + 1 + 1, oc')]) S₁₄ ⟨os, ov, e4, oc', _, rfl, ho', n1, n2, n3, n4, hov, fun p hp => ?_, fun k h1 h2 => ?_, by exact om5 hol⟩
          · refine via fun M_ k_ => ?_
            obtain ⟨q1, q2⟩ := hall p hp
            refine k_ ?_
            clear k_ M_
            exact ⟨by exact om2 q1, q2⟩
          · rcases Nat.lt_succ_iff_lt_or_eq.mp h1 with h1 | h1
            · exact hex k h1 h2
            · exact absurd (h1 ▸ hii) h2
        · rw [decide_eq_false hii]
          walk_at "go"
          refine gmAppend S₁₄ (.head _) ?_
          walk_at "go"
          refine lcomp_eval rfl rfl (by decide) (fun _ => rfl) ?_
          walk_at "go"
          have S₁₅ := S₁₄.perm (O' := ([(Z, lobj ov e4), (D, lobj dv e3), (L + 1 + 1, oc')] ++ X) ++ [(N, lobj ivs e1)]) (by
            refine List.Perm.cons _ (List.Perm.cons _ ?_)
            exact (List.perm_append_comm (l₁ := [(N, lobj ivs e1)]) (l₂ := (L + 1 + 1, oc') :: X)))
          refine iterListO r.hand S₁₅ ?_
          intro I₂ o₂ h₁₆ S₁₆ sr₂
          have getI : ∀ {q : Nat} {v : Value}, ivs[q]? = some v → ∃ j t, (insI ts)[q]? = some j ∧ v = .int (j : Int) t := fun {q v} hv => by
            refine via fun M_ k_ => ?_
            obtain ⟨z, hz, t, rfl⟩ := paired_getL hiv hv
            refine k_ ?_
            clear k_ M_
            unfold insZ at hz
            rw [List.getElem?_map] at hz
            refine via fun M_ k_ => ?_
            obtain ⟨j, hj, rfl⟩ := Option.map_eq_some_iff.mp hz
            refine k_ ?_
            clear k_ M_
            exact ⟨j, t, hj, rfl⟩
          have getM : ∀ {q : Nat}, q < rs.length → ∃ ad, us[q]? = some (.ref ad) ∧ IL C ad (rowAt mks q) ∧ (rowAt mks q).length = wd := fun {q} hq => by
            refine via fun M_ k_ => ?_
            obtain ⟨v, hv1, ad, rfl, hil2⟩ := paired_get hU (rowAt_get (rs := mks) (j := q) (by exact om1 hq hml))
            refine k_ ?_
            clear k_ M_
            exact ⟨ad, hv1, hil2, hmw _ (List.mem_of_getElem? (rowAt_get (rs := mks) (j := q) (by exact om1 hq hml)))⟩
          refine lcomp_src0 (L := L) (O := [(Z, lobj ov e4), (D, lobj dv e3), (L + 1 + 1, oc')] ++ X) (X₀ := [(N, lobj ivs e1)]) (X := [(I₂, o₂)]) (fun q C'' O acc => O = [(Z, lobj ov e4), (D, lobj dv e3), (L + 1 + 1, oc')] ++ X ∧ Paired VI acc (((insI ts).take q).map fun j => (lcpL rs j i : Int))) sr₂ rfl (by decide) rfl S₁₆ ⟨rfl, .nil⟩ (by rw [sizeLine_eq]; exact om142 hlen hil hn) (fun _ => rfl) ?_ ?_
          · rintro Cl Dl q v C'' h m'' O X₂ e₅ acc tk hq hv kC'' ⟨rfl, hacc⟩ S₁₇
            refine via fun M_ k_ => ?_
            obtain ⟨j, tj, hj, rfl⟩ := getI hv
            refine k_ ?_
            clear k_ M_
            have hjn := hin j (List.mem_of_getElem? hj)
            have GC'' := GC'.kp kC''
            have c1'' := c1'.keeps kC''
            have kCC := kC₁.trans (kC'.trans kC'')
            refine via fun M_ k_ => ?_
            obtain ⟨aj, haj, hilj, hwj⟩ := getM hjn
            refine k_ ?_
            clear k_ M_
            refine via fun M_ k_ => ?_
            obtain ⟨ai, hai, hili, hwi⟩ := getM hi
            refine k_ ?_
            clear k_ M_
            refine wpAny_assign_Name ?_
            walk_at "go"
            refine tests_nil ?_
            walk_at "go"
            rename_i h₁₈ S₁₈
            refine itemL (isL (S₁₈.kp _ _ (kCC _ _ hub))) (j := j) rfl (by exact om13 hjn hn) (by simpa using haj) (by with_unfolding_all rfl) ?_
            walk_at "go"
            refine itemL (isL (S₁₈.kp _ _ (kCC _ _ hub))) (j := i) rfl (by exact om13 hi hn) (by simpa using hai) (by with_unfolding_all rfl) ?_
            walk_at "go"
            refine alike_spec (r.less (k := 2) (by exact om143) |>.deep _) (inG GC'' S₁₈) (hilj.kp (kCC.trans S₁₈.kp)) (hili.kp (kCC.trans S₁₈.kp)) (by rw [hwj, hwi]) (by exact om144 hwj hw2) ?_
            intro h₁₉ tk₁₉ t₁₉ k₁₉
            refine elt_mk (O' := _ ++ X) (kp_refl _) (S₁₈.keep k₁₉) ⟨rfl, ?_⟩
            rw [take_succ' hj, List.map_append]
            refine hacc.snoc ⟨t₁₉, ?_⟩
            rw [hal j i hjn hi]
          · intro Dl C'' h₂₀ Cl mc oL O acc e₅ tk kC'' ⟨hO, hacc⟩ hoL S₁₇
            subst hO
            refine post_none hoL S₁₇ ?_
            intro h₂₁ S₂₁
            rw [hil, ← insI_len, List.take_length] at hacc
            walk_at "go"
            have GC'' := GC'.kp kC''
            have hns : 0 < ((insI ts).map fun j => lcpL rs j i).length := by rw [List.length_map, insI_len]; exact om356
            have hal2 : acc.length = ((insI ts).map fun j => lcpL rs j i).length := by rw [hacc.length, List.length_map, List.length_map]
            have getA : ∀ {q : Nat} {v : Value}, acc.toArray[q]? = some v → ∃ M t, ((insI ts).map fun j => lcpL rs j i)[q]? = some M ∧ v = .int (M : Int) t := fun {q v} hv => by
              refine via fun M_ k_ => ?_
              obtain ⟨z, hz, t, rfl⟩ := paired_getL hacc (by simpa using hv)
              refine k_ ?_
              clear k_ M_
              rw [List.getElem?_map] at hz
              refine via fun M_ k_ => ?_
              obtain ⟨j, hj, rfl⟩ := Option.map_eq_some_iff.mp hz
              refine k_ ?_
              clear k_ M_
              exact ⟨lcpL rs j i, t, by rw [List.getElem?_map, hj]; rfl, rfl⟩
            refine call_max_list r.hand (isL (S₂₁.get (.head _))) (by rw [List.size_toArray]; exact om145 hns hal2) (btM ((insI ts).map fun j => lcpL rs j i)) ?_ ?_
            · intro x y vx vy s' Q' E' kg hx hy hq
              refine via fun M_ k_ => ?_
              obtain ⟨M1, t1, hM1, rfl⟩ := getA hx
              refine k_ ?_
              clear k_ M_
              refine via fun M_ k_ => ?_
              obtain ⟨M2, t2, hM2, rfl⟩ := getA hy
              refine k_ ?_
              clear k_ M_
              refine PyProof.Rows.gt_int (show Q' (.bool (decide ((M2 : Int) < (M1 : Int)))) s' from ?_)
              unfold btM at hq
              rw [List.getD_eq_getElem?_getD, List.getD_eq_getElem?_getD, hM1, hM2] at hq
              exact hq
            · intro v h₂₂ tk₂₂ hv k₂₂
              rw [List.size_toArray, hal2] at hv
              refine via fun M_ k_ => ?_
              obtain ⟨M, t₂₂, hM, rfl⟩ := getA hv
              refine k_ ?_
              clear k_ M_
              refine via fun M_ k_ => ?_
              obtain ⟨M', hM', hmem, hmax⟩ := maxN_ok hns
              refine k_ ?_
              clear k_ M_
              rw [hM] at hM'
              obtain rfl : M = M' := by injection hM'
              have isM : IsMax (lcpL rs) (insI ts) i M := by
                refine via fun M_ k_ => ?_
                obtain ⟨j, hj, e⟩ := List.mem_map.mp hmem
                refine k_ ?_
                clear k_ M_
                exact ⟨⟨j, hj, e⟩, fun j' hj' => hmax _ (List.mem_map_of_mem hj')⟩
              have S₂₂ := S₂₁.keep k₂₂
              clear S₂₁
              refine negI ?_
              walk_at "go"
              refine newT S₂₂ (by walk_at "sz") ?_
              intro T h₂₃ S₂₃
              walk_at "go"
              have S₂₄ := S₂₃.perm (O' := [(T, _), (Dl, _)] ++ ((Z, lobj ov e4) :: ([(D, lobj dv e3), (N, lobj ivs e1), (L + 1 + 1, oc')] ++ X))) (by
                refine List.Perm.cons _ (List.Perm.cons _ ?_)
                show (((Z, lobj ov e4) :: (D, lobj dv e3) :: (L + 1 + 1, oc') :: X) ++ [(N, lobj ivs e1)]).Perm _
                refine List.Perm.cons _ (List.Perm.cons _ ?_)
                exact (List.perm_append_comm (l₁ := (L + 1 + 1, oc') :: X) (l₂ := [(N, lobj ivs e1)])))
              refine appL (O₁ := [(T, _), (Dl, _)]) S₂₄ (by rw [hov.length, sizeLine_eq]; exact om357 hi hn hol) ?_
              intro h₂₅ e₆ S₂₅
              refine via fun M_ k_ => ?_
              obtain ⟨C₄, kC₄, kCh₄, hC₄, hO₄, S₂₆⟩ := St.freeze (O₁ := [(T, _), (Dl, _)]) S₂₅
              refine k_ ?_
              clear k_ M_
              walk_at "go"
              refine turn_next (kC''.trans kC₄) (O' := [(Z, _), (D, lobj dv e3), (N, lobj ivs e1), (L + 1 + 1, oc')]) S₂₆ ⟨os ++ [(M, i)], _, _, oc', _, rfl, ho', n1, n2, n3, n4, ?_, fun p hp => ?_, fun k h1 h2 => ?_, ?_⟩
              · have hT := hO₄ _ (.head _)
                exact (hov.mono fun _ _ z => z.kp (kC''.trans kC₄)).snoc ⟨T, _, _, rfl, hT⟩
              · rcases List.mem_append.mp hp with hp | hp
                · refine via fun M_ k_ => ?_
                  obtain ⟨q1, q2⟩ := hall p hp
                  refine k_ ?_
                  clear k_ M_
                  exact ⟨by exact om2 q1, q2⟩
                · rw [List.mem_singleton.mp hp]
                  exact ⟨Nat.lt_succ_self _, hii, isM⟩
              · rcases Nat.lt_succ_iff_lt_or_eq.mp h1 with h1 | h1
                · refine via fun M_ k_ => ?_
                  obtain ⟨M2, hM2⟩ := hex k h1 h2
                  refine k_ ?_
                  clear k_ M_
                  exact ⟨M2, List.mem_append_left _ hM2⟩
                · subst h1; exact ⟨M, by simp⟩
              · rw [List.length_append, List.length_singleton]; exact om34 hol
      · intro C' h₁₃ m' O tk kC' hq68_ S₁₃
        refine via fun M_ k_ => ?_
        obtain ⟨os, ov, e4, oc, u, rfl, hu, n1, n2, n3, n4, hov, hall, hex, hol⟩ := hq68_
        refine k_ ?_
        clear k_ M_
        rw [List.append_nil] at S₁₃
        have GC' := GC₁.kp kC'
        refine via fun M_ k_ => ?_
        obtain ⟨k1, hk1, hk1'⟩ := outside (n := rs.length) (I := insI ts) (by rw [insI_len]; exact om146 hlt)
        refine k_ ?_
        clear k_ M_
        refine via fun M_ k_ => ?_
        obtain ⟨M1, hM1⟩ := hex k1 hk1 hk1'
        refine k_ ?_
        clear k_ M_
        have hop : 0 < os.length := List.length_pos_of_mem hM1
        walk_at "go"
        refine PyProof.Rows.Assign_Tuple ?_ (hs := by with_unfolding_all rfl) (hw := by with_unfolding_all rfl)
        walk_at "go"
        have hzl : ov.length = os.length := hov.length
        have getO : ∀ {q : Nat} {v : Value}, ov.toArray[q]? = some v → ∃ p, os[q]? = some p ∧ RTI C' v p := fun {q v} hv => paired_getL hov (by simpa using hv)
        refine call_min_list r.hand (isL (S₁₃.get (.head _))) (by rw [List.size_toArray]; exact om145 hop hzl) (btT os) ?_ ?_
        · intro x y vx vy s' Q' E' kg hx hy hq
          refine via fun M_ k_ => ?_
          obtain ⟨p1, hp1, T1, t1, u1, rfl, hT1⟩ := getO hx
          refine k_ ?_
          clear k_ M_
          refine via fun M_ k_ => ?_
          obtain ⟨p2, hp2, T2, t2, u2, rfl, hT2⟩ := getO hy
          refine k_ ?_
          clear k_ M_
          show wpAny _ _ (compareOp .Lt (.ref T1) (.ref T2)) _ _ _
          refine tup_lt (as := [.i (-(p1.1 : Int)), .i (p1.2 : Int)]) (bs := [.i (-(p2.1 : Int)), .i (p2.2 : Int)]) (kg _ _ (S₁₃.kp _ _ hT1)) (kg _ _ (S₁₃.kp _ _ hT2)) (.cons rfl rfl rfl (.cons rfl rfl rfl (.nil _ _ _ _ rfl rfl (.inl rfl)))) (by have := r.units; show A.units + 3 + 1 < cLine; exact om358 this) ?_
          unfold btT at hq
          rw [List.getD_eq_getElem?_getD, List.getD_eq_getElem?_getD, hp1, hp2] at hq
          exact hq
        · intro v h₁₄ tk₁₄ hv k₁₄
          rw [List.size_toArray, hzl] at hv
          refine via fun M_ k_ => ?_
          obtain ⟨p, hp, T, t1, u1, rfl, hT⟩ := getO hv
          refine k_ ?_
          clear k_ M_
          refine via fun M_ k_ => ?_
          obtain ⟨p', hp', hmem, hmin⟩ := minT_ok hop
          refine k_ ?_
          clear k_ M_
          rw [hp] at hp'
          obtain rfl : p = p' := by injection hp'
          refine via fun M_ k_ => ?_
          obtain ⟨M, c⟩ := p
          refine k_ ?_
          clear k_ M_
          refine via fun M_ k_ => ?_
          obtain ⟨hc, hcI, hcM⟩ := hall _ hmem
          refine k_ ?_
          clear k_ M_
          have S₁₄ := S₁₃.keep k₁₄
          clear S₁₃
          have hM100 : M ≤ 100 := by
            refine via fun M_ k_ => ?_
            obtain ⟨⟨j, hj, e⟩, _⟩ := hcM
            refine k_ ?_
            clear k_ M_
            have e : lcpL rs j c = M := e
            rw [← e]
            unfold lcpL
            have := (lcp_le (rowAt rs j) (rowAt rs c)).1
            have := hw _ (List.mem_of_getElem? (rowAt_get (hin j hj)))
            exact om147 this hw2 (by assumption)
          try dsimp only
          refine wpAny_assign_Tuple r.hand (isT (S₁₄.kp _ _ hT)) rfl rfl fun h₁₅ hs₁₅ => ?_
          have S₁₅ := S₁₄.keep (h' := h₁₅) fun b o q => hs₁₅ b o (Nat.ne_of_lt (Heap.lt_size q)) q
          clear S₁₄
          have hcl : c < rs.length := hc
          refine via fun M_ k_ => ?_
          obtain ⟨⟨jb, hjb, hjM⟩, hjmax⟩ := hcM
          refine k_ ?_
          clear k_ M_
          have hjM : lcpL rs jb c = M := hjM
          show wpAny _ _ (holding _ (assign (.Name _ _) _ _) >>= fun _ => holding [] (assign (.Name _ _) _ _) >>= fun _ => pure ()) _ _ _
          refine wpAny_bind (wpAny_holding (wpAny_assign_Name (stL S₁₅ rfl (by with_unfolding_all rfl) (by with_unfolding_all rfl) fun h₁₆ S₁₆ => ?_)))
          refine wpAny_bind (wpAny_holding (wpAny_assign_Name (stC (O₁ := [(Z, lobj ov e4), (D, lobj dv e3), (N, lobj ivs e1)]) (O₂ := []) S₁₆ hu rfl (by with_unfolding_all rfl) (by with_unfolding_all rfl) fun h₁₇ oc' ho' S₁₇ => wpAny_pure ?_)))
          have ho' : oc'.data = .cell (some (.int (c : Int) u1)) := ho'
          try dsimp only [List.cons_append, List.nil_append] at S₁₇
          clear S₁₆ S₁₅
          walk_at "go"
          refine gmAppend S₁₇ (.tail _ (.head _)) ?_
          walk_at "go"
          refine via fun M_ k_ => ?_
          obtain ⟨v, hv1, ar, rfl, hilr⟩ := paired_get hP (rowAt_get hcl)
          refine k_ ?_
          clear k_ M_
          refine itemL (isL (S₁₇.kp _ _ (kC' _ _ (kC₁ _ _ hva)))) (j := c) rfl (by exact om13 hc hn) (by simpa using hv1) (by with_unfolding_all rfl) ?_
          walk_at "go"
          refine negI ?_
          walk_at "go"
          have mem_c := List.mem_of_getElem? (rowAt_get hcl)
          refine via fun M_ k_ => ?_
          obtain ⟨rv, re, hrv, hrP⟩ := hilr
          refine k_ ?_
          clear k_ M_
          have hrl : rv.length = wd := hrP.length.trans (hw _ mem_c)
          refine cutL S₁₇ rfl (isL (S₁₇.kp _ _ (kC' _ _ (kC₁ _ _ hrv)))) (.none) (.int _ _) (.none) (by decide) (by rw [List.size_toArray, sizeLine_eq, hrl]; exact om21 hw2) (by with_unfolding_all rfl) ?_
          intro Sl h₁₈ S₁₈
          have hneg : (-(-((M, c).1 : Int))) = (M : Int) := by show (-(-(M : Int))) = (M : Int); exact om359
          rw [hneg, pick_upto _ (by exact om3), Int.toNat_natCast] at S₁₈
          try dsimp only
          walk_at "go"
          refine text_spec (ds := (rowAt rs c).take M) (r.less (k := 2) (by exact om143) |>.deep _) (inG GC' S₁₈) ⟨_, _, S₁₈.get (.head _), paired_take hrP M⟩ (Dg.take (hd _ mem_c) M) (by rw [List.length_take, hw _ mem_c]; exact om360 hM100) ?_
          intro h₁₉ tk₁₉ t₁₉ k₁₉
          have S₁₉ := S₁₈.keep k₁₉
          clear S₁₈ S₁₇
          walk_at "go"
          refine newT S₁₉ (by walk_at "sz") ?_
          intro T2 h₂₀ S₂₀
          walk_at "go"
          have hdl : dv.length = ts.length := by rw [hdv.length]; unfold netT; rw [List.length_map]
          refine appL (O₁ := [(T2, _), (Sl, _), (Z, _)]) S₂₀ (by rw [sizeLine_eq]; exact om361 hlen hdl hn) ?_
          intro h₂₁ e₇ S₂₁
          refine via fun M_ k_ => ?_
          obtain ⟨C₄, kC₄, kCh₄, hC₄, hO₄, S₂₂⟩ := St.freeze (O₁ := [(T2, _), (Sl, _), (Z, _)]) S₂₁
          refine k_ ?_
          clear k_ M_
          have hT2 := hO₄ _ (.head _)
          clear S₂₁ S₂₀ hO₄ hC₄
          walk_at "go"
          refine gmAppend S₂₂ (.tail _ (.head _)) ?_
          walk_at "go"
          refine appL (O₁ := [(D, _)]) S₂₂ (by rw [sizeLine_eq]; exact om142 hlen hil hn) ?_
          intro h₂₃ e₈ S₂₃
          walk_at "go"
          have bst : Best (lcpL rs) rs.length (insI ts) c M := ⟨hcl, hcI, ⟨jb, hjb, hjM⟩, fun j' hj' k' h1 h2 => by
            refine via fun M_ k_ => ?_
            obtain ⟨M2, hM2⟩ := hex k' h1 h2
            refine k_ ?_
            clear k_ M_
            have q := hmin _ hM2
            rw [ltT_no] at q
            have q2 : lcpL rs j' k' ≤ M2 := (hall _ hM2).2.2.2 j' hj'
            simp only at q
            exact om362 q2 q⟩
          refine turn_next (kC'.trans kC₄) (O' := [(D, _), (N, _), (L + 1 + 1, oc')]) (by rw [List.append_nil]; exact S₂₃)
            ⟨rs.length - (ts.length + 2), by exact om148 hlt hlen, ts ++ [(c, M)], _, _, _, _, oc', _, rfl, ho', ?d1, ?d2, ?d3, ?c1, ?c2, hok.snoc bst, fun j hj => ?c3, ?c4⟩
          case d1 => walk_at "lk"
          case d2 => walk_at "lk"
          case d3 => walk_at "lk"
          case c1 =>
            unfold insZ
            rw [insI_snoc, List.map_append]
            exact hiv.snoc ⟨_, rfl⟩
          case c2 =>
            rw [netT_snoc]
            refine (hdv.mono fun _ _ z => z.kp (kC'.trans kC₄)).snoc ?_
            exact ⟨T2, u1, t₁₉, rfl, hT2⟩
          case c3 =>
            rw [insI_snoc] at hj
            rcases List.mem_append.mp hj with hj | hj
            · exact hin j hj
            · rw [List.mem_singleton.mp hj]; exact hcl
          case c4 => rw [List.length_append, List.length_singleton]; exact om149 hlt
    · exact ⟨rfl, _, _, C₁, m, ts, dv, e3, _, rfl, kC₁, S₆, m3, hdv, hok, by exact om150 hlen hlt⟩
  · intro f s' hq69_
    refine via fun M_ k_ => ?_
    obtain ⟨rfl, h₂, tk₂, C', m, ts, dv, e3, O', rfl, kC', S₆, m1, hdv, hok, hlen⟩ := hq69_
    refine k_ ?_
    clear k_ M_
    walk_at "go"
    exact h _ _ _ ts (kC.trans (kC'.trans S₆.kp)) hok hlen ⟨dv, e3, S₆.get (.head _), hdv.mono fun _ _ z => z.kp S₆.kp⟩
section
variable {lt : Nat → Nat → Bool}
structure Tot (lt : Nat → Nat → Bool) : Prop where
  irr : ∀ i, lt i i = false
  nt : ∀ i j k, lt i j = false → lt j k = false → lt i k = false
  tri : ∀ i j, i ≠ j → lt i j = false → lt j i = true
  asy : ∀ i j, lt i j = true → lt j i = false
noncomputable def gA (p : Array Nat) (i : Nat) : Nat := p.getD i 0
structure POk (p : Array Nat) (n : Nat) : Prop where
  sz : p.size = n
  perm : p.toList.Perm (List.range n)
theorem gA_get {p : Array Nat} {i : Nat} (h : i < p.size) : p[i]? = some (gA p i) := by
  unfold gA; rw [Array.getElem?_eq_getElem h]; simp [Array.getD, h]
theorem gA_of {p : Array Nat} {i x : Nat} (h : p[i]? = some x) : gA p i = x := by
  unfold gA
  obtain ⟨h1, h2⟩ := Array.getElem?_eq_some_iff.mp h
  simp [Array.getD, h1, h2]
theorem POk.inb {p : Array Nat} {n i : Nat} (P : POk p n) (h : i < n) : gA p i < n := by
  have := P.perm.subset (List.mem_of_getElem? (by rw [Array.getElem?_toList]; exact gA_get (P.sz ▸ h)))
  exact List.mem_range.mp this
theorem POk.ne {p : Array Nat} {n i j : Nat} (P : POk p n) (hi : i < n) (hj : j < n) (h : i ≠ j) : gA p i ≠ gA p j := by
  intro e
  have nd : p.toList.Nodup := P.perm.nodup_iff.mpr List.nodup_range
  have h1 : p.toList[i]? = some (gA p i) := by rw [Array.getElem?_toList]; exact gA_get (P.sz ▸ hi)
  have h2 : p.toList[j]? = some (gA p i) := by rw [Array.getElem?_toList, e]; exact gA_get (P.sz ▸ hj)
  obtain ⟨a1, b1⟩ := List.getElem?_eq_some_iff.mp h1
  obtain ⟨a2, b2⟩ := List.getElem?_eq_some_iff.mp h2
  have := (List.getElem_inj (h₀ := a1) (h₁ := a2) nd).mp (b1.trans b2.symm)
  exact h this
noncomputable def SP (lt : Nat → Nat → Bool) (p : Array Nat) (m : Nat) : Prop := ∀ i j, i < j → j < m → lt (gA p j) (gA p i) = false
noncomputable def DP (lt : Nat → Nat → Bool) (p : Array Nat) (m : Nat) : Prop := ∀ i j, i < j → j < m → lt (gA p j) (gA p i) = true
theorem SP.step {p : Array Nat} {m : Nat} (T : Tot lt) (h : SP lt p m) (hm : 1 ≤ m) (hl : lt (gA p m) (gA p (m - 1)) = false) : SP lt p (m + 1) := by
  intro i j hij hj
  by_cases e : j = m
  · subst e
    by_cases e2 : i = j - 1
    · subst e2; exact hl
    · exact T.nt _ _ _ hl (h i (j - 1) (by exact om51 hij e2) (by exact om52 hm))
  · exact h i j hij (by exact om6 hj e)
theorem Tot.trans {a b c : Nat} (T : Tot lt) (h : lt a b = true) (h' : lt b c = true) : lt a c = true := by
  cases q : lt a c with
  | true => rfl
  | false =>
    have := T.nt _ _ _ (T.asy _ _ h) q
    rw [h'] at this; cases this
theorem DP.step {p : Array Nat} {m : Nat} (T : Tot lt) (h : DP lt p m) (hm : 1 ≤ m) (hl : lt (gA p m) (gA p (m - 1)) = true) : DP lt p (m + 1) := by
  intro i j hij hj
  by_cases e : j = m
  · subst e
    by_cases e2 : i = j - 1
    · subst e2; exact hl
    · exact T.trans hl (h i (j - 1) (by exact om51 hij e2) (by exact om52 hm))
  · exact h i j hij (by exact om6 hj e)
theorem SP.one {p : Array Nat} : SP lt p 1 := fun i j h h' => by exact om197 h' h

variable {cmp : Nat → Nat → (Bool → Shared → Prop) → Shared → Prop} {n : Nat} {s : Shared}
theorem asc_ok (T : Tot lt) (H : ∀ i j C, i < n → j < n → C (lt i j) s → cmp i j C s) {p : Array Nat} (P : POk p n) {Q : Nat → Shared → Prop} : ∀ (f k : Nat), 1 ≤ k → k + f ≤ n → SP lt p k →
    (∀ m, k ≤ m → m ≤ k + f → SP lt p m → (m < k + f → lt (gA p m) (gA p (m - 1)) = true) → Q m s) → (kas_asc p f k).kasWp cmp Q s
  | 0, k, hk, hf, hs, h => h k (Nat.le_refl _) (Nat.le_refl _) hs fun z => absurd z (Nat.lt_irrefl _)
  | f + 1, k, hk, hf, hs, h => by
    refine H _ _ _ (P.inb (i := k) (by exact om14 hf)) (P.inb (i := k - 1) (by exact om15 hf)) ?_
    cases q : lt (p.getD k 0) (p.getD (k - 1) 0) with
    | true => exact h k (Nat.le_refl _) (by exact om53) hs fun _ => q
    | false =>
      refine asc_ok T H P f (k + 1) (by exact om26) (by exact om54 hf) (hs.step T hk q) fun m h1 h2 h3 h4 => h m (by exact om55 h1) (by exact om56 h2) h3 fun z => h4 (by exact om198 z)
theorem desc_ok (T : Tot lt) (H : ∀ i j C, i < n → j < n → C (lt i j) s → cmp i j C s) {p : Array Nat} (P : POk p n) {Q : Array Nat × Nat × Nat → Shared → Prop} : ∀ (f k : Nat), 1 ≤ k → k + f ≤ n → DP lt p k →
    (∀ m, k ≤ m → m ≤ k + f → DP lt p m → Q (p, m, 0) s) → (kas_desc f p k 0).kasWp cmp Q s
  | 0, k, hk, hf, hs, h => h k (Nat.le_refl _) (Nat.le_refl _) hs
  | f + 1, k, hk, hf, hs, h => by
    refine H _ _ _ (P.inb (i := k) (by exact om14 hf)) (P.inb (i := k - 1) (by exact om15 hf)) ?_
    cases q : lt (p.getD k 0) (p.getD (k - 1) 0) with
    | true =>
      show ((if 0 > 0 then kas_desc f (kas_rev p (k - (0 + 1)) k) (k + 1) 0 else kas_desc f p (k + 1) 0) : KasT _).kasWp cmp Q s
      rw [if_neg (by exact om57)]
      exact desc_ok T H P f (k + 1) (by exact om26) (by exact om54 hf) (hs.step T hk q) fun m h1 h2 h3 => h m (by exact om55 h1) (by exact om56 h2) h3
    | false =>
      refine H _ _ _ (P.inb (i := k - 1) (by exact om15 hf)) (P.inb (i := k) (by exact om14 hf)) ?_
      have : lt (p.getD (k - 1) 0) (p.getD k 0) = true := T.tri _ _ (P.ne (by exact om14 hf) (by exact om15 hf) (by exact om199 hk)) q
      rw [this]
      exact h k (Nat.le_refl _) (by exact om53) hs
theorem POk.rev {p : Array Nat} {m : Nat} (P : POk p n) : POk (kas_rev p 0 m) n :=
  ⟨(mirror_size _ _ _ _).trans P.sz, (Array.Perm.toList (mirror_perm _ _ _ _)).trans P.perm⟩
theorem rev_get {p : Array Nat} {m k : Nat} (P : POk p n) (hm : m ≤ n) (hk : k < m) : gA (kas_rev p 0 m) k = gA p (m - 1 - k) := by
  refine gA_of ?_
  unfold kas_rev
  rw [getElem?_mirror (by rw [P.sz]; exact hm) _ (by exact om200)]
  have e1 : 0 + m - 1 - k = m - 1 - k := by exact om201
  rw [e1]
  split
  · exact gA_get (by rw [P.sz]; exact om202 (by assumption) hm)
  · have : k = m - 1 - k := by exact om203 hk (by assumption)
    rw [← this]; exact gA_get (by rw [P.sz]; exact om0 hk hm)
theorem DP.rev {p : Array Nat} {m : Nat} (T : Tot lt) (P : POk p n) (hm : m ≤ n) (h : DP lt p m) : SP lt (kas_rev p 0 m) m := by
  intro i j hij hj
  rw [rev_get P hm hj, rev_get P hm (by exact om204 hij hj)]
  exact T.asy _ _ (h (m - 1 - j) (m - 1 - i) (by exact om205 hij hj) (by exact om206 hj))
theorem count_ok (T : Tot lt) (H : ∀ i j C, i < n → j < n → C (lt i j) s → cmp i j C s) (hn : 2 ≤ n) {p : Array Nat} (P : POk p n) {Q : Nat × Array Nat → Shared → Prop}
    (h : ∀ m p', 1 ≤ m → m ≤ n → POk p' n → SP lt p' m → Q (m, p') s) : (kas_count n p).kasWp cmp Q s := by
  unfold kas_count
  rw [KasT.kasWp_bind]
  refine asc_ok T H P (n - 1) 1 (Nat.le_refl _) (by exact om207 hn) SP.one fun m h1 h2 h3 h4 => ?_
  by_cases e : m = n
  · subst e
    rw [if_pos (by simp)]
    exact h m p h1 (Nat.le_refl _) P h3
  · rw [if_neg (by simpa using e)]
    by_cases e1 : m > 1
    · rw [if_pos e1]
      refine H _ _ _ (P.inb (i := 0) (by exact om18 hn)) (P.inb (i := m - 1) (by exact om58 e1 h2)) ?_
      have : lt (p.getD 0 0) (p.getD (m - 1) 0) = true := T.tri _ _ (P.ne (by exact om58 e1 h2) (by exact om18 hn) (by exact om208 e1)) (h3 0 (m - 1) (by exact om209 e1) (by exact om210 e1))
      rw [this]
      exact h m p h1 (by exact om211 hn h2) P h3
    · rw [if_neg e1]
      have hm1 : m = 1 := by exact om212 h1 e1
      subst hm1
      unfold kas_descPart
      rw [KasT.kasWp_bind]
      refine desc_ok T H P (n - (1 + 1)) (1 + 1) (by exact om213) (by exact om214 hn) (fun i j hij hj => ?_) fun m2 g1 g2 g3 => ?_
      · have e2 : j = 1 := by exact om215 hj hij
        have e3 : i = 0 := by exact om216 hij e2
        subst e2; subst e3
        exact h4 (by exact om217 hn)
      · show ((if 0 > 0 then kas_tail3 m2 n (kas_rev p (m2 - (0 + 1)) m2) else kas_tail3 m2 n p) : KasT _).kasWp cmp Q s
        rw [if_neg (by exact om57)]
        unfold kas_tail3
        rw [KasT.kasWp_bind]
        refine asc_ok T H P.rev (n - m2) m2 (by exact om218 g1) (by exact om219 hn g2) (g3.rev T P (by exact om220 hn g2)) fun m3 f1 f2 f3 f4 => ?_
        exact h m3 _ (by exact om221 g1 f1) (by exact om222 hn g2 f2) P.rev f3
theorem place_ok (T : Tot lt) (H : ∀ i j C, i < n → j < n → C (lt i j) s → cmp i j C s) {p : Array Nat} (P : POk p n) {k : Nat} (hk : k < n) (hs : SP lt p k) {Q : Nat → Shared → Prop} : ∀ (f l r : Nat), l ≤ r → r ≤ k → r - l ≤ f →
    (∀ i, i < l → lt (gA p k) (gA p i) = false) → (∀ i, r ≤ i → i < k → lt (gA p k) (gA p i) = true) →
    (∀ l, l ≤ k → (∀ i, i < l → lt (gA p k) (gA p i) = false) → (∀ i, l ≤ i → i < k → lt (gA p k) (gA p i) = true) → Q l s) → (kas_place p k f l r).kasWp cmp Q s
  | 0, l, r, h1, h2, h3, h4, h5, h => h l (by exact om20 h1 h2) h4 fun i hi hik => h5 i (by exact om223 h3 hi) hik
  | f + 1, l, r, h1, h2, h3, h4, h5, h => by
    unfold kas_place
    by_cases e : l ≥ r
    · rw [if_pos e]
      exact h l (by exact om20 h1 h2) h4 fun i hi hik => h5 i (by exact om20 e hi) hik
    · rw [if_neg e]
      refine H _ _ _ (P.inb hk) (P.inb (i := (l + r) / 2) (by exact om224 hk h2 e)) ?_
      cases q : lt (p.getD k 0) (p.getD ((l + r) / 2) 0) with
      | true =>
        refine place_ok T H P hk hs f l ((l + r) / 2) (by exact om225 e) (by exact om226 h2 e) (by exact om227 h3) h4 (fun i hi hik => ?_) h
        by_cases e2 : i = (l + r) / 2
        · subst e2; exact q
        · have := hs ((l + r) / 2) i (by exact om228 hi e2) hik
          cases z : lt (gA p k) (gA p i) with
          | true => rfl
          | false =>
            have w := T.nt _ _ _ z this
            have q' : lt (gA p k) (gA p ((l + r) / 2)) = true := q
            rw [w] at q'; cases q'
      | false =>
        refine place_ok T H P hk hs f ((l + r) / 2 + 1) r (by exact om229 e) h2 (by exact om230 h3) (fun i hi => ?_) h5 h
        by_cases e2 : i = (l + r) / 2
        · subst e2; exact q
        · by_cases e3 : i < l
          · exact h4 i e3
          · exact T.nt _ _ _ q (hs i ((l + r) / 2) (by exact om231 hi e2) (by exact om232 h2 e))
theorem POk.bub {p : Array Nat} {k d : Nat} (P : POk p n) : POk (bubble p k d) n :=
  ⟨(bubble_size _ _ _).trans P.sz, (Array.Perm.toList (bubble_perm _ _ _)).trans P.perm⟩
theorem bub_get {p : Array Nat} {k l i : Nat} (P : POk p n) (hk : k < n) (hl : l ≤ k) (hi : i < n) : gA (bubble p k (k - l)) i = if i = l then gA p k else if l < i ∧ i ≤ k then gA p (i - 1) else gA p i := by
  refine gA_of ?_
  rw [getElem?_bubble (by rw [P.sz]; exact hk) _ (by exact om233)]
  have e : k - (k - l) = l := by exact om234 hl
  rw [e]
  split
  · exact gA_get (by rw [P.sz]; exact hk)
  · split
    · exact gA_get (by rw [P.sz]; exact om235 hi)
    · exact gA_get (by rw [P.sz]; exact hi)
theorem bin_ok (T : Tot lt) (H : ∀ i j C, i < n → j < n → C (lt i j) s → cmp i j C s) {Q : Array Nat → Shared → Prop} (h : ∀ p, POk p n → SP lt p n → Q p s) : ∀ (f : Nat) (p : Array Nat) (k : Nat), POk p n → SP lt p k → k + f = n → (kas_bin f p k).kasWp cmp Q s
  | 0, p, k, P, hs, e => by
    have : k = n := by exact om236 e
    subst this
    exact h p P hs
  | f + 1, p, k, P, hs, e => by
    unfold kas_bin
    rw [KasT.kasWp_bind]
    have hk : k < n := by exact om237 e
    refine place_ok T H P hk hs k 0 k (Nat.zero_le _) (Nat.le_refl _) (by exact om238) (fun i hi => absurd hi (Nat.not_lt_zero _)) (fun i h1 h2 => by exact om239 h2 h1) fun l h1 h2 h3 => ?_
    refine bin_ok T H h f _ (k + 1) P.bub (fun i j hij hj => ?_) (by exact om240 e)
    rw [bub_get P hk h1 (by exact om241 e hj), bub_get P hk h1 (by exact om242 e hj hij)]
    by_cases c1 : j = l
    · rw [if_pos c1, if_neg (by exact om243 hij c1), if_neg (by exact om244 hij c1)]
      exact h2 i (by exact om11 hij c1)
    · rw [if_neg c1]
      by_cases c2 : l < j ∧ j ≤ k
      · rw [if_pos c2]
        by_cases c3 : i = l
        · rw [if_pos c3]
          exact T.asy _ _ (h3 (j - 1) (by exact om245 c2) (by exact om246 c2))
        · rw [if_neg c3]
          by_cases c4 : l < i ∧ i ≤ k
          · rw [if_pos c4]; exact hs (i - 1) (j - 1) (by exact om247 c4 hij) (by exact om59 hj hij)
          · rw [if_neg c4]; exact hs i (j - 1) (by exact om248 c2 hij c4 c3) (by exact om59 hj hij)
      · rw [if_neg c2, if_neg (by exact om249 hj hij c2), if_neg (by exact om250 hj hij c2)]
        exact hs i j hij (by exact om251 hj h1 c2 c1)
theorem sort_ok (T : Tot lt) (H : ∀ i j C, i < n → j < n → C (lt i j) s → cmp i j C s) (hn : 2 ≤ n) {Q : Array Nat → Shared → Prop} (h : ∀ p, POk p n → SP lt p n → Q p s) : (kas_sort n).kasWp cmp Q s := by
  unfold kas_sort
  rw [KasT.kasWp_bind]
  refine count_ok T H hn ⟨by simp, by simp⟩ fun m p h1 h2 P hs => ?_
  dsimp only
  by_cases e : m < n
  · rw [if_pos e]
    have : max m 1 = m := by exact om252 h1
    rw [this]
    exact bin_ok T H h _ p m P hs (by exact om253 e)
  · rw [if_neg e]
    have : m = n := by exact om17 h2 e
    subst this
    exact h p P hs
theorem SP.pairwise {p : Array Nat} (P : POk p n) (h : SP lt p n) : p.toList.Pairwise (fun a b => lt b a = false) := by
  rw [List.pairwise_iff_getElem]
  intro i j hi hj hij
  have hi' : i < p.size := by simpa using hi
  have hj' : j < p.size := by simpa using hj
  have := h i j hij (by rw [← P.sz]; exact hj')
  have e1 : gA p i = p.toList[i] := by unfold gA; simp [Array.getD, hi']
  have e2 : gA p j = p.toList[j] := by unfold gA; simp [Array.getD, hj']
  rw [e1, e2] at this
  exact this
end
theorem list_sortT {w : World} {A : Around} {E : Value → Shared → Prop} {s : Shared} {a : Addr} {vs fs : List Value} {c : Nat} {lt : Nat → Nat → Bool} {g : Heap} {P : PySem.Fin → Shared → Prop} (ho : s.heap.get? a = some (lobj vs c)) (ga : g.get? a = none) (kg : Kp g s.heap)
    (h2 : 2 ≤ vs.length) (h64 : vs.length < 64) (T : Tot lt) (hk : KatTups g vs fs) (hfs : ∀ v ∈ fs, ∃ n t, v = Value.int n t)
    (hcmp : ∀ (i j : Nat) (s' : Shared) (Q : Bool → Shared → Prop), Kp g s'.heap → i < vs.length → j < vs.length → Q (lt i j) s' → wpAny (model P0 w) A (keyLt' (tuples' true) (vs.getD i Value.none) (vs.getD j Value.none)) Q (fun _ _ => False) s')
    (h : ∀ h' e p, Kp g h' → POk p vs.length → SP lt p vs.length → h'.get? a = some (lobj (p.toList.map fun i => vs.getD i Value.none) e) → P (.done (.ret .none)) { s with heap := h' }) :
    wpAny (model P0 w) A (Builtin.«list.sort» ⟨[.ref a], []⟩) P E s := by
  have ha : a < s.heap.objs.size := Heap.lt_size ho
  have ho : s.heap.get? a = some (seqObj "list" vs.toArray c) := ho
  obtain ⟨e1, ho1⟩ : ∃ e1, (s.heap.update a (Obj.mapSeq fun _ => (#[] : Array Value))).get? a = some (seqObj "list" #[] e1) := ⟨_, get?_update_seq ho fun _ => #[]⟩
  have k1 : Kp g (s.heap.update a (Obj.mapSeq fun _ => (#[] : Array Value))) := fun b o e => (Heap.get?_update_other _ _ (fun q : a = b => by rw [q, e] at ga; cases ga)).trans (kg _ _ e)
  rw [list_sort_plain]
  refine wpAny_bind (listItems_at ho rfl ?_)
  refine wpAny_bind (listUpdate_at ho rfl ?_ (by rw [List.size_toArray, sizeLine_eq]; exact om16 h64) (Nat.zero_le _))
  refine wpAny_bind (seqEpoch_at ho1 rfl ?_)
  refine wpAny_bind (wpAny_newTuple ?_ (by show vs.length ≤ _; rw [sizeLine_eq]; exact om16 h64))
  refine wpAny_bind (wpAny_newList ?_ (Nat.zero_le _))
  refine wpAny_holding ?_
  have k2 : Kp g (((s.heap.update a (Obj.mapSeq fun _ => (#[] : Array Value))).push (seqObj "tuple" vs.toArray 0)).push (seqObj "list" #[] 0)) := fun b o e => Heap.get?_push_of_some _ (Heap.get?_push_of_some _ (k1 _ _ e))
  have ho2 : (((s.heap.update a (Obj.mapSeq fun _ => (#[] : Array Value))).push (seqObj "tuple" vs.toArray 0)).push (seqObj "list" #[] 0)).get? a = some (seqObj "list" #[] e1) := Heap.get?_push_of_some _ (Heap.get?_push_of_some _ ho1)
  show wpAny (model P0 w) A _ P E { s with heap := ((s.heap.update a (Obj.mapSeq fun _ => (#[] : Array Value))).push (seqObj "tuple" vs.toArray 0)).push (seqObj "list" #[] 0) }
  generalize (((s.heap.update a (Obj.mapSeq fun _ => (#[] : Array Value))).push (seqObj "tuple" vs.toArray 0)).push (seqObj "list" #[] 0)) = h₂ at k2 ho2 ⊢
  dsimp only
  have hn2 : ¬ vs.toArray.size < 2 := by rw [List.size_toArray]; exact om254 h2
  rw [if_neg hn2, if_neg hn2]
  have hkl : ∀ (vs fs : List Value), KatTups g vs fs → KatTups h₂ vs fs ∧ vs.length = fs.length := by
    intro vs
    induction vs with
    | nil => intro fs h; cases fs with
      | nil => exact ⟨trivial, rfl⟩
      | cons _ _ => exact h.elim
    | cons v r ih => intro fs h; cases fs with
      | nil => exact h.elim
      | cons f q =>
        obtain ⟨⟨a, o, xs, n, e, x1, x2, x3, x4⟩, t⟩ := h
        obtain ⟨y1, y2⟩ := ih q t
        exact ⟨⟨⟨a, o, xs, n, e, k2 _ _ x1, x2, x3, x4⟩, y1⟩, by rw [List.length_cons, List.length_cons, y2]⟩
  obtain ⟨hk2, hvf⟩ := hkl vs fs hk
  refine wpAny_bind (kat_kind (s := { s with heap := h₂ }) (T := .type "int") hk2 (by exact om255 h2 hvf) (fun v hv => by
    obtain ⟨n, t, rfl⟩ := hfs v hv
    exact Looks.of_pure rfl) (by decide) ?_)
  have hT : ((Value.type "int") != Value.type "tuple") = true := by decide
  rw [hT]
  refine wpAny_bind (wpAny_mono (kat_run (Q := fun st' s' => ∃ p : Array Nat, arrOf st' = p.map (kas_item (vs.toArray.zip vs.toArray)) ∧ failedOf st' = none ∧ POk p vs.length ∧ SP lt p vs.length ∧ s' = { s with heap := h₂ })
    (G := fun p s' => POk p vs.length ∧ SP lt p vs.length ∧ s' = { s with heap := h₂ }) rfl h2 h64 (fun p' st' s' a1 a2 a3 a4 => ⟨p', a2, a3, a4⟩)
    (sort_ok T (fun i j C hi hj hC => ?_) h2 fun p hp hs => ⟨hp, hs, rfl⟩)) ?_ fun _ _ e => e)
  · exact hcmp i j _ _ k2 hi hj hC
  rintro ⟨⟨⟩, st'⟩ s' ⟨p, har, hf, hp, hs, rfl⟩
  dsimp only
  have hout := kat_snds (ks := vs) (vs := vs) rfl har
  have hsz : (List.toArray (p.toList.map fun i => vs.getD i Value.none)).size = vs.length := by rw [List.size_toArray, List.length_map, Array.length_toList, hp.sz]
  rw [hout]
  obtain ⟨c2, hc2⟩ : ∃ c2, (h₂.update a (Obj.mapSeq fun _ => List.toArray (p.toList.map fun i => vs.getD i Value.none))).get? a = some (seqObj "list" (List.toArray (p.toList.map fun i => vs.getD i Value.none)) c2) := ⟨_, get?_update_seq ho2 fun _ => List.toArray (p.toList.map fun i => vs.getD i Value.none)⟩
  refine wpAny_bind (seqEpoch_at ho2 rfl ?_)
  refine wpAny_bind (listUpdate_at ho2 rfl ?_ (Nat.zero_le _) (Nat.le_trans (Nat.le_of_eq hsz) (by rw [sizeLine_eq]; exact om256 h64)))
  rw [hf]
  simp only [bne_self_eq_false, Bool.false_eq_true, if_false]
  refine wpAny_pure (h _ c2 p (fun b o e => (Heap.get?_update_other _ _ (fun q : a = b => by rw [q, e] at ga; cases ga)).trans (k2 _ _ e)) hp hs hc2)
theorem sortedT {w : World} {A : Around} {E : Value → Shared → Prop} {s : Shared} {l : Addr} {vs fs : List Value} {lt : Nat → Nat → Bool} {Q : Value → Shared → Prop} (hl : s.heap.IsList l vs.toArray)
    (h2 : 2 ≤ vs.length) (h64 : vs.length < 64) (T : Tot lt) (hk : KatTups s.heap vs fs) (hfs : ∀ v ∈ fs, ∃ n t, v = Value.int n t)
    (hcmp : ∀ (i j : Nat) (s' : Shared) (Q : Bool → Shared → Prop), Kp s.heap s'.heap → i < vs.length → j < vs.length → Q (lt i j) s' → wpAny (model P0 w) A.in1.in1 (keyLt' (tuples' true) (vs.getD i Value.none) (vs.getD j Value.none)) Q (fun _ _ => False) s')
    (h : ∀ D h' e p, Kp s.heap h' → s.heap.get? D = none → POk p vs.length → SP lt p vs.length → h'.get? D = some (lobj (p.toList.map fun i => vs.getD i Value.none) e) → Q (.ref D) { s with heap := h' }) :
    wpAny (model P0 w) A (call (.builtin "sorted") [.ref l]) Q E s := by
  refine Calls.call_function_entry kind_sorted plain_sorted entry_sorted (args_sorted1 _) ?_
  unfold Builtin.«sorted»
  refine wpAny_bind (m := checkCount "sorted" 1 1 _) (wpAny_pure ?_)
  refine wpAny_bind (collect_list hl ?_ (by rw [sizeLine_eq]; exact om16 h64))
  refine wpAny_bind (wpAny_newList ?_ (by rw [sizeLine_eq]; exact om16 h64))
  have hsz : ((s.heap.push (seqObj "list" #[] 0)).update s.heap.objs.size (Obj.mapSeq (· ++ vs.toArray))).objs.size = s.heap.objs.size + 1 := by
    rw [Heap.size_update, size_push']
  have hoL : (((s.heap.push (seqObj "list" #[] 0)).update s.heap.objs.size (Obj.mapSeq (· ++ vs.toArray))).push (seqObj "list" vs.toArray 0)).get? (s.heap.objs.size + 1) = some (seqObj "list" vs.toArray 0) := by
    rw [← hsz]; exact Heap.get?_push_size _ rfl
  have keep : ∀ b o, s.heap.get? b = some o → (((s.heap.push (seqObj "list" #[] 0)).update s.heap.objs.size (Obj.mapSeq (· ++ vs.toArray))).push (seqObj "list" vs.toArray 0)).get? b = some o := fun b o q => by
    have hlt : b < s.heap.objs.size := Heap.lt_size q
    rw [Heap.get?_push_ne _ _ _ (by rw [hsz]; exact Nat.ne_of_lt (Nat.lt_succ_of_lt hlt)), Heap.get?_update_ne _ _ _ _ (Nat.ne_of_lt hlt), Heap.get?_push_ne _ _ _ (Nat.ne_of_lt hlt)]
    exact q
  show wpAny _ _ _ _ _ { s with heap := ((s.heap.push (seqObj "list" #[] 0)).update s.heap.objs.size (Obj.mapSeq (· ++ vs.toArray))).push (seqObj "list" vs.toArray 0) }
  rw [hsz]
  have gD : s.heap.get? (s.heap.objs.size + 1) = none := Heap.get?_none_of_le (Nat.le_succ _)
  refine wpAny_bind (wpAny_holding (wpAny_call_entry slot_list_sort ⟨_, hoL, rfl⟩ entry_list_sort ?_ (args_list_sort _)))
  refine list_sortT (s := { s with heap := _ }) hoL gD keep h2 h64 T hk hfs hcmp fun h' e p k' hp hs hD => ⟨_, rfl, ?_⟩
  exact wpAny_pure ⟨_, rfl, h _ _ e p k' gD hp hs hD⟩
theorem count_lt : ∀ (w c : Nat), c ≤ w → ((List.range w).filter fun i => decide (i < c)).length = c := by
  intro w
  induction w with
  | zero => intro c h; simp; exact om162 h
  | succ w ih =>
    intro c h
    rw [List.range_succ, List.filter_append, List.length_append]
    by_cases e : c = w + 1
    · subst e
      have h1 : (List.range w).filter (fun i => decide (i < w + 1)) = (List.range w).filter (fun i => decide (i < w)) := by
        refine List.filter_congr fun i hi => ?_
        have := List.mem_range.mp hi
        rw [decide_eq_true (by exact om2 this), decide_eq_true (by exact om27 this)]
      rw [h1, ih w (Nat.le_refl _)]
      simp
    · rw [ih c (by exact om47 h e)]
      have : ¬ w < c := by exact om163 h e
      simp [this]
structure MkOk (rs mks : List (List Int)) (wd : Nat) : Prop where
  len : mks.length = rs.length
  w : ∀ r ∈ mks, r.length = wd
  eq : ∀ j k, j < rs.length → k < rs.length → ∀ i, i < wd → ((rowAt mks j)[i]? = (rowAt mks k)[i]? ↔ (rowAt rs j).take (i + 1) = (rowAt rs k).take (i + 1))
theorem rowAt_mem {rs : List (List Int)} {j : Nat} (h : j < rs.length) : rowAt rs j ∈ rs := List.mem_of_getElem? (rowAt_get h)
theorem MkOk.alike {rs mks : List (List Int)} {wd : Nat} (M : MkOk rs mks wd) (hw : ∀ r ∈ rs, r.length = wd) {j k : Nat} (hj : j < rs.length) (hk : k < rs.length) : alikeN (rowAt mks j) (rowAt mks k) = lcpL rs j k := by
  have hwj := M.w _ (rowAt_mem (rs := mks) (j := j) (by rw [M.len]; exact hj))
  have r1 := hw _ (rowAt_mem hj)
  have r2 := hw _ (rowAt_mem hk)
  have hle := (lcp_le (rowAt rs j) (rowAt rs k)).1
  unfold alikeN
  rw [hwj, ← count_lt wd (lcpL rs j k) (by unfold lcpL; exact om164 r1 hle)]
  congr 1
  refine List.filter_congr fun i hi => ?_
  have hi := List.mem_range.mp hi
  have := M.eq j k hj hk i hi
  rw [lcp_iff (by exact om165 hi r1) (by exact om48 r1 r2)] at this
  by_cases h : (rowAt mks j)[i]? = (rowAt mks k)[i]?
  · rw [decide_eq_true h, decide_eq_true (show i < lcpL rs j k from this.mp h)]
  · rw [decide_eq_false h, decide_eq_false (show ¬ i < lcpL rs j k from fun z => h (this.mpr z))]
noncomputable def allAt (mks : List (List Int)) (k : Nat) : Bool := decide (∀ q, q < mks.length → (rowAt mks q)[k]? = (rowAt mks 0)[k]?)
theorem MkOk.count {rs mks : List (List Int)} {wd : Nat} (M : MkOk rs mks wd) (R : Rows rs wd) : ((List.range wd).filter (allAt mks)).length = (lcp (minR rs) (maxR rs)).length := by
  have hp := R.pos
  have hle := (lcp_le (minR rs) (maxR rs)).1
  rw [R.w _ (minR_ok R).1] at hle
  rw [← count_lt wd _ hle]
  congr 1
  refine List.filter_congr fun i hi => ?_
  have hi := List.mem_range.mp hi
  have key := cpR_iff R (i := i + 1) (by exact om9 hi)
  unfold allAt
  by_cases h : i < (lcp (minR rs) (maxR rs)).length
  · rw [decide_eq_true h, decide_eq_true]
    intro q hq
    rw [M.len] at hq
    exact (M.eq q 0 hq hp i hi).mpr (key.mp h _ (rowAt_mem hq) _ (rowAt_mem hp))
  · rw [decide_eq_false h, decide_eq_false]
    intro hc
    refine h (key.mpr fun r hr q hq => ?_)
    obtain ⟨a, ha⟩ := List.getElem?_of_mem hr
    obtain ⟨b, hb⟩ := List.getElem?_of_mem hq
    have hal := (List.getElem?_eq_some_iff.mp ha).1
    have hbl := (List.getElem?_eq_some_iff.mp hb).1
    have ea : rowAt rs a = r := by have := rowAt_get hal; rw [ha] at this; injection this with e; exact e.symm
    have eb : rowAt rs b = q := by have := rowAt_get hbl; rw [hb] at this; injection this with e; exact e.symm
    rw [← ea, ← eb]
    exact (M.eq a b hal hbl i hi).mp ((hc a (by rw [M.len]; exact hal)).trans (hc b (by rw [M.len]; exact hbl)).symm)
theorem sorted_uniq {α : Type} {lt : α → α → Bool} : ∀ {l₁ l₂ : List α}, l₁.Perm l₂ → l₁.Pairwise (fun a b => lt b a = false) → l₂.Pairwise (fun a b => lt b a = false) → (∀ a ∈ l₁, ∀ b ∈ l₁, lt a b = false → lt b a = false → a = b) → l₁ = l₂
  | [], l₂, p, _, _, _ => by rw [List.Perm.nil_eq p]
  | a :: r, [], p, _, _, _ => by have := p.length_eq; simp at this
  | a :: r, b :: q, p, h1, h2, h3 => by
    rw [List.pairwise_cons] at h1 h2
    have ha : a ∈ b :: q := p.subset List.mem_cons_self
    have hb : b ∈ a :: r := p.symm.subset List.mem_cons_self
    have e : a = b := by
      rcases List.mem_cons.mp ha with e | ha
      · exact e
      · rcases List.mem_cons.mp hb with e | hb
        · exact e.symm
        · exact h3 a List.mem_cons_self b (List.mem_cons_of_mem _ hb) (h2.1 a ha) (h1.1 b hb)
    subst e
    have p' : r.Perm q := (List.perm_cons a).mp p
    rw [sorted_uniq p' h1.2 h2.2 fun x hx y hy => h3 x (List.mem_cons_of_mem _ hx) y (List.mem_cons_of_mem _ hy)]
theorem tail_lt : ∀ {r q : List Int}, r.length = q.length → Dg r → Dg q → (tailC r < tailC q ↔ ltD r q = true)
  | [], [], _, _, _ => by simp [tailC, ltD]
  | a :: r, b :: q, h, ha, hb => by
    have ih := tail_lt (r := r) (q := q) (by simpa using h) (fun d hd => ha d (List.mem_cons_of_mem _ hd)) (fun d hd => hb d (List.mem_cons_of_mem _ hd))
    have h1 := ha a List.mem_cons_self
    have h2 := hb b List.mem_cons_self
    rw [tailC_cons, tailC_cons, List.cons_lt_cons_iff, List.cons_lt_cons_iff, ih]
    by_cases e : a = b
    · subst e; simp [ltD]
    · have : ¬ ((48 + a).toNat = (48 + b).toNat) := by exact om166 h2 e
      simp [ltD, e, this]; exact om167 h1
theorem text_lt {r q : List Int} (hl : r.length = q.length) (hd : Dg r) (hd' : Dg q) : sLt (textS r) (textS q) ↔ ltD r q = true := by
  unfold sLt
  cases r with
  | nil => cases q with
    | nil => rw [textS_nil]; simp [ltD]
    | cons b q => simp at hl
  | cons a r => cases q with
    | nil => simp at hl
    | cons b q =>
      rw [textS_tail _ (by simp), textS_tail _ (by simp)]
      exact tail_lt hl hd hd'
noncomputable def Bd (b : Int) (r : List Int) : Prop := ∀ d ∈ r, 0 ≤ d ∧ d < b
theorem worth_cons (b a : Int) (r : List Int) : worthN b (a :: r) = a * b ^ r.length + worthN b r := by
  have gen : ∀ (r : List Int) (w : Int), r.foldl (fun w d => w * b + d) w = w * b ^ r.length + r.foldl (fun w d => w * b + d) 0 := by
    intro r
    induction r with
    | nil => intro w; simp
    | cons x r ih =>
      intro w
      rw [List.foldl_cons, ih, List.foldl_cons, ih (0 * b + x), List.length_cons, Int.pow_succ]
      have : (w * b + x) * b ^ r.length = w * (b ^ r.length * b) + (0 * b + x) * b ^ r.length := by
        rw [Int.add_mul, Int.mul_assoc, Int.mul_comm b, Int.zero_mul, Int.zero_add]
      rw [this]; exact om168
  unfold worthN
  rw [List.foldl_cons, gen]
  simp
theorem worth_bd {b : Int} (hb : 0 < b) : ∀ {r : List Int}, Bd b r → 0 ≤ worthN b r ∧ worthN b r < b ^ r.length
  | [], _ => by simp [worthN]
  | a :: r, h => by
    obtain ⟨h1, h2⟩ := worth_bd hb (r := r) fun d hd => h d (List.mem_cons_of_mem _ hd)
    have ha := h a List.mem_cons_self
    rw [worth_cons, List.length_cons, Int.pow_succ]
    have hp : 0 < b ^ r.length := Int.pow_pos hb
    generalize b ^ r.length = P at *
    have h3 : 0 ≤ a * P := Int.mul_nonneg ha.1 (Int.le_of_lt hp)
    have h4 : (a + 1) * P ≤ b * P := Int.mul_le_mul_of_nonneg_right (by exact om169 ha) (Int.le_of_lt hp)
    rw [Int.add_mul, Int.one_mul] at h4
    rw [Int.mul_comm P b]
    exact om170 h1 h3 h4 h2
theorem worth_lt {b : Int} (hb : 0 < b) : ∀ {r q : List Int}, r.length = q.length → Bd b r → Bd b q → (ltD r q = true ↔ worthN b r < worthN b q)
  | [], [], _, _, _ => by simp [ltD, worthN]
  | a :: r, c :: q, h, hr, hq => by
    have hr' : Bd b r := fun d hd => hr d (List.mem_cons_of_mem _ hd)
    have hq' : Bd b q := fun d hd => hq d (List.mem_cons_of_mem _ hd)
    have hl : r.length = q.length := by simpa using h
    have ih := worth_lt hb hl hr' hq'
    have w1 := worth_bd hb hr'
    have w2 := worth_bd hb hq'
    rw [worth_cons, worth_cons, hl]
    rw [hl] at w1
    have hp : 0 < b ^ q.length := Int.pow_pos hb
    generalize b ^ q.length = P at *
    by_cases e : a = c
    · subst e
      simp only [ltD, if_true]
      rw [ih]; exact om171
    · simp only [ltD, e, if_false, decide_eq_true_eq]
      constructor
      · intro hlt
        have := Int.mul_le_mul_of_nonneg_right (show a + 1 ≤ c by exact om172 hlt) (Int.le_of_lt hp)
        rw [Int.add_mul, Int.one_mul] at this
        exact om173 w1 w2 this
      · intro hlt
        false_or_by_contra
        rename_i hn
        have := Int.mul_le_mul_of_nonneg_right (show c + 1 ≤ a by exact om174 hn e) (Int.le_of_lt hp)
        rw [Int.add_mul, Int.one_mul] at this
        exact om175 w1 w2 hlt this
noncomputable def ltW (b : Int) (rs : List (List Int)) (i j : Nat) : Bool := lexlt [.i (worthN b (rowAt rs i)), .i (i : Int)] [.i (worthN b (rowAt rs j)), .i (j : Int)]
theorem ltW_iff (b : Int) (rs : List (List Int)) (i j : Nat) : ltW b rs i j = true ↔ worthN b (rowAt rs i) < worthN b (rowAt rs j) ∨ (worthN b (rowAt rs i) = worthN b (rowAt rs j) ∧ i < j) := by
  unfold ltW
  simp only [lexlt, eqA, ltA]
  by_cases h : worthN b (rowAt rs i) = worthN b (rowAt rs j)
  · by_cases h2 : i = j
    · subst h2; simp
    · have : ¬ ((i : Int) = (j : Int)) := by exact om71 h2
      simp [h, this]
  · simp [h]
theorem ltW_tot (b : Int) (rs : List (List Int)) : Tot (ltW b rs) where
  irr i := by rw [bfalse (ltW_iff ..)]; exact om176
  nt i j k h h' := by rw [bfalse (ltW_iff ..)] at h h' ⊢; exact om177 h h'
  tri i j hn h := by rw [bfalse (ltW_iff ..)] at h; rw [ltW_iff]; exact om178 h hn
  asy i j h := by rw [ltW_iff] at h; rw [bfalse (ltW_iff ..)]; exact om179 h
noncomputable def keyW (rs : List (List Int)) (i : Nat) : Str × Int := (textS (rowAt rs i), (i : Int))
theorem ltW_key {b : Int} {rs : List (List Int)} {wd : Nat} (hb : 0 < b) (hw : ∀ r ∈ rs, r.length = wd) (hd : ∀ r ∈ rs, Dg r) (hB : ∀ r ∈ rs, Bd b r) {i j : Nat} (hi : i < rs.length) (hj : j < rs.length) : lt2 (keyW rs i) (keyW rs j) = ltW b rs i j := by
  have mi := rowAt_mem hi
  have mj := rowAt_mem hj
  have hl := (hw _ mi).trans (hw _ mj).symm
  have e1 := text_lt hl (hd _ mi) (hd _ mj)
  have e2 := text_lt hl.symm (hd _ mj) (hd _ mi)
  rw [worth_lt hb hl (hB _ mi) (hB _ mj)] at e1
  rw [worth_lt hb hl.symm (hB _ mj) (hB _ mi)] at e2
  have e3 : textS (rowAt rs i) = textS (rowAt rs j) ↔ worthN b (rowAt rs i) = worthN b (rowAt rs j) := by
    constructor
    · intro e
      have n1 : ¬ sLt (textS (rowAt rs i)) (textS (rowAt rs j)) := by rw [e]; exact sLt_irr _
      have n2 : ¬ sLt (textS (rowAt rs j)) (textS (rowAt rs i)) := by rw [e]; exact sLt_irr _
      rw [e1] at n1; rw [e2] at n2; exact om76 n1 n2
    · intro e
      rcases sLt_tri (textS (rowAt rs i)) (textS (rowAt rs j)) with z | z | z
      · rw [e1] at z; exact om180 z e
      · exact z
      · rw [e2] at z; exact om181 z e
  have a := lt2_iff (keyW rs i) (keyW rs j)
  have c := ltW_iff b rs i j
  unfold keyW at a ⊢
  simp only at a
  rw [e1, e3] at a
  have : ((i : Int) < (j : Int)) ↔ i < j := by exact om182
  rw [this, ← c] at a
  cases q : ltW b rs i j <;> cases q' : lt2 (textS (rowAt rs i), (i : Int)) (textS (rowAt rs j), (j : Int)) <;> simp_all
theorem keyL_eq (rs : List (List Int)) : keyL (rs.map textS) = (List.range rs.length).map (keyW rs) := by
  refine List.ext_getElem? fun i => ?_
  by_cases h : i < rs.length
  · rw [keyL_get (x := textS (rowAt rs i)) (by rw [List.getElem?_map, rowAt_get h]; rfl), List.getElem?_map, List.getElem?_range h]; rfl
  · rw [List.getElem?_eq_none (by rw [keyL_len, List.length_map]; exact om31 h), List.getElem?_eq_none (by rw [List.length_map, List.length_range]; exact om31 h)]
theorem popped_eq {b : Int} {rs : List (List Int)} {wd : Nat} (hb : 0 < b) (hw : ∀ r ∈ rs, r.length = wd) (hd : ∀ r ∈ rs, Dg r) (hB : ∀ r ∈ rs, Bd b r) {ps : List (Str × Int)} {p : Array Nat}
    (h1 : ps.Perm (keyL (rs.map textS))) (h2 : ps.Pairwise (fun a b => lt2 b a = false)) (P : POk p rs.length) (hs : SP (ltW b rs) p rs.length) : ps = p.toList.map (keyW rs) := by
  have hmem : ∀ x ∈ p.toList, x < rs.length := fun x hx => List.mem_range.mp (P.perm.subset hx)
  refine sorted_uniq (lt := lt2) (h1.trans (by rw [keyL_eq]; exact (P.perm.map _).symm)) h2 ?_ fun a ha c hc h h' => ?_
  · rw [List.pairwise_map]
    refine List.Pairwise.imp_of_mem ?_ (SP.pairwise P hs)
    intro x y hx hy hxy
    rw [ltW_key hb hw hd hB (hmem y hy) (hmem x hx)]; exact hxy
  · have ha := h1.subset ha
    have hc := h1.subset hc
    rw [keyL_eq] at ha hc
    obtain ⟨i, hi, rfl⟩ := List.mem_map.mp ha
    obtain ⟨j, hj, rfl⟩ := List.mem_map.mp hc
    have hi := List.mem_range.mp hi
    have hj := List.mem_range.mp hj
    rw [ltW_key hb hw hd hB hi hj] at h
    by_cases e : i = j
    · rw [e]
    · have t := (ltW_tot b rs).tri i j e h
      rw [ltW_key hb hw hd hB hj hi] at h'
      rw [t] at h'; cases h'
section
variable {w : World} {A : Around} {s : Shared} {Q E : Value → Shared → Prop} {B : Heap} {L : Addr} {m : Str → Option Value} {O O₁ O₂ X₀ : Led}
theorem range_all (n : Nat) : ((List.range n).all fun _ => true) = true := List.all_eq_true.mpr fun _ _ => rfl
theorem eqA_self (a : At) : eqA a a = true := by cases a <;> simp [eqA]
theorem kdA_self (a : At) : kdA a a = true := by cases a <;> rfl
theorem eqAt_leaf {v v' : Value} {a : At} (h : IsA v a) (h' : IsA v' a) : PySem.SeqAt.EqAt A s v v' true := by
  have := eqA_gives h h' (kdA_self a)
  rw [eqA_self] at this
  exact this.at A s
theorem eqAt_leaves {vs us : List Value} {as : List At} (hv : Paired IsA vs as) (hu : Paired IsA us as) : ∀ j (h1 : j < vs.toArray.size) (h2 : j < us.toArray.size), PySem.SeqAt.EqAt A s vs.toArray[j] us.toArray[j] true := by
  intro j h1 h2
  have h1' : j < vs.length := by simpa using h1
  have h2' : j < us.length := by simpa using h2
  obtain ⟨a, ha, hva⟩ := paired_getL hv (List.getElem?_eq_getElem h1')
  obtain ⟨c, hc, huc⟩ := paired_getL hu (List.getElem?_eq_getElem h2')
  rw [ha] at hc
  obtain rfl : a = c := by injection hc
  have := eqAt_leaf (A := A) (s := s) hva huc
  simpa using this
theorem eqAt_tup {T T' : Addr} {vs us : List Value} {as : List At} (hT : s.heap.get? T = some (tobj vs)) (hT' : s.heap.get? T' = some (tobj us)) (hv : Paired IsA vs as) (hu : Paired IsA us as) (hun : A.units < cLine) : PySem.SeqAt.EqAt A s (.ref T) (.ref T') true := by
  by_cases e : T = T'
  · subst e; exact PySem.SeqAt.EqAt.same _
  · have hl : vs.toArray.size = us.toArray.size := by rw [List.size_toArray, List.size_toArray, hv.length, hu.length]
    have := PySem.SeqAt.RcAt.tuples (s := s) (A := A) (e := fun _ => true) (isT hT) (isT hT') hun (eqAt_leaves hv hu)
    rw [hl, range_all, beq_self_eq_true, Bool.and_self] at this
    exact PySem.SeqAt.EqAt.of_refs e this
theorem neSame {l b : Addr} {items items2 : Array Value} (hl : s.heap.IsList l items) (hb : s.heap.IsList b items2) (hsz : items.size = items2.size) (hu : A.units < cLine)
    (he : ∀ j (h1 : j < items.size) (h2 : j < items2.size), PySem.SeqAt.EqAt A.in1 s items[j] items2[j] true) (h : Q (.bool false) s) : wpAny (model P0 w) A (compareOp .NotEq (.ref l) (.ref b)) Q E s := by
  have := PySem.SeqAt.RcNeAt.lists (e := fun _ => true) hl hb hsz hu he
  show wpAny _ _ (richCompare .NotEq (.ref l) (.ref b)) _ _ _
  rw [range_all] at this
  exact this _ _ _ _ h
theorem eqSame {l b : Addr} {items items2 : Array Value} (hl : s.heap.IsList l items) (hb : s.heap.IsList b items2) (hsz : items.size = items2.size) (hu : A.units < cLine)
    (he : ∀ j (h1 : j < items.size) (h2 : j < items2.size), PySem.SeqAt.EqAt A.in1 s items[j] items2[j] true) (h : Q (.bool true) s) : wpAny (model P0 w) A (compareOp .Eq (.ref l) (.ref b)) Q E s := by
  refine PySem.SeqAt.eq_listAt (e := fun _ => true) hl hb hsz hu he ?_
  rw [range_all]; exact h
theorem vsA {vs : List Value} {xs : List Str} (h : Paired VS vs xs) : Paired IsA vs (xs.map At.s) := by
  induction h with
  | nil => exact .nil
  | cons h t ih => obtain ⟨tk, rfl⟩ := h; exact .cons rfl ih
theorem neStrs {l b : Addr} {xs : List Str} (hl : SL s.heap l xs) (hb : SL s.heap b xs) (hu : A.units < cLine) (h : Q (.bool false) s) : wpAny (model P0 w) A (compareOp .NotEq (.ref l) (.ref b)) Q E s := by
  obtain ⟨vs, e, h1, p1⟩ := hl
  obtain ⟨us, e', h2, p2⟩ := hb
  exact neSame (isL h1) (isL h2) (by rw [List.size_toArray, List.size_toArray, p1.length, p2.length]) hu (eqAt_leaves (vsA p1) (vsA p2)) h
theorem paired_at {α : Type} {F F' : Value → α → Prop} {vs us : List Value} {ps : List α} (p1 : Paired F vs ps) (p2 : Paired F' us ps) {j : Nat} (h1 : j < vs.toArray.size) (h2 : j < us.toArray.size) : ∃ p, F vs.toArray[j] p ∧ F' us.toArray[j] p := by
  have h1' : j < vs.length := by simpa using h1
  have h2' : j < us.length := by simpa using h2
  obtain ⟨a, ha, hva⟩ := paired_getL p1 (List.getElem?_eq_getElem h1')
  obtain ⟨c, hc, huc⟩ := paired_getL p2 (List.getElem?_eq_getElem h2')
  rw [ha] at hc
  obtain rfl : a = c := by injection hc
  exact ⟨a, by simpa using hva, by simpa using huc⟩
theorem neTup2 {l b : Addr} {ps : List (Str × Int)} (hl : TL2 s.heap l ps) (hb : TL2 s.heap b ps) (hu : A.units + 1 < cLine) (h : Q (.bool false) s) : wpAny (model P0 w) A (compareOp .NotEq (.ref l) (.ref b)) Q E s := by
  obtain ⟨vs, e, h1, p1⟩ := hl
  obtain ⟨us, e', h2, p2⟩ := hb
  refine neSame (isL h1) (isL h2) (by rw [List.size_toArray, List.size_toArray, p1.length, p2.length]) (by exact om49 hu) (fun j q1 q2 => ?_) h
  obtain ⟨p, ⟨T, t, u, e1, hT⟩, ⟨T', t', u', e2, hT'⟩⟩ := paired_at p1 p2 q1 q2
  rw [e1, e2]
  exact eqAt_tup (as := [.s p.1, .i p.2]) hT hT' (.cons rfl (.cons rfl .nil)) (.cons rfl (.cons rfl .nil)) hu
theorem eqTupN {l b : Addr} {ps : List (Nat × Str)} (hl : TLN s.heap l ps) (hb : TLN s.heap b ps) (hu : A.units + 1 < cLine) (h : Q (.bool true) s) : wpAny (model P0 w) A (compareOp .Eq (.ref l) (.ref b)) Q E s := by
  obtain ⟨vs, e, h1, p1⟩ := hl
  obtain ⟨us, e', h2, p2⟩ := hb
  refine eqSame (isL h1) (isL h2) (by rw [List.size_toArray, List.size_toArray, p1.length, p2.length]) (by exact om49 hu) (fun j q1 q2 => ?_) h
  obtain ⟨p, ⟨T, t, u, e1, hT⟩, ⟨T', t', u', e2, hT'⟩⟩ := paired_at p1 p2 q1 q2
  rw [e1, e2]
  exact eqAt_tup (as := [.i (p.1 : Int), .s p.2]) hT hT' (.cons rfl (.cons rfl .nil)) (.cons rfl (.cons rfl .nil)) hu
theorem iterListT {l : Addr} {items : Array Value} {elts : List Expr} {x1 : Nat} {tp : Pos} (X₀ : Led) (hh : A.handled = none) (hl : B.IsList l items) (hr : ∀ (i : Nat) (v : Value), items[i]? = some v → ∃ T, v = .ref T) (S : St B L s.heap m (O ++ X₀))
    (h : ∀ I o h', St B L h' m (O ++ (X₀ ++ [(I, o)])) → SrcG w A B X₀ [(I, o)] h' I items.size (fun i v => items[i]? = some v) (.Tuple elts x1 tp) → Q (.ref I) { s with heap := h' }) :
    wpAny (model P0 w) A (pyIter (.ref l)) Q E s := by
  have hls : s.heap.IsList l items := hl.at fun o e => S.kp l o e
  obtain ⟨ol, hol, _⟩ := id hl
  have hlt : l < s.heap.objs.size := Heap.lt_size (S.kp _ _ hol)
  refine wpAny_pyIter_list hls (h _ _ _ (S.pushEnd _ rfl) ⟨[s.heap.objs.size, l], [s.heap.objs.size], _, Walks.list hh s.heap.objs.size l (Nat.ne_of_lt hlt) items, ?_, ?_, ?_, rfl, ?_⟩)
  · intro b hb
    rcases List.mem_cons.mp hb with q | q
    · exact .inl (by rw [q]; exact List.mem_cons_self)
    · exact .inr (.inl ⟨ol, by rw [List.mem_singleton.mp q]; exact hol⟩)
  · rintro i h' ⟨⟨o, ho, _⟩, _⟩ b hb
    exact ⟨o, by rw [List.mem_singleton.mp hb]; exact ho⟩
  · exact ⟨⟨_, Heap.get?_push_size _ rfl, rfl, rfl⟩, hls.at fun o e => Heap.get?_push_of_some _ e⟩
  · intro i v s' Q' E' hit hP hq
    obtain ⟨T, rfl⟩ := hr i v hP
    exact wpAny_letOwnedTupleGo_listiter hit.1 hq
theorem newSI (S : St B L s.heap m O)
    (h : ∀ D (led : Bool) h', St B L h' m ((D, { cls := .type "set", dict := none, data := .set #[] 0 (.fresh 0 0 led) }) :: O) → Q (.ref D) { s with heap := h' }) : wpAny (model P0 w) A (newSet (.type "set")) Q E s :=
  wpAny_newSet_of (knd := PySem.intKind P0 w) fun led _ => h _ led _ (S.push _ rfl)
theorem addSI {D : Addr} {o : Obj} {Sf : Int → Bool} {n : Nat} {k : Int} {t : Tok} (S : St B L s.heap m (O₁ ++ (D, o) :: O₂)) (ho : o.SetObjOf (PySem.intKind P0 w) Sf n) (hn : n ≤ 1000)
    (h : ∀ h' o' tk, o'.SetObjOf (PySem.intKind P0 w) (fun k' => Sf k' || decide (k' = k)) (if Sf k then n else n + 1) → St B L h' m (O₁ ++ (D, o') :: O₂) → Q .none { s with heap := h', toks := tk }) :
    wpAny (model P0 w) A (call (.builtin "set.add") [.ref D, .int k t]) Q E s := by
  have hg := (S.nw (D, o) (by simp)).1
  refine call_set_add (knd := PySem.intKind P0 w) (intKind_is _ _ _ _) rfl (ho.setOf hg (by unfold scanBound; exact om183 hn)) (by unfold scanBound; exact om184 hn) fun h' hs hS => ?_
  obtain ⟨o', ho', hso⟩ := hS.objOf
  exact h h' o' _ hso (S.sameBut hs ho')
theorem lenSI {D : Addr} {o : Obj} {Sf : Int → Bool} {n : Nat} (S : St B L s.heap m (O₁ ++ (D, o) :: O₂)) (ho : o.SetObjOf (PySem.intKind P0 w) Sf n) (hn : n ≤ 1000)
    (h : ∀ t tk, Q (.int n t) { s with toks := tk }) : wpAny (model P0 w) A (call (.builtin "len") [.ref D]) Q E s :=
  len_sl1 (show News B L s.heap (O₁ ++ (D, o) :: O₂) from S.nw) ho (by exact om185 hn) (h _ _)
end
structure Cnt (xs : List Int) (i : Nat) (Sf : Int → Bool) (n : Nat) : Prop where
  mem : ∀ k, Sf k = true ↔ ∃ q, q < i ∧ xs[q]? = some k
  one : 0 < i → (n = 1 ↔ ∀ q, q < i → xs[q]? = xs[0]?)
  pos : 0 < i → 1 ≤ n
  zero : i = 0 → n = 0
  le : n ≤ i
theorem Cnt.nil (xs : List Int) : Cnt xs 0 (fun _ => false) 0 := ⟨fun k => by simp, fun h => by exact om186 h, fun h => by exact om187 h, fun _ => rfl, Nat.le_refl _⟩
theorem Cnt.step {xs : List Int} {i n : Nat} {Sf : Int → Bool} {x : Int} (c : Cnt xs i Sf n) (hx : xs[i]? = some x) : Cnt xs (i + 1) (fun k' => Sf k' || decide (k' = x)) (if Sf x then n else n + 1) := by
  refine ⟨fun k => ?_, fun _ => ?_, fun _ => ?_, fun h => by exact om188 h, ?_⟩
  · rw [Bool.or_eq_true, c.mem, decide_eq_true_eq]
    constructor
    · rintro (⟨q, h1, h2⟩ | rfl)
      · exact ⟨q, by exact om2 h1, h2⟩
      · exact ⟨i, by exact om19, hx⟩
    · rintro ⟨q, h1, h2⟩
      by_cases e : q = i
      · subst e; rw [hx] at h2; injection h2 with h2; exact .inr h2.symm
      · exact .inl ⟨q, by exact om6 h1 e, h2⟩
  · by_cases hi : i = 0
    · subst hi
      have hS : Sf x = false := by
        cases q : Sf x with
        | false => rfl
        | true => obtain ⟨q, h, _⟩ := (c.mem x).mp q; exact om189 h
      rw [hS, c.zero rfl]
      simp only [Bool.false_eq_true, if_false, Nat.zero_add, true_iff]
      intro q hq
      have : q = 0 := by exact om190 hq
      rw [this]
    · have one := c.one (by exact om7 hi)
      have pos := c.pos (by exact om7 hi)
      cases hS : Sf x with
      | true =>
        rw [if_pos rfl, one]
        obtain ⟨q0, h1, h2⟩ := (c.mem x).mp hS
        constructor
        · intro h q hq
          by_cases e : q = i
          · subst e; rw [hx, ← h2]; exact h q0 h1
          · exact h q (by exact om6 hq e)
        · intro h q hq; exact h q (by exact om2 hq)
      | false =>
        rw [if_neg Bool.false_ne_true]
        constructor
        · intro h; exact om191 pos h
        · intro h
          have := h i (by exact om19)
          rw [hx] at this
          have := (c.mem x).mpr ⟨0, by exact om7 hi, this.symm⟩
          rw [hS] at this; cases this
  · split
    · rename_i hS
      by_cases hi : i = 0
      · obtain ⟨q, h, _⟩ := (c.mem x).mp hS; exact om192 h hi
      · exact c.pos (by exact om7 hi)
    · exact om26
  · have := c.le
    split <;> (first | exact om5 this | exact om34 this)
theorem lex2 (x i y j : Int) : lexlt [.i x, .i i] [.i y, .i j] = if x = y then (if i = j then false else decide (i < j)) else decide (x < y) := by
  simp only [lexlt, eqA, ltA]
  by_cases e : x = y <;> by_cases e2 : i = j <;> simp [e, e2]
theorem keyLtT {w : World} {A : Around} {s : Shared} {T1 T2 : Addr} {x y i j : Int} {t u t' u' : Tok} {Q : Bool → Shared → Prop} (h1 : s.heap.get? T1 = some (tobj [.int x t, .int i u])) (h2 : s.heap.get? T2 = some (tobj [.int y t', .int j u']))
    (hq : Q (lexlt [.i x, .i i] [.i y, .i j]) s) : wpAny (model P0 w) A (keyLt' (tuples' true) (.ref T1) (.ref T2)) Q (fun _ _ => False) s := by
  rw [lex2] at hq
  refine kat_lt h1 rfl h2 rfl ?_
  refine kat_cons ?_
  refine MeetsSeq.EqGives.int x y t t' _ _ _ _ _ _ ?_
  by_cases e : x = y
  · rw [if_pos e] at hq
    rw [show (x == y) = true by simp [e]]
    refine kat_yes ?_
    refine kat_cons ?_
    refine MeetsSeq.EqGives.int i j u u' _ _ _ _ _ _ ?_
    by_cases e2 : i = j
    · rw [if_pos e2] at hq
      rw [show (i == j) = true by simp [e2]]
      refine kat_yes ?_
      refine kat_nil ?_
      exact hq
    · rw [if_neg e2] at hq
      rw [show (i == j) = false by simp [e2]]
      refine kat_no ?_
      refine kat_one _ _ ?_
      exact PyProof.Rows.lt_int (show PySem.W.BoolBack Q (.bool (decide (i < j))) s from hq)
  · rw [if_neg e] at hq
    rw [show (x == y) = false by simp [e]]
    refine kat_no ?_
    exact kat_lt_int hq
noncomputable def RTW (b : Int) (rs : List (List Int)) (h : Heap) (v : Value) (i : Nat) : Prop := ∃ T t u, v = .ref T ∧ h.get? T = some (tobj [.int (worthN b (rowAt rs i)) t, .int (i : Int) u])
theorem RTW.kp {b : Int} {rs : List (List Int)} {h h' : Heap} {v : Value} {i : Nat} (x : RTW b rs h v i) (k : Kp h h') : RTW b rs h' v i := let ⟨a, t, u, e, q⟩ := x; ⟨a, t, u, e, k _ _ q⟩
theorem tupsW {b : Int} {rs : List (List Int)} {h : Heap} : ∀ {vs : List Value} {is : List Nat}, Paired (RTW b rs h) vs is → ∃ fs, KatTups h vs fs ∧ ∀ v ∈ fs, ∃ n t, v = Value.int n t := by
  intro vs is h
  induction h with
  | nil => exact ⟨[], .nil, fun v hv => by cases hv⟩
  | cons h0 _ ih =>
    obtain ⟨T, t, u, e, q⟩ := h0
    obtain ⟨fs, h1, h2⟩ := ih
    subst e
    refine ⟨_ :: fs, .cons q rfl rfl rfl h1, fun v hv => ?_⟩
    rcases List.mem_cons.mp hv with rfl | hv
    · exact ⟨_, _, rfl⟩
    · exact h2 v hv
noncomputable def ndO (o : Obj) : Prop := ∀ es n, o.data ≠ .dict es n
section
variable {w : World} {A : Around} {s : Shared} {Q E : Value → Shared → Prop} {B h : Heap} {L : Addr} {m : Str → Option Value} {O O₁ O₂ X₀ : Led}
theorem St.fix (S : St B L h m O) : ∃ C, Kp B C ∧ Kp C h ∧ (∀ b o, h.get? b = some o → ndO o → b ∉ O.map (·.1) → C.get? b = some o) ∧ St C L h m O := by
  refine via fun M_ k_ => ?_
  obtain ⟨C, k1, k2, k3, _, S'⟩ := St.freeze (O₁ := []) (O₂ := O) S
  refine k_ ?_
  clear k_ M_
  refine ⟨C, k1, k2, fun b o hb ho hn => k3 b o hb (fun q => ?_) hn, S'⟩
  refine via fun M_ k_ => ?_
  obtain ⟨oL, es, ep, hL, hd, _⟩ := S.ns
  refine k_ ?_
  clear k_ M_
  rw [q, hL] at hb
  injection hb with hb
  exact ho es ep (hb ▸ hd)
theorem ndL (vs : List Value) (e : Nat) : ndO (lobj vs e) := fun es n q => by cases q
theorem ndT (vs : List Value) : ndO (tobj vs) := fun es n q => by cases q
end
theorem SrcG.tp {w : World} {A : Around} {B : Heap} {X₀ X : Led} {h : Heap} {I : Addr} {n : Nat} {P : Nat → Value → Prop} {e1 e2 : List Expr} {x1 x2 : Nat} {p1 p2 : Pos} (sr : SrcG w A B X₀ X h I n P (.Tuple e1 x1 p1)) : SrcG w A B X₀ X h I n P (.Tuple e2 x2 p2) := by
  refine via fun M_ k_ => ?_
  obtain ⟨fp, wr, It, W, h1, h2, h3, h4, g⟩ := sr
  refine k_ ?_
  clear k_ M_
  exact ⟨fp, wr, It, W, h1, h2, h3, h4, g⟩
theorem side_spec {w : World} {A : Around} {s : Shared} {Q E : Value → Shared → Prop} {a mk : Addr} {rs mks : List (List Int)} {wd : Nat} {bts : Array UInt8} {tb tbs : Tok} {b : Int} (r : Rm A 12) (G : Gd w s.heap) (hbt : KBw.bInts bts = laidN rs) (ha : IIL s.heap a rs) (hm : IIL s.heap mk mks) (R : Rows rs wd) (hw1 : 1 ≤ wd) (hw2 : wd ≤ 100) (hn2 : 2 ≤ rs.length) (hn : rs.length ≤ 60)
    (hb : 2 ≤ b ∧ b ≤ 5) (hB : ∀ r ∈ rs, Bd b r) (M : MkOk rs mks wd)
    (h : ∀ h' tk', Kp s.heap h' → Q (.bool true) {s with heap := h', toks := tk'}) :
    wpAny (model P0 w) A (call (.ref 206) [.bytes bts tb, .ref a, .int b tbs, .ref mk]) Q E s := by
  refine enterC [("row", .bytes bts tb), ("rows", .ref a), ("base", .int b tbs), ("marks", .ref mk)] G r.room rfl rfl rfl rfl (by decide) rfl rfl rfl ?_
  intro L h₁ tk cells hcs S
  refine via fun M_ k_ => ?_
  obtain ⟨o3, o2, o1, rfl, hc3, hc2, hc1⟩ := CellsAre.three hcs
  refine k_ ?_
  clear k_ M_
  refine via fun M_ k_ => ?_
  obtain ⟨C, kC, kCh, hC, hO, S₁⟩ := St.freeze (O₁ := [(_, o3), (_, o2), (_, o1)]) (O₂ := []) S
  refine k_ ?_
  clear k_ M_
  have c3 : C.IsCell (L + 1 + 1 + 1) _ := ⟨o3, hO _ (.head _), hc3⟩
  have c2 : C.IsCell (L + 1 + 1) _ := ⟨o2, hO _ (.tail _ (.head _)), hc2⟩
  have c1 : C.IsCell (L + 1) _ := ⟨o1, hO _ (.tail _ (.tail _ (.head _))), hc1⟩
  have GC := G.kp kC
  have hac := ha.kp kC
  have hmc := hm.kp kC
  refine via fun M_ k_ => ?_
  obtain ⟨vs, e, hva, hP⟩ := ha.kp kC
  refine k_ ?_
  clear k_ M_
  refine via fun M_ k_ => ?_
  obtain ⟨us, e', hub, hU⟩ := hm.kp kC
  refine k_ ?_
  clear k_ M_
  have hvl : vs.length = rs.length := hP.length
  have hul : us.length = rs.length := hU.length.trans M.len
  have hrp : 0 < rs.length := by exact om18 hn2
  clear S hc1 hc2 hc3 hC hO hcs
  try dsimp only
  have c1 : C.IsCell (L + 1) (some (.ref a)) := c1
  have c2 : C.IsCell (L + 1 + 1) (some (.int b tbs)) := c2
  have c3 : C.IsCell (L + 1 + 1 + 1) (some (.ref mk)) := c3
  have getR : ∀ {i : Nat}, i < rs.length → ∃ ad, vs[i]? = some (.ref ad) ∧ IL C ad (rowAt rs i) := fun {i} hi => by
    refine via fun M_ k_ => ?_
    obtain ⟨v, hv1, ad, rfl, hil⟩ := paired_get hP (rowAt_get hi)
    refine k_ ?_
    clear k_ M_
    exact ⟨ad, hv1, hil⟩
  have getM : ∀ {i : Nat}, i < rs.length → ∃ ad, us[i]? = some (.ref ad) ∧ IL C ad (rowAt mks i) := fun {i} hi => by
    refine via fun M_ k_ => ?_
    obtain ⟨v, hv1, ad, rfl, hil⟩ := paired_get hU (rowAt_get (rs := mks) (by rw [M.len]; exact hi))
    refine k_ ?_
    clear k_ M_
    exact ⟨ad, hv1, hil⟩
  try dsimp only
  walk_at "go"
  refine via fun M_ k_ => ?_
  obtain ⟨a0, ha0, rv0, e0, hrv0, hp0⟩ := getR hrp
  refine k_ ?_
  clear k_ M_
  have hw0 : rv0.length = wd := hp0.length.trans (R.w _ (rowAt_mem hrp))
  refine itemL (isL (S₁.kp _ _ hva)) (j := 0) rfl (by exact om10) (by simpa using ha0) (by with_unfolding_all rfl) ?_
  try dsimp only
  walk_at "go"
  refine lenL (isL (S₁.kp _ _ hrv0)) (by rw [List.size_toArray]; exact om24 hw0 hw2) ?_
  intro t₂ tk₂
  rw [List.size_toArray, hw0]
  try dsimp only
  walk_at "go"
  refine ways_spec (r.less (k := 4) (by exact om193) |>.deep _) (inG GC S₁) hbt R.d R.w hw1 hw2 (by exact om32 hn) ?_
  intro W h₂ tk₃ k₂ hW
  have S₂ := S₁.keep k₂
  clear S₁
  refine via fun M_ k_ => ?_
  obtain ⟨wv, we, hWo, hWp⟩ := hW
  refine k_ ?_
  clear k_ M_
  refine via fun M_ k_ => ?_
  obtain ⟨C₁, kC₁, kCh₁, hC₁, S₃⟩ := S₂.fix
  refine k_ ?_
  clear k_ M_
  have hWC := hC₁ _ _ hWo (ndL _ _) (by simp)
  clear S₂ hC₁
  have GC₁ := GC.kp kC₁
  have d1 := c1.keeps kC₁
  have d2 := c2.keeps kC₁
  have d3 := c3.keeps kC₁
  have hva₁ := kC₁ _ _ hva
  have hub₁ := kC₁ _ _ hub
  try dsimp only
  walk_at "go"
  refine lcomp_eval rfl rfl (by decide) (fun _ => rfl) ?_
  try dsimp only
  walk_at "go"
  rename_i h₄ S₄
  refine iterList (O := []) [] r.hand (isL hva₁) S₄ ?_
  intro I o h₅ S₅ sr
  refine lcomp_src0 (O := []) (X₀ := []) (X := [(I, o)]) (fun i C O acc => O = [] ∧ Paired VS acc ((rs.take i).map textS)) sr rfl (by decide) rfl S₅ ⟨rfl, .nil⟩ (by rw [sizeLine_eq, List.size_toArray, hvl]; exact om194 hn) (fun _ => rfl) ?_ ?_
  · rintro Cl D i v C' h m O X e acc tk hi hv kC' ⟨rfl, hacc⟩ S₆
    rw [List.size_toArray, hvl] at hi
    refine via fun M_ k_ => ?_
    obtain ⟨ai, hai, hil⟩ := getR hi
    refine k_ ?_
    clear k_ M_
    obtain rfl : v = .ref ai := by simpa [hai] using hv.symm
    have GC' := GC₁.kp kC'
    refine wpAny_assign_Name ?_
    try dsimp only
    walk_at "go"
    refine tests_nil ?_
    try dsimp only
    walk_at "go"
    rename_i h₇ S₇
    refine text_spec (r.less (k := 2) (by exact om50) |>.deep _) (inG GC' S₇) (hil.kp (kC₁.trans (kC'.trans S₇.kp))) (R.d _ (rowAt_mem hi)) (by rw [R.w _ (rowAt_mem hi)]; exact om77 hw2) ?_
    intro h₈ tk₈ t₈ k₈
    refine elt_mk (O' := []) (kp_refl _) (S₇.keep k₈) ⟨rfl, ?_⟩
    rw [take_succ' (rowAt_get hi), List.map_append]
    exact hacc.snoc ⟨_, rfl⟩
  · intro D C' h₉ Cl mc oL O acc e tk kC' ⟨hO, hacc⟩ hoL S₆
    subst hO
    refine post_none hoL S₆ ?_
    intro h₁₀ S₁₀
    rw [List.size_toArray, hvl, List.take_length] at hacc
    have K₁ := kC₁.trans kC'
    refine neStrs (xs := rs.map textS) ⟨_, _, S₁₀.kp _ _ (kC' _ _ hWC), hWp⟩ ⟨_, _, S₁₀.get (.head _), hacc⟩ (r.deep _).line ?_
    have S₁₁ : St C' L h₁₀ _ [] := S₁₀.drop (List.nil_sublist _)
    have GC' := GC.kp K₁
    have d1' := d1.keeps kC'
    have d2' := d2.keeps kC'
    have d3' := d3.keeps kC'
    have hWC' := kC' _ _ hWC
    clear S₁₀ hacc
    try dsimp only
    walk_at "go"
    refine lcomp_eval rfl rfl (by decide) (fun _ => rfl) ?_
    try dsimp only
    walk_at "go"
    refine lenL (isL (S₁₁.kp _ _ (K₁ _ _ hva))) (by rw [List.size_toArray]; exact om444 hvl hn) ?_
    intro t₁₂ tk₁₂
    rw [List.size_toArray, hvl]
    try dsimp only
    walk_at "go"
    refine callRange1 S₁₁ ?_
    intro Rg h₁₂ tk₁₃ u₁ v₁ S₁₂ hRg
    refine iterRange0 (O := []) [] r.hand hRg (by exact om445 hn) S₁₂ ?_
    intro I₂ o₂ h₁₃ S₁₃ sr₂
    refine lcomp_src0 (O := []) (X₀ := []) (X := [(I₂, o₂)]) (fun i C O acc => O = [] ∧ Paired (RTW b rs C) acc (List.range i)) sr₂ rfl (by decide) rfl S₁₃ ⟨rfl, .nil⟩ (by rw [sizeLine_eq]; exact om194 hn) (fun _ => rfl) ?_ ?_
    · rintro Cl D i v C'' h m O X e acc tk hi ⟨t, rfl⟩ kC'' ⟨rfl, hacc⟩ S₁₄
      refine via fun M_ k_ => ?_
      obtain ⟨ai, hai, hil⟩ := getR hi
      refine k_ ?_
      clear k_ M_
      have GC'' := GC'.kp kC''
      have d1'' := d1'.keeps kC''
      have d2'' := d2'.keeps kC''
      refine wpAny_assign_Name ?_
      try dsimp only
      walk_at "go"
      refine tests_nil ?_
      try dsimp only
      walk_at "go"
      rename_i h₁₅ S₁₅
      refine itemL (isL (S₁₅.kp _ _ (kC'' _ _ (K₁ _ _ hva)))) (j := i) rfl (by exact om195 hi hn) (by simpa using hai) (by with_unfolding_all rfl) ?_
      try dsimp only
      walk_at "go"
      refine worth_spec (r.less (k := 2) (by exact om50) |>.deep _) (inG GC'' S₁₅) (hil.kp (K₁.trans (kC''.trans S₁₅.kp))) hb ?_
      intro h₁₆ tk₁₆ t₁₆ k₁₆
      have S₁₆ := S₁₅.keep k₁₆
      clear S₁₅ S₁₄
      try dsimp only
      walk_at "go"
      refine newT S₁₆ (by walk_at "sz") ?_
      intro T h₁₇ S₁₇
      refine via fun M_ k_ => ?_
      obtain ⟨C₄, kC₄, kCh₄, hC₄, hO₄, S₁₈⟩ := St.freeze (O₁ := [(T, _)]) (O₂ := (D, lobj acc e) :: X) S₁₇
      refine k_ ?_
      clear k_ M_
      have hT := hO₄ _ (.head _)
      refine elt_mk (O' := []) kC₄ S₁₈ ⟨rfl, ?_⟩
      rw [List.range_succ]
      exact (hacc.mono fun _ _ z => z.kp kC₄).snoc ⟨T, _, _, rfl, hT⟩
    · intro D C'' h₁₄ Cl mc oL O acc e tk kC'' ⟨hO, hacc⟩ hoL S₁₄
      subst hO
      refine post_none hoL S₁₄ ?_
      intro h₁₅ S₁₅
      have hal : acc.length = rs.length := by rw [hacc.length, List.length_range]
      have GC'' := GC'.kp kC''
      try dsimp only
      walk_at "go"
      have hacc₁ := hacc.mono fun _ _ z => RTW.kp z S₁₅.kp
      refine via fun M_ k_ => ?_
      obtain ⟨fs, hk, hfs⟩ := tupsW hacc₁
      refine k_ ?_
      clear k_ M_
      have getA : ∀ {i : Nat}, i < rs.length → RTW b rs h₁₅ (acc.getD i Value.none) i := fun {i} hi => by
        refine via fun M_ k_ => ?_
        obtain ⟨v, hv1, hv2⟩ := paired_get hacc₁ (List.getElem?_range hi)
        refine k_ ?_
        clear k_ M_
        rw [List.getD_eq_getElem?_getD, hv1]; exact hv2
      refine sortedT (vs := acc) (fs := fs) (lt := ltW b rs) (isL (S₁₅.get (.head _))) (by exact om446 hn2 hal) (by exact om447 hal hn) (ltW_tot b rs) hk hfs ?_ ?_
      · intro i j s' Q' kg hi hj hq
        refine via fun M_ k_ => ?_
        obtain ⟨T1, t1, u1, e1, hT1⟩ := getA (i := i) (by exact om11 hi hal)
        refine k_ ?_
        clear k_ M_
        refine via fun M_ k_ => ?_
        obtain ⟨T2, t2, u2, e2, hT2⟩ := getA (i := j) (by exact om11 hj hal)
        refine k_ ?_
        clear k_ M_
        rw [e1, e2]
        exact keyLtT (kg _ _ hT1) (kg _ _ hT2) hq
      · intro Od h₁₆ e₁₆ p k₁₆ hOdn hp hs hOd
        rw [hal] at hp hs
        have hord : Paired (RTW b rs h₁₅) (p.toList.map fun i => acc.getD i Value.none) p.toList := by
          have : ∀ l : List Nat, (∀ x ∈ l, x < rs.length) → Paired (RTW b rs h₁₅) (l.map fun i => acc.getD i Value.none) l := by
            intro l
            induction l with
            | nil => intro _; exact .nil
            | cons x q ih => intro hx; exact .cons (getA (hx x List.mem_cons_self)) (ih fun y hy => hx y (List.mem_cons_of_mem _ hy))
          exact this _ fun x hx => List.mem_range.mp (hp.perm.subset hx)
        have hord₂ := hord.mono fun _ _ z => RTW.kp z k₁₆
        have S₁₆ : St C'' L h₁₆ _ [] := (S₁₅.keep k₁₆).drop (List.nil_sublist _)
        refine via fun M_ k_ => ?_
        obtain ⟨C₅, kC₅, kCh₅, hC₅, S₁₇⟩ := S₁₆.fix
        refine k_ ?_
        clear k_ M_
        have hOC := hC₅ _ _ hOd (ndL _ _) (by simp)
        have hord₃ : Paired (RTW b rs C₅) (p.toList.map fun i => acc.getD i Value.none) p.toList := hord₂.mono fun _ _ ⟨T, t, u, e, q⟩ => ⟨T, t, u, e, hC₅ _ _ q (ndT _) (by simp)⟩
        clear S₁₆ S₁₅ hord hord₂ hC₅ hacc₁ hk
        have K₂ := K₁.trans (kC''.trans kC₅)
        have GC₅ := GC.kp K₂
        have f1 := d1'.keeps (kC''.trans kC₅)
        have f2 := d2'.keeps (kC''.trans kC₅)
        have f3 := d3'.keeps (kC''.trans kC₅)
        have hWC₅ := kC₅ _ _ (kC'' _ _ hWC')
        try dsimp only
        walk_at "go"
        rename_i h₁₈ S₁₈
        refine popped_spec (r.less (k := 5) (by exact om448) |>.deep _) (inG GC₅ S₁₈) ⟨_, _, S₁₈.kp _ _ hWC₅, hWp⟩ (by rw [List.length_map]; exact om32 hn) ?_
        intro Pd h₁₉ tk₁₉ ps k₁₉ hPd hperm hpw
        have S₁₉ := S₁₈.keep k₁₉
        clear S₁₈
        have hps := popped_eq (by exact om449 hb) R.w R.d hB hperm hpw hp hs
        subst hps
        clear hperm hpw
        refine via fun M_ k_ => ?_
        obtain ⟨pv, pe, hPdo, hPdp⟩ := hPd
        refine k_ ?_
        clear k_ M_
        refine via fun M_ k_ => ?_
        obtain ⟨C₆, kC₆, kCh₆, hC₆, S₂₀⟩ := S₁₉.fix
        refine k_ ?_
        clear k_ M_
        have hPC := hC₆ _ _ hPdo (ndL _ _) (by simp)
        have hPp : Paired (RT2 C₆) pv (p.toList.map (keyW rs)) := hPdp.mono fun _ _ ⟨T, t, u, e, q⟩ => ⟨T, t, u, e, hC₆ _ _ q (ndT _) (by simp)⟩
        clear S₁₉ hC₆ hPdp
        have K₃ := K₂.trans kC₆
        have GC₆ := GC.kp K₃
        have g1 := f1.keeps kC₆
        have g2 := f2.keeps kC₆
        have g3 := f3.keeps kC₆
        have hOC₆ := kC₆ _ _ hOC
        have hWC₆ := kC₆ _ _ hWC₅
        have hord₆ := hord₃.mono fun _ _ z => RTW.kp z kC₆
        have hpl : p.toList.length = rs.length := by rw [Array.length_toList]; exact hp.sz
        have hpb : ∀ x ∈ p.toList, x < rs.length := fun x hx => List.mem_range.mp (hp.perm.subset hx)
        try dsimp only
        walk_at "go"
        refine lcomp_eval rfl rfl (by decide) (fun _ => rfl) ?_
        try dsimp only
        walk_at "go"
        refine iterListT (O := []) (elts := []) (x1 := 0) (tp := ⟨0, 0, 0, 0⟩) [] r.hand (isL hOC₆) (fun i v hv => by
          refine via fun M_ k_ => ?_
          obtain ⟨_, _, T, t, u, e, _⟩ := paired_getL hord₆ (show _ = some v by simpa using hv)
          refine k_ ?_
          clear k_ M_
          exact ⟨T, e⟩) S₂₀ ?_
        intro I₃ o₃ h₂₁ S₂₁ sr₃
        refine comp_at0 (O := []) (X₀ := []) (X := [(I₃, o₃)]) (target := .Tuple [] 0 ⟨0, 0, 0, 0⟩) sr₃ rfl (by decide) rfl S₂₁ (fun Q' E' q => newL S₂₁ (by decide) q) (fun D cenv s' R a b => codeAny_compStart_list a b) ?_
        intro D₃ Cl₃ oL₃ h₂₂ hoL₃ S₂₂ sr₄
        refine comp_walk (O := [(D₃, lobj [] 0)]) (X₀ := [] ++ [(L, oL₃)]) (X := [(I₃, o₃)]) (fun i C m O => ∃ acc e, O = [(D₃, lobj acc e)] ∧ Paired (RT2 C) acc ((p.toList.take i).map (keyW rs))) sr₄.tp (ct_list1 ..) rfl rfl rfl S₂₂ ⟨[], 0, rfl, .nil⟩ ?_ ?_
        · intro i v C₇ h m O X tk hi hv kC₇ hq74_ S₂₃
          refine via fun M_ k_ => ?_
          obtain ⟨acc, e, rfl, hacc⟩ := hq74_
          refine k_ ?_
          clear k_ M_
          have hi' : i < p.toList.length := by
            have : i < (p.toList.map fun i => acc.getD i Value.none).toArray.size := by simpa using hi
            simpa using this
          refine via fun M_ k_ => ?_
          obtain ⟨x, hx, T, t, u, rfl, hT⟩ := paired_getL hord₆ (show _ = some v by simpa using hv)
          refine k_ ?_
          clear k_ M_
          have hxn := hpb x (List.mem_of_getElem? hx)
          refine via fun M_ k_ => ?_
          obtain ⟨ai, hai, hil⟩ := getR hxn
          refine k_ ?_
          clear k_ M_
          have GC₇ := GC₆.kp kC₇
          have g1' := g1.keeps kC₇
          refine wpAny_assign_Tuple r.hand (isT (S₂₃.kp _ _ (kC₇ _ _ hT))) rfl rfl fun h₂₄ hs₂₄ => ?_
          have S₂₄ := S₂₃.keep (h' := h₂₄) fun b o q => hs₂₄ b o (Nat.ne_of_lt (Heap.lt_size q)) q
          clear S₂₃
          show wpAny _ _ (holding _ (assign (.Name _ _) _ _) >>= fun _ => holding [] (assign (.Name _ _) _ _) >>= fun _ => pure ()) _ _ _
          refine wpAny_bind (wpAny_holding (wpAny_assign_Name (stL S₂₄ rfl (by with_unfolding_all rfl) (by with_unfolding_all rfl) fun h₂₅ S₂₅ => ?_)))
          refine wpAny_bind (wpAny_holding (wpAny_assign_Name (stL S₂₅ rfl (by with_unfolding_all rfl) (by with_unfolding_all rfl) fun h₂₆ S₂₆ => wpAny_pure ?_)))
          clear S₂₄ S₂₅
          try dsimp only
          refine wpAny_bind (wpAny_bind ?_)
          try dsimp only
          walk_at "go"
          refine itemL (isL (S₂₆.kp _ _ (kC₇ _ _ (K₃ _ _ hva)))) (j := x) rfl (by exact om195 hxn hn) (by simpa using hai) (by with_unfolding_all rfl) ?_
          try dsimp only
          walk_at "go"
          refine text_spec (r.less (k := 2) (by exact om50) |>.deep _) (inG GC₇ S₂₆) (hil.kp (K₃.trans (kC₇.trans S₂₆.kp))) (R.d _ (rowAt_mem hxn)) (by rw [R.w _ (rowAt_mem hxn)]; exact om77 hw2) ?_
          intro h₂₇ tk₂₇ t₂₇ k₂₇
          have S₂₇ := S₂₆.keep k₂₇
          clear S₂₆
          try dsimp only
          walk_at "go"
          refine newT S₂₇ (by walk_at "sz") ?_
          intro T2 h₂₈ S₂₈
          refine wpAny_bind (appL (O₁ := [(T2, _)]) S₂₈ ?_ ?_)
          · rw [hacc.length, List.length_map, List.length_take, sizeLine_eq]; exact om450 hpl hn
          · intro h₂₉ e₂₉ S₂₉
            refine via fun M_ k_ => ?_
            obtain ⟨C₈, kC₈, kCh₈, hC₈, hO₈, S₃₀⟩ := St.freeze (O₁ := [(T2, _)]) (O₂ := (D₃, _) :: X) S₂₉
            refine k_ ?_
            clear k_ M_
            have hT2 := hO₈ _ (.head _)
            refine wpAny_pure (wpAny_pure ⟨rfl, ?_⟩)
            refine turned_mk kC₈ (O' := [(D₃, _)]) S₃₀ ⟨_, _, rfl, ?_⟩
            rw [take_succ' hx, List.map_append]
            refine (hacc.mono fun _ _ z => (cmp2 w).mono kC₈ z).snoc ?_
            exact ⟨T2, _, _, rfl, hT2⟩
        · intro C₇ h₂₃ m O tk kC₇ hq75_ S₂₃
          refine via fun M_ k_ => ?_
          obtain ⟨acc, e, rfl, hacc⟩ := hq75_
          refine k_ ?_
          clear k_ M_
          refine post_none hoL₃ S₂₃ ?_
          intro h₂₄ S₂₄
          rw [List.take_of_length_le (by simp)] at hacc
          refine neTup2 (ps := p.toList.map (keyW rs)) ⟨_, _, S₂₄.kp _ _ (kC₇ _ _ hPC), hPp.mono fun _ _ z => (cmp2 w).mono (kC₇.trans S₂₄.kp) z⟩ ⟨_, _, S₂₄.get (.head _), hacc.mono fun _ _ z => (cmp2 w).mono S₂₄.kp z⟩ (by have := r.units; show A.units + 3 + 1 < cLine; exact om196 this) ?_
          have S₂₅ : St C₇ L h₂₄ _ [] := S₂₄.drop (List.nil_sublist _)
          clear S₂₄ hacc
          have K₄ := K₃.trans kC₇
          have GC₇ := GC.kp K₄
          have e1 := g1.keeps kC₇
          have e2 := g2.keeps kC₇
          have e3 := g3.keeps kC₇
          have hWC₇ := kC₇ _ _ hWC₆
          try dsimp only
          walk_at "go"
          refine lcomp_assign rfl rfl rfl (by decide) (fun _ => rfl) ?_
          try dsimp only
          walk_at "go"
          refine via fun M_ k_ => ?_
          obtain ⟨am, ham, mv0, me0, hmv0, hmp0⟩ := getM hrp
          refine k_ ?_
          clear k_ M_
          have hwm0 : mv0.length = wd := hmp0.length.trans (M.w _ (rowAt_mem (by rw [M.len]; exact hrp)))
          refine itemL (isL (S₂₅.kp _ _ (K₄ _ _ hub))) (j := 0) rfl (by exact om10) (by simpa using ham) (by with_unfolding_all rfl) ?_
          try dsimp only
          walk_at "go"
          refine lenL (isL (S₂₅.kp _ _ (K₄ _ _ hmv0))) (by rw [List.size_toArray]; exact om24 hwm0 hw2) ?_
          intro t₂₆ tk₂₆
          rw [List.size_toArray, hwm0]
          try dsimp only
          walk_at "go"
          refine callRange1 S₂₅ ?_
          intro Rg₂ h₂₆ tk₂₇ u₂ v₂ S₂₆ hRg₂
          refine iterRange0 (O := []) [] r.hand hRg₂ (by exact om29 hw2) S₂₆ ?_
          intro I₄ o₄ h₂₇ S₂₇ sr₅
          refine lcomp_src1 (O := []) (X₀ := []) (X := [(I₄, o₄)]) (xc := Str.ofString "k") (fun i C O acc => O = [] ∧ acc.length = ((List.range i).filter (allAt mks)).length) sr₅ rfl (fun _ => rfl) (fun _ => rfl) rfl S₂₇ ⟨rfl, rfl⟩ (by rw [sizeLine_eq]; exact om21 hw2) (fun _ => rfl) ?_ ?_
          · rintro Cl c oc u D i v C₈ h m O X e acc tk hi ⟨t, rfl⟩ kC₈ ⟨rfl, hacc⟩ hu S₂₈
            have GC₈ := GC₇.kp kC₈
            have e3' := e3.keeps kC₈
            refine wpAny_assign_Name ?_
            refine stC (O₁ := [(D, lobj acc e)]) (O₂ := X) S₂₈ hu rfl (by with_unfolding_all rfl) (by with_unfolding_all rfl) ?_
            intro h₂₉ oc' ho' S₂₉
            clear S₂₈
            try dsimp only [List.cons_append, List.nil_append] at S₂₉
            refine tests_one ?_
            try dsimp only
            walk_at "go"
            refine scomp_eval rfl rfl (by decide) (fun _ => rfl) ?_
            try dsimp only
            walk_at "go"
            refine iterList (O := (D, lobj acc e) :: (c, oc') :: X) [] r.hand (isL (kC₈ _ _ (K₄ _ _ hub))) (by rw [List.append_nil]; exact S₂₉) ?_
            intro I₅ o₅ h₃₀ S₃₀ sr₆
            refine comp_at0 (L := Cl) (O := (D, lobj acc e) :: (c, oc') :: X) (X₀ := []) (X := [(I₅, o₅)]) sr₆.g0 rfl (by decide) rfl S₃₀ (fun Q' E' q => newS S₃₀ q) (fun D cenv s' R a b => start_set a b) ?_
            intro Ds Cl₂ oL₄ h₃₁ hoL₄ S₃₁ sr₇
            refine comp_walk (O := (Ds, setO #[] 0 (.fresh 0 0 (!byTx w))) :: (D, lobj acc e) :: (c, oc') :: X) (X₀ := [] ++ [(Cl, oL₄)]) (X := [(I₅, o₅)]) (fun q C m O => ∃ o Sf n, O = (Ds, o) :: (D, lobj acc e) :: (c, oc') :: X ∧ o.SetObjOf (PySem.intKind P0 w) Sf n ∧ Cnt (mks.map fun r => r.getD i 0) q Sf n) sr₇.nm (ct_set1 ..) rfl rfl rfl S₃₁ ⟨_, _, _, rfl, setObjOf_fresh _, Cnt.nil _⟩ ?_ ?_
            · intro q v C₉ h m O X₂ tk hq hv kC₉ hq76_ S₃₂
              refine via fun M_ k_ => ?_
              obtain ⟨o, Sf, n, rfl, hso, hcnt⟩ := hq76_
              refine k_ ?_
              clear k_ M_
              rw [List.size_toArray, hul] at hq
              refine via fun M_ k_ => ?_
              obtain ⟨aq, haq, mv, me, hmv, hmp⟩ := getM hq
              refine k_ ?_
              clear k_ M_
              obtain rfl : v = .ref aq := by simpa [haq] using hv.symm
              have hwq : (rowAt mks q).length = wd := M.w _ (rowAt_mem (by rw [M.len]; exact hq))
              refine via fun M_ k_ => ?_
              obtain ⟨x, hx⟩ : ∃ x, (rowAt mks q)[i]? = some x := ⟨(rowAt mks q)[i]'(by exact om1 hi hwq), List.getElem?_eq_getElem _⟩
              refine k_ ?_
              clear k_ M_
              refine via fun M_ k_ => ?_
              obtain ⟨xv, hxv, tx, rfl⟩ := paired_get hmp hx
              refine k_ ?_
              clear k_ M_
              have GC₉ := GC₈.kp kC₉
              try dsimp only
              refine wpAny_assign_Name ?_
              try dsimp only
              walk_at "go"
              rename_i h₃₃ S₃₃
              refine wpAny_bind (wpAny_bind ?_)
              try dsimp only
              walk_at "go"
              refine itemL (isL (S₃₃.kp _ _ (kC₉ _ _ (kC₈ _ _ (K₄ _ _ hmv))))) (j := i) rfl (by exact om13 hi hw2) (by simpa using hxv) (by with_unfolding_all rfl) ?_
              refine wpAny_bind (wpAny_standAt ?_)
              refine wpAny_bind (addSI (O₁ := []) S₃₃ hso (by have := hcnt.le; exact om451 hq hn this) ?_)
              intro h₃₄ o' tk₃₄ hso' S₃₄
              refine wpAny_pure (wpAny_pure ⟨rfl, turned_mk (kp_refl _) (O' := (Ds, _) :: (D, lobj acc e) :: (c, oc') :: X) S₃₄ ⟨_, _, _, rfl, hso', ?_⟩⟩)
              refine hcnt.step ?_
              rw [List.getElem?_map, rowAt_get (rs := mks) (by rw [M.len]; exact hq)]
              show some ((rowAt mks q).getD i 0) = some x
              rw [List.getD_eq_getElem?_getD, hx]; rfl
            · intro C₉ h₃₂ m O tk kC₉ hq77_ S₃₂
              refine via fun M_ k_ => ?_
              obtain ⟨o, Sf, n, rfl, hso, hcnt⟩ := hq77_
              refine k_ ?_
              clear k_ M_
              refine post_none hoL₄ S₃₂ ?_
              intro h₃₃ S₃₃
              rw [List.size_toArray, hul] at hcnt
              try dsimp only
              walk_at "go"
              have hn60 : n ≤ 1000 := by have := hcnt.le; exact om452 hn this
              have GC₉ := GC₈.kp kC₉
              refine lenSI (O₁ := []) S₃₃ hso hn60 ?_
              intro t₃₄ tk₃₄
              have S₃₄ : St C₉ Cl h₃₃ _ ((D, lobj acc e) :: (c, oc') :: X) := S₃₃.drop (List.sublist_cons_self _ _)
              clear S₃₃
              try dsimp only
              walk_at "go"
              have hone := hcnt.one hrp
              have hall : allAt mks i = decide (n = 1) := by
                unfold allAt
                have conv : ∀ q, q < rs.length → ((mks.map fun r => r.getD i 0)[q]? = (mks.map fun r => r.getD i 0)[0]? ↔ (rowAt mks q)[i]? = (rowAt mks 0)[i]?) := fun q hq => by
                  have hwq : (rowAt mks q).length = wd := M.w _ (rowAt_mem (by rw [M.len]; exact hq))
                  have hwz : (rowAt mks 0).length = wd := M.w _ (rowAt_mem (by rw [M.len]; exact hrp))
                  have x1 : (rowAt mks q)[i]? = some (rowAt mks q)[i] := List.getElem?_eq_getElem (by exact om1 hi hwq)
                  have x2 : (rowAt mks 0)[i]? = some (rowAt mks 0)[i] := List.getElem?_eq_getElem (by exact om1 hi hwz)
                  rw [List.getElem?_map, List.getElem?_map, rowAt_get (rs := mks) (by rw [M.len]; exact hq), rowAt_get (rs := mks) (by rw [M.len]; exact hrp)]
                  show (some ((rowAt mks q).getD i 0) = some ((rowAt mks 0).getD i 0)) ↔ _
                  rw [List.getD_eq_getElem?_getD, List.getD_eq_getElem?_getD, x1, x2]
                  rfl
                by_cases h1 : n = 1
                · rw [decide_eq_true h1, decide_eq_true]
                  intro q hq
                  rw [M.len] at hq
                  exact (conv q hq).mp (hone.mp h1 q hq)
                · rw [decide_eq_false h1, decide_eq_false]
                  intro hc
                  exact h1 (hone.mpr fun q hq => (conv q hq).mpr (hc q (by rw [M.len]; exact hq)))
              have hstep : (List.filter (allAt mks) (List.range (i + 1))).length = ((List.range i).filter (allAt mks)).length + (if n = 1 then 1 else 0) := by
                rw [List.range_succ, List.filter_append, List.length_append]
                congr 1
                simp only [List.filter_cons, List.filter_nil, hall]
                by_cases q : n = 1 <;> simp [q]
              by_cases h1 : n = 1
              · have q' : ((n : Int) == 1) = true := by simp [h1]
                rw [if_pos q']
                try dsimp only
                walk_at "go"
                refine elt_mk (O' := (c, oc') :: []) kC₉ S₃₄ ⟨oc', _, [], rfl, ho', rfl, ?_⟩
                rw [hstep, if_pos h1, List.length_append, hacc]; rfl
              · have q' : ((n : Int) == 1) = false := by rw [beq_eq_false_iff_ne]; exact om453 h1
                rw [if_neg (fun z => by rw [q'] at z; cases z)]
                refine elt_mk (O' := (c, oc') :: []) kC₉ S₃₄ ⟨oc', _, [], rfl, ho', rfl, ?_⟩
                rw [hstep, if_neg h1, hacc]; rfl
          · intro D C₈ h₂₈ Cl mc oL O acc e tk kC₈ ⟨hO, hacc⟩ hoL S₂₈
            subst hO
            rw [M.count R] at hacc
            refine post_nm (y := Str.ofString "alike") hoL S₂₈ rfl (by with_unfolding_all rfl) (by with_unfolding_all rfl) ?_
            intro h₂₉ tk₂₉ S₂₉
            refine via fun M_ k_ => ?_
            obtain ⟨C₉, kC₉, kCh₉, hC₉, hO₉, S₃₀⟩ := St.freeze (O₁ := [(D, lobj acc e)]) (O₂ := []) S₂₉
            refine k_ ?_
            clear k_ M_
            have hDC := hO₉ _ (.head _)
            clear S₂₉ hC₉ hO₉
            have K₅ := K₄.trans (kC₈.trans kC₉)
            have GC₉ := GC.kp K₅
            have e1' := e1.keeps (kC₈.trans kC₉)
            have e3' := e3.keeps (kC₈.trans kC₉)
            have hWC₉ := kC₉ _ _ (kC₈ _ _ hWC₇)
            try dsimp only
            walk_at "go"
            refine commonpath_spec (rs := rs) (wd := wd) (r.less (k := 10) (by exact om454) |>.deep _) (inG GC₉ S₃₀) ⟨_, _, S₃₀.kp _ _ hWC₉, hWp⟩ R.ne R.w hw1 hw2 R.d (by exact om32 hn) rfl ?_
            intro h₃₁ tk₃₁ t₃₁ k₃₁
            have S₃₁ := S₃₀.keep k₃₁
            clear S₃₀
            have hlcp := lcp_le (minR rs) (maxR rs)
            have hlc : (lcp (minR rs) (maxR rs)).length ≤ wd := by rw [← R.w _ (minR_ok R).1]; exact hlcp.1
            try dsimp only
            walk_at "go"
            refine itemL (isL (S₃₁.kp _ _ (K₅ _ _ hva))) (j := 0) rfl (by exact om10) (by simpa using ha0) (by with_unfolding_all rfl) ?_
            try dsimp only
            walk_at "go"
            refine lenL (isL (S₃₁.kp _ _ hDC)) (by rw [List.size_toArray, hacc]; exact om455 hw2 hlc) ?_
            intro t₃₂ tk₃₂
            rw [List.size_toArray, hacc]
            try dsimp only
            walk_at "go"
            refine cutL S₃₁ rfl (isL (S₃₁.kp _ _ (K₅ _ _ hrv0))) (.none) (.int _ _) (.none) (by decide) (by rw [List.size_toArray, sizeLine_eq, hw0]; exact om21 hw2) (by with_unfolding_all rfl) ?_
            intro Sl h₃₃ S₃₃
            rw [pick_upto _ (by exact om3), Int.toNat_natCast] at S₃₃
            try dsimp only
            walk_at "go"
            refine text_spec (ds := (rowAt rs 0).take (lcp (minR rs) (maxR rs)).length) (r.less (k := 2) (by exact om50) |>.deep _) (inG GC₉ S₃₃) ⟨_, _, S₃₃.get (.head _), paired_take hp0 _⟩ (Dg.take (R.d _ (rowAt_mem hrp)) _) (by rw [List.length_take, R.w _ (rowAt_mem hrp)]; exact om456 hw2) ?_
            intro h₃₄ tk₃₄ t₃₄ k₃₄
            have S₃₄ : St C₉ L h₃₄ _ [] := (S₃₃.keep k₃₄).drop (List.nil_sublist _)
            clear S₃₃ S₃₁
            rw [← cpR_take R (rowAt_mem hrp)]
            refine P.ne_str ?_
            rw [bne_self_eq_false]
            try dsimp only
            walk_at "go"
            refine net_spec (rs := rs) (wd := wd) (r.less (k := 11) (by exact om457) |>.deep _) (inG GC₉ S₃₄) ⟨_, _, S₃₄.kp _ _ hWC₉, hWp⟩ R.ne R.w hw1 hw2 R.d (by exact om32 hn) ?_
            intro N1 h₃₅ tk₃₅ ts k₃₅ hok hlen hN1
            have S₃₅ := S₃₄.keep k₃₅
            clear S₃₄
            refine via fun M_ k_ => ?_
            obtain ⟨nv, ne, hNo, hNp⟩ := hN1
            refine k_ ?_
            clear k_ M_
            refine via fun M_ k_ => ?_
            obtain ⟨C₁₀, kC₁₀, kCh₁₀, hC₁₀, S₃₆⟩ := S₃₅.fix
            refine k_ ?_
            clear k_ M_
            have hNC := hC₁₀ _ _ hNo (ndL _ _) (by simp)
            have hNp' : Paired (RTN C₁₀) nv (netT rs ts) := hNp.mono fun _ _ ⟨T, t, u, e, q⟩ => ⟨T, t, u, e, hC₁₀ _ _ q (ndT _) (by simp)⟩
            clear S₃₅ hC₁₀ hNp
            have GC₁₀ := GC₉.kp kC₁₀
            have e1'' := e1'.keeps kC₁₀
            have e3'' := e3'.keeps kC₁₀
            try dsimp only
            walk_at "go"
            refine told_spec (rs := rs) (mks := mks) (wd := wd) (r.less (k := 4) (by exact om193) |>.deep _) (inG GC₁₀ S₃₆) (hac.kp (K₅.trans (kC₁₀.trans S₃₆.kp))) (hmc.kp (K₅.trans (kC₁₀.trans S₃₆.kp))) R.ne R.w hw2 R.d (by exact om32 hn) M.len M.w (fun j k hj hk => M.alike R.w hj hk) ?_
            intro N2 h₃₇ tk₃₇ ts' k₃₇ hok' hlen' hN2
            have S₃₇ := S₃₆.keep k₃₇
            clear S₃₆
            have hts : ts = ts' := hok.uniq hok' (by exact om458 hlen hlen')
            subst hts
            refine eqTupN (ps := netT rs ts) ⟨_, _, S₃₇.kp _ _ hNC, hNp'.mono fun _ _ z => z.kp S₃₇.kp⟩ hN2 (by have := r.units; show A.units + 3 + 1 < cLine; exact om196 this) ?_
            try dsimp only
            walk_at "go"
            exact h _ _ (kC.trans (K₅.trans (kC₁₀.trans S₃₇.kp)))
section
variable {w : World} {A : Around} {E : Value → Shared → Prop} {hp : Heap} {gn : Array GenState} {dr : Drawn} {tk : Nat} {os : OsState}
theorem modI {a b : Int} {t u : Tok} {Q : Value → Shared → Prop} (hb : 0 < b) (h : Q (.int (a % b) tk) ⟨hp, gn, dr, tk + 1, os⟩) : wpAny (model P0 w) A (binaryOp .Mod (.int a t) (.int b u)) Q E ⟨hp, gn, dr, tk, os⟩ :=
  PyProof.Rows.mod_int (by exact om36 hb) (by rw [Int.fmod_eq_emod_of_nonneg a (Int.le_of_lt hb)]; exact h)
theorem fdvI {a b : Int} {t u : Tok} {Q : Value → Shared → Prop} (hb : 0 < b) (hb2 : b < 1000000) (h : Q (.int (a / b) tk) ⟨hp, gn, dr, tk + 1, os⟩) : wpAny (model P0 w) A (binaryOp .FloorDiv (.int a t) (.int b u)) Q E ⟨hp, gn, dr, tk, os⟩ :=
  PyProof.Rows.floordiv_int (by exact om36 hb) (by rw [Int.fdiv_eq_ediv_of_nonneg a (Int.le_of_lt hb)]; exact h) (.inl (PyProof.noPylong_small (by exact om96 hb hb2)))
theorem powI {a : Int} {n : Nat} {t u : Tok} {Q : Value → Shared → Prop} (ha : 0 ≤ a ∧ a < 100) (hn : n ≤ 1000) (h : Q (.int (a ^ n) tk) ⟨hp, gn, dr, tk + 1, os⟩) : wpAny (model P0 w) A (binaryOp .Pow (.int a t) (.int (n : Int) u)) Q E ⟨hp, gn, dr, tk, os⟩ :=
  PyProof.Rows.pow_int_small (by exact om3) (by exact om97 hn) (by exact om98 ha) (by rw [Int.toNat_natCast]; exact h)
end
noncomputable def dig (b wd n : Nat) : List Int := (List.range wd).map fun k => ((n / b ^ k % b : Nat) : Int)
noncomputable def nearL (b wd n : Nat) : List Int := (List.range wd).map fun i => ((n % b ^ (i + 1) : Nat) : Int)
noncomputable def farL (b wd n : Nat) : List Int := (List.range wd).map fun i => ((n / b ^ (wd - (i + 1)) : Nat) : Int)
theorem dig_len (b wd n : Nat) : (dig b wd n).length = wd := by simp [dig]
theorem dig_bd {b wd n : Nat} (hb : 0 < b) : Bd (b : Int) (dig b wd n) := by
  intro d hd
  obtain ⟨k, _, rfl⟩ := List.mem_map.mp hd
  have := Nat.mod_lt (n / b ^ k) hb
  exact om99 this
theorem dig_dg {b wd n : Nat} (hb : 0 < b) (hb2 : b ≤ 5) : Dg (dig b wd n) := fun d hd => by
  have := dig_bd hb d hd
  exact om100 this hb2
theorem near_iff {b : Nat} (hb : 0 < b) (x y : Nat) : ∀ m, x % b ^ m = y % b ^ m ↔ ∀ k, k < m → x / b ^ k % b = y / b ^ k % b
  | 0 => by simp [Nat.mod_one]
  | m + 1 => by
    have ih := near_iff hb x y m
    have hp : 0 < b ^ m := Nat.pow_pos hb
    rw [Nat.pow_succ, Nat.mod_mul, Nat.mod_mul]
    have h1 := Nat.mod_lt x hp
    have h2 := Nat.mod_lt y hp
    constructor
    · intro h
      have e1 : x % b ^ m = y % b ^ m := by
        have := congrArg (· % b ^ m) h
        simp only [Nat.add_mul_mod_self_left, Nat.mod_mod] at this
        exact this
      have e2 : x / b ^ m % b = y / b ^ m % b := by
        rw [e1] at h
        have := Nat.add_left_cancel h
        exact Nat.eq_of_mul_eq_mul_left hp this
      intro k hk
      rcases Nat.lt_succ_iff_lt_or_eq.mp hk with hk | hk
      · exact ih.mp e1 k hk
      · rw [hk]; exact e2
    · intro h
      rw [ih.mpr fun k hk => h k (by exact om2 hk), h m (Nat.lt_succ_self m)]
theorem far_iff {b : Nat} (hb : 0 < b) {x y wd m : Nat} (hx : x < b ^ wd) (hy : y < b ^ wd) (hm : m ≤ wd) : x / b ^ (wd - m) = y / b ^ (wd - m) ↔ ∀ k, wd - m ≤ k → k < wd → x / b ^ k % b = y / b ^ k % b := by
  have e : b ^ wd = b ^ (wd - m) * b ^ m := by rw [← Nat.pow_add]; congr 1; exact om101 hm
  have h1 : x / b ^ (wd - m) < b ^ m := Nat.div_lt_of_lt_mul (by rw [← e]; exact hx)
  have h2 : y / b ^ (wd - m) < b ^ m := Nat.div_lt_of_lt_mul (by rw [← e]; exact hy)
  have key := near_iff hb (x / b ^ (wd - m)) (y / b ^ (wd - m)) m
  rw [Nat.mod_eq_of_lt h1, Nat.mod_eq_of_lt h2] at key
  rw [key]
  constructor
  · intro h k h3 h4
    have := h (k - (wd - m)) (by exact om102 h3 h4)
    rw [Nat.div_div_eq_div_mul, Nat.div_div_eq_div_mul, ← Nat.pow_add] at this
    have e2 : wd - m + (k - (wd - m)) = k := by exact om103 h3
    rw [e2] at this; exact this
  · intro h k hk
    rw [Nat.div_div_eq_div_mul, Nat.div_div_eq_div_mul, ← Nat.pow_add]
    exact h (wd - m + k) (by exact om104) (by exact om105 hk hm)
theorem map_range_get {α : Type} (f : Nat → α) {w i : Nat} (h : i < w) : ((List.range w).map f)[i]? = some (f i) := by
  rw [List.getElem?_map, List.getElem?_range h]; rfl
theorem take_range_eq {f g : Nat → Int} {w m : Nat} (h : m ≤ w) : ((List.range w).map f).take m = ((List.range w).map g).take m ↔ ∀ k, k < m → f k = g k := by
  constructor
  · intro e k hk
    have := congrArg (·[k]?) e
    simp only [List.getElem?_take_of_lt hk, map_range_get f (show k < w by exact om0 hk h), map_range_get g (show k < w by exact om0 hk h)] at this
    injection this
  · intro e
    refine List.ext_getElem? fun i => ?_
    by_cases hi : i < m
    · rw [List.getElem?_take_of_lt hi, List.getElem?_take_of_lt hi, map_range_get f (by exact om0 hi h), map_range_get g (by exact om0 hi h), e i hi]
    · rw [List.getElem?_eq_none (by rw [List.length_take]; exact om8 hi), List.getElem?_eq_none (by rw [List.length_take]; exact om8 hi)]
theorem rev_take_eq {f g : Nat → Int} {w m : Nat} (h : m ≤ w) : ((List.range w).map f).reverse.take m = ((List.range w).map g).reverse.take m ↔ ∀ k, w - m ≤ k → k < w → f k = g k := by
  have len : ∀ f : Nat → Int, ((List.range w).map f).length = w := fun f => by simp
  have get : ∀ (f : Nat → Int) (i : Nat), i < w → ((List.range w).map f).reverse[i]? = some (f (w - 1 - i)) := fun f i hi => by
    rw [List.getElem?_reverse (by rw [len]; exact hi), len, map_range_get f (by exact om22 hi)]
  constructor
  · intro e k h1 h2
    have := congrArg (·[w - 1 - k]?) e
    simp only [List.getElem?_take_of_lt (show w - 1 - k < m by exact om106 h1 h2), get f (w - 1 - k) (by exact om22 h2), get g (w - 1 - k) (by exact om22 h2)] at this
    have e2 : w - 1 - (w - 1 - k) = k := by exact om107 h2
    rw [e2] at this
    injection this
  · intro e
    refine List.ext_getElem? fun i => ?_
    by_cases hi : i < m
    · rw [List.getElem?_take_of_lt hi, List.getElem?_take_of_lt hi, get f i (by exact om0 hi h), get g i (by exact om0 hi h), e (w - 1 - i) (by exact om108 hi) (by exact om109 hi h)]
    · rw [List.getElem?_eq_none (by rw [List.length_take, List.length_reverse]; exact om8 hi), List.getElem?_eq_none (by rw [List.length_take, List.length_reverse]; exact om8 hi)]
theorem rowAt_map {nums : List Nat} {f : Nat → List Int} {j : Nat} (h : j < nums.length) : rowAt (nums.map f) j = f (nums.getD j 0) := by
  unfold rowAt
  rw [List.getD_eq_getElem?_getD, List.getElem?_map, List.getD_eq_getElem?_getD, List.getElem?_eq_getElem h]; rfl
theorem getD_mem {nums : List Nat} {j : Nat} (h : j < nums.length) : nums.getD j 0 ∈ nums := by
  rw [List.getD_eq_getElem?_getD, List.getElem?_eq_getElem h]; exact List.getElem_mem h
theorem near_ok {b wd : Nat} (hb : 0 < b) (nums : List Nat) : MkOk (nums.map (dig b wd)) (nums.map (nearL b wd)) wd where
  len := by simp
  w r hr := by obtain ⟨n, _, rfl⟩ := List.mem_map.mp hr; simp [nearL]
  eq j k hj hk i hi := by
    rw [List.length_map] at hj hk
    rw [rowAt_map hj, rowAt_map hk, rowAt_map hj, rowAt_map hk]
    generalize nums.getD j 0 = x
    generalize nums.getD k 0 = y
    unfold nearL dig
    rw [map_range_get _ hi, map_range_get _ hi, take_range_eq (by exact om9 hi)]
    have := near_iff hb x y (i + 1)
    constructor
    · intro h q hq
      injection h with h
      rw [this.mp (by exact om4 h) q hq]
    · intro h
      rw [this.mpr fun q hq => by have := h q hq; exact om4 this]
theorem far_ok {b wd : Nat} (hb : 0 < b) {nums : List Nat} (hn : ∀ n ∈ nums, n < b ^ wd) : MkOk ((nums.map (dig b wd)).map List.reverse) (nums.map (farL b wd)) wd where
  len := by simp
  w r hr := by obtain ⟨n, _, rfl⟩ := List.mem_map.mp hr; simp [farL]
  eq j k hj hk i hi := by
    rw [List.map_map] at hj hk ⊢
    rw [List.length_map] at hj hk
    rw [rowAt_map hj, rowAt_map hk, rowAt_map hj, rowAt_map hk]
    have hx := hn _ (getD_mem hj)
    have hy := hn _ (getD_mem hk)
    generalize nums.getD j 0 = x at hx ⊢
    generalize nums.getD k 0 = y at hy ⊢
    show _ ↔ (dig b wd x).reverse.take (i + 1) = (dig b wd y).reverse.take (i + 1)
    unfold farL dig
    rw [map_range_get _ hi, map_range_get _ hi, rev_take_eq (by exact om9 hi)]
    have := far_iff hb hx hy (m := i + 1) (by exact om9 hi)
    constructor
    · intro h q hq hq2
      injection h with h
      rw [this.mp (by exact om4 h) q hq hq2]
    · intro h
      rw [this.mpr fun q hq hq2 => by have := h q hq hq2; exact om4 this]
theorem rows_low {b wd : Nat} (hb : 0 < b) (hb2 : b ≤ 5) {nums : List Nat} (hne : nums ≠ []) : Rows (nums.map (dig b wd)) wd :=
  ⟨by simpa using hne, fun r hr => by obtain ⟨n, _, rfl⟩ := List.mem_map.mp hr; exact dig_len .., fun r hr => by obtain ⟨n, _, rfl⟩ := List.mem_map.mp hr; exact dig_dg hb hb2⟩
theorem rows_high {b wd : Nat} (hb : 0 < b) (hb2 : b ≤ 5) {nums : List Nat} (hne : nums ≠ []) : Rows ((nums.map (dig b wd)).map List.reverse) wd :=
  ⟨by simpa using hne, fun r hr => by
    obtain ⟨q, hq, rfl⟩ := List.mem_map.mp hr
    obtain ⟨n, _, rfl⟩ := List.mem_map.mp hq
    rw [List.length_reverse]; exact dig_len .., fun r hr => by
    obtain ⟨q, hq, rfl⟩ := List.mem_map.mp hr
    obtain ⟨n, _, rfl⟩ := List.mem_map.mp hq
    exact fun d hd => dig_dg hb hb2 d (List.mem_reverse.mp hd)⟩
theorem rev_rev (rs : List (List Int)) : (rs.map List.reverse).map List.reverse = rs := by
  rw [List.map_map]
  conv => rhs; rw [← List.map_id rs]
  exact List.map_congr_left fun r _ => by simp
noncomputable def drawsN (ns : List Int) (b wd : Nat) : List Nat := ((ns.drop 1).take 4).map fun x => (x % 1000000).toNat % b ^ wd
noncomputable def numsN (ns : List Int) (b wd : Nat) : List Nat := [1, b, b + 1] ++ drawsN ns b wd
theorem numsN_lt {ns : List Int} {b wd : Nat} (hb : 2 ≤ b) (hw : 2 ≤ wd) : ∀ n ∈ numsN ns b wd, n < b ^ wd := by
  have h2 : b ^ 2 ≤ b ^ wd := Nat.pow_le_pow_right (by exact om18 hb) hw
  have h3 : b * 2 ≤ b ^ 2 := by rw [Nat.pow_two]; exact Nat.mul_le_mul_left b hb
  intro n hn
  rcases List.mem_append.mp hn with hn | hn
  · simp only [List.mem_cons, List.not_mem_nil, or_false] at hn
    rcases hn with rfl | rfl | rfl <;> (first | exact om110 hb h3 h2 | exact om111 hb h3 h2 | exact om112 hb h3 h2)
  · obtain ⟨x, _, rfl⟩ := List.mem_map.mp hn
    exact Nat.mod_lt _ (by exact om113 hb h3 h2)
theorem numsN_len (ns : List Int) (b wd : Nat) : 3 ≤ (numsN ns b wd).length ∧ (numsN ns b wd).length ≤ 7 := by
  unfold numsN drawsN
  rw [List.length_append, List.length_map, List.length_take]
  simp; exact om114
theorem addL {w : World} {A : Around} {s : Shared} {Q E : Value → Shared → Prop} {B : Heap} {L a b : Addr} {m : Str → Option Value} {O : Led} {xs ys : List Value} {e e' : Nat} (S : St B L s.heap m O) (ha : s.heap.get? a = some (lobj xs e)) (hb : s.heap.get? b = some (lobj ys e')) (hsz : xs.length + ys.length ≤ 10000)
    (h : ∀ D h', St B L h' m ((D, lobj (xs ++ ys) 0) :: O) → Q (.ref D) { s with heap := h' }) : wpAny (model P0 w) A (binaryOp .Add (.ref a) (.ref b)) Q E s := by
  refine PySem.P.add_list ha hb ?_ (by rw [List.size_toArray, List.size_toArray, sizeLine_eq]; exact om115 hsz)
  have e1 : xs.toArray ++ ys.toArray = (xs ++ ys).toArray := by simp
  rw [e1]
  exact h _ _ (S.push (lobj (xs ++ ys) 0) rfl)
theorem first_of {vs : List Value} {ns : List Int} {t : Tok} (hi : Paired VI vs ns) : ∃ t', (vs.take 1 ++ [Value.int 9 t])[0]? = some (.int (ns.getD 0 9) t') := by
  cases hi with
  | nil => exact ⟨t, rfl⟩
  | cons h r => obtain ⟨t', rfl⟩ := h; exact ⟨t', rfl⟩
theorem pick_mid (items : Array Value) : (slicePick items (some 1) (some 5) none).toList = (items.toList.drop 1).take 4 := by
  rw [kmk_pick_nat (a := min 1 items.size) (b := min 5 items.size)]
  · rw [List.toList_toArray]
    have hl : items.toList.length = items.size := Array.length_toList
    generalize items.toList = xs at hl
    rw [← hl]
    match xs with
    | [] => rfl
    | x :: r =>
      have e1 : min 1 (x :: r).length = 1 := by rw [List.length_cons]; exact om116
      rw [e1]
      show r.take _ = r.take 4
      rw [List.length_cons]
      by_cases h : r.length ≤ 4
      · rw [List.take_of_length_le h, List.take_of_length_le (by exact om117 h)]
      · congr 1 <;> exact om118 h
  · unfold sliceBounds
    simp only [Option.getD_none, show (1 : Int) > 0 by decide, if_true]
    rw [if_neg (by decide), if_neg (by decide)]
    have e1 : max 0 (min 1 (items.size : Int)) = ((min 1 items.size : Nat) : Int) := by exact om119
    have e2 : max 0 (min 5 (items.size : Int)) = ((min 5 items.size : Nat) : Int) := by exact om120
    rw [e1, e2]
theorem paired_drop {α β : Type} {F : α → β → Prop} : ∀ {l₁ : List α} {l₂ : List β}, Paired F l₁ l₂ → ∀ i, Paired F (l₁.drop i) (l₂.drop i) := by
  intro l₁ l₂ h
  induction h with
  | nil => intro i; cases i <;> exact .nil
  | cons h t ih =>
    intro i
    cases i with
    | zero => exact .cons h t
    | succ i => exact ih i
theorem pow_small {b k : Nat} (hb : 2 ≤ b ∧ b ≤ 5) (hk : k ≤ 5) : 0 < b ^ k ∧ b ^ k < 10000 := by
  have h1 : b ^ k ≤ 5 ^ k := Nat.pow_le_pow_left hb.2 k
  have h2 : 5 ^ k ≤ 5 ^ 5 := Nat.pow_le_pow_right (by decide) hk
  have h3 : (5 : Nat) ^ 5 = 3125 := by decide
  exact ⟨Nat.pow_pos (by exact om67 hb), by exact om121 h2 h1⟩
theorem paired_app {α β : Type} {F : α → β → Prop} : ∀ {l₁ : List α} {l₂ : List β} {k₁ : List α} {k₂ : List β}, Paired F l₁ l₂ → Paired F k₁ k₂ → Paired F (l₁ ++ k₁) (l₂ ++ k₂) := by
  intro l₁ l₂ k₁ k₂ h k
  induction h with
  | nil => exact k
  | cons h t ih => exact .cons h ih
theorem paired_reverse {α β : Type} {F : α → β → Prop} : ∀ {l₁ : List α} {l₂ : List β}, Paired F l₁ l₂ → Paired F l₁.reverse l₂.reverse := by
  intro l₁ l₂ h
  induction h with
  | nil => exact .nil
  | cons h t ih => rw [List.reverse_cons, List.reverse_cons]; exact ih.snoc h
theorem law_spec {w : World} {A : Around} {s : Shared} {Q E : Value → Shared → Prop} {l : Addr} {vs : List Value} {ns : List Int} (r : Rm A 14) (G : Gd w s.heap) (hl : s.heap.IsList l vs.toArray) (hi : Paired VI vs ns) (hlen : ns.length ≤ 63)
    (h : ∀ h' tk', Kp s.heap h' → Q (.bool true) {s with heap := h', toks := tk'}) :
    wpC (model P0 w) A (call (.ref 211) [.ref l]) Q E s := by
  refine enterCW [("script", .ref l)] G r.room rfl rfl rfl rfl (by decide) rfl rfl rfl ?_
  intro L h₁ tk cells hcs S
  obtain ⟨o2, o1, rfl, hc2, hc1⟩ := CellsAre.two hcs
  have hvl : vs.length = ns.length := hi.length
  obtain ⟨F, hF⟩ : ∃ F : Nat, (ns.getD 0 9) % 1000000 = (F : Int) := ⟨((ns.getD 0 9) % 1000000).toNat, by exact om122⟩
  have hF6 : F < 1000000 := by have : (ns.getD 0 9) % 1000000 < 1000000 := Int.emod_lt_of_pos _ (by decide); exact om319 hF
  try dsimp only
  refine wpC_execs_cons (wpC_of ?_)
  walk_at "go"
  refine cutL S rfl (hl.at fun o e => S.kp l o e) (.none) (.int _ _) (.none) (by decide) (by rw [List.size_toArray, sizeLine_eq]; exact om123 hvl hlen) (by with_unfolding_all rfl) ?_
  intro Sl h₂ S₂
  rw [pick_upto _ (by decide)] at S₂
  try dsimp only
  walk_at "go"
  refine newL S₂ (by walk_at "sz") ?_
  intro Nl h₃ S₃
  refine addL S₃ (S₃.get (.tail _ (.head _))) (S₃.get (.head _)) (by simp; exact om320) ?_
  intro Al h₄ S₄
  try dsimp only
  walk_at "go"
  obtain ⟨t9, h9⟩ := first_of (t := tk + 1) hi
  refine itemL (v := .int (ns.getD 0 9) t9) (isL (S₄.get (.head _))) (j := 0) rfl (by exact om10) (by rw [List.getElem?_toArray]; exact h9) (by with_unfolding_all rfl) ?_
  have S₅ : St s.heap L h₄ _ [(L + 1, o1), (L + 1 + 1, o2)] := ((S₄.drop (O' := [(L + 1 + 1, o2), (L + 1, o1)]) (by
    exact List.Sublist.cons _ (List.Sublist.cons _ (List.Sublist.cons _ (List.Sublist.refl _))))).perm (List.Perm.swap _ _ _))
  clear S S₂ S₃ S₄
  walk_at "go"
  refine powI (n := 6) (by decide) (by decide) ?_
  rw [show (10 : Int) ^ 6 = 1000000 by decide]
  refine modI (by decide) ?_
  rw [hF]
  walk_at "go"
  try dsimp only
  rename_i h₆ S₆
  refine wpC_execs_cons (wpC_of ?_)
  walk_at "go"
  refine modI (by decide) ?_
  walk_at "go"
  refine stC (O₁ := []) (O₂ := [(L + 1 + 1, o2)]) S₆ hc1 rfl (by with_unfolding_all rfl) (by with_unfolding_all rfl) ?_
  intro h₇ o1' ho1 S₇
  try dsimp only
  refine wpC_execs_cons (wpC_of ?_)
  walk_at "go"
  refine fdvI (by decide) (by decide) ?_
  walk_at "go"
  refine modI (by decide) ?_
  walk_at "go"
  refine stC (O₁ := [(L + 1, o1')]) (O₂ := []) S₇ hc2 rfl (by with_unfolding_all rfl) (by with_unfolding_all rfl) ?_
  intro h₈ o2' ho2 S₈
  obtain ⟨b, hbd⟩ : ∃ b : Nat, b = 2 + F % 4 := ⟨_, rfl⟩
  obtain ⟨wd, hwd⟩ : ∃ wd : Nat, wd = 2 + F / 4 % 4 := ⟨_, rfl⟩
  obtain ⟨C, kC, kCh, hC, hO, S₉⟩ := St.freeze (O₁ := [(L + 1, o1'), (L + 1 + 1, o2')]) (O₂ := []) S₈
  obtain ⟨tb, c1⟩ : ∃ t, C.IsCell (L + 1) (some (.int (b : Int) t)) := by
    have e : (2 : Int) + (F : Int) % 4 = (b : Int) := by rw [hbd]; exact om321
    rw [e] at ho1
    exact ⟨_, o1', hO _ (.head _), ho1⟩
  obtain ⟨tw, c2⟩ : ∃ t, C.IsCell (L + 1 + 1) (some (.int (wd : Int) t)) := by
    have e : (2 : Int) + (F : Int) / 4 % 4 = (wd : Int) := by rw [hwd]; exact om322
    rw [e] at ho2
    exact ⟨_, o2', hO _ (.tail _ (.head _)), ho2⟩
  have hb2 : 2 ≤ b ∧ b ≤ 5 := by exact om323 hbd
  have hw2 : 2 ≤ wd ∧ wd ≤ 5 := by exact om324 hwd
  have GC := G.kp kC
  have hlC : C.IsList l vs.toArray := hl.at fun o e => kC _ _ e
  clear S₅ S₆ S₇ S₈ hC hO ho1 ho2 hc1 hc2
  try dsimp only
  refine wpC_execs_cons (wpC_of ?_)
  walk_at "go"
  refine newL S₉ (by walk_at "sz") ?_
  intro N1 h₁₀ S₁₀
  obtain ⟨n3, hn3, S₁₀⟩ : ∃ n3, Paired VI n3 [1, (b : Int), (b : Int) + 1] ∧ St C L h₁₀ _ [(N1, lobj n3 0)] := ⟨_, .cons ⟨_, rfl⟩ (.cons ⟨_, rfl⟩ (.cons ⟨_, rfl⟩ .nil)), S₁₀⟩
  try dsimp only
  walk_at "go"
  refine lcomp_eval rfl rfl (by decide) (fun _ => rfl) ?_
  walk_at "go"
  refine cutL S₁₀ rfl (hlC.at fun o e => S₁₀.kp l o e) (.int _ _) (.int _ _) (.none) (by decide) (by rw [List.size_toArray, sizeLine_eq]; exact om123 hvl hlen) (by with_unfolding_all rfl) ?_
  intro Sl h₁₁ S₁₁
  rw [pick_mid] at S₁₁
  have S₁₂ := S₁₁.perm (O' := [(N1, lobj n3 0)] ++ [(Sl, lobj ((vs.drop 1).take 4) 0)]) (List.Perm.swap _ _ _)
  try dsimp only
  refine iterListO r.hand S₁₂ ?_
  intro I o h₁₃ S₁₃ sr
  have hdp : Paired VI ((vs.drop 1).take 4) ((ns.drop 1).take 4) := paired_take (paired_drop hi 1) 4
  refine lcomp_src0 (O := [(N1, lobj n3 0)]) (X₀ := [(Sl, lobj ((vs.drop 1).take 4) 0)]) (X := [(I, o)]) (fun i C O acc => O = [(N1, lobj n3 0)] ∧ Paired VI acc ((((ns.drop 1).take 4).take i).map fun x => (((x % 1000000).toNat % b ^ wd : Nat) : Int))) sr rfl (by decide) rfl S₁₃ ⟨rfl, .nil⟩ (by rw [sizeLine_eq, List.length_take]; exact om325) (fun _ => rfl) ?_ ?_
  · rintro Cl D i v C' h m O X e acc tk hi hv kC' ⟨rfl, hacc⟩ S
    obtain ⟨x, hx, t, rfl⟩ := paired_getL hdp hv
    have GC' := GC.kp kC'
    have d1 := c1.keeps kC'
    have d2 := c2.keeps kC'
    refine wpAny_assign_Name ?_
    walk_at "go"
    refine tests_nil ?_
    walk_at "go"
    refine powI (n := 6) (by decide) (by decide) ?_
    rw [show (10 : Int) ^ 6 = 1000000 by decide]
    refine modI (by decide) ?_
    walk_at "go"
    refine powI (n := wd) (by exact om37 hb2) (by exact om326 hw2) ?_
    rw [show ((b : Int) ^ wd) = ((b ^ wd : Nat) : Int) from (Int.natCast_pow b wd).symm]
    have hpp := pow_small hb2 (show wd ≤ 5 by exact om327 hw2)
    refine modI (by exact om38 hpp) ?_
    refine elt_mk (O' := [_]) (kp_refl _) (by assumption) ⟨rfl, ?_⟩
    rw [take_succ' hx, List.map_append]
    refine hacc.snoc ?_
    have e6 : x % 1000000 = (((x % 1000000).toNat : Nat) : Int) := by
      have := Int.emod_nonneg x (show (1000000 : Int) ≠ 0 by decide)
      exact om122
    rw [e6]; exact ⟨_, rfl⟩
  · intro D C' h₁₄ Cl mc oL O acc e tk₁₄ kC' ⟨hO, hacc⟩ hoL S
    subst hO
    refine post_none hoL S ?_
    intro h₁₅ S₁₅
    have hdl : ((vs.drop 1).take 4).length = ((ns.drop 1).take 4).length := hdp.length
    rw [hdl, List.take_length] at hacc
    have hal : acc.length ≤ 4 := by rw [hacc.length, List.length_map, List.length_take]; exact om328
    refine addL S₁₅ (S₁₅.get (.tail _ (.head _))) (S₁₅.get (.head _)) (by rw [hn3.length]; simp; exact om329 hal) ?_
    intro Nm h₁₆ S₁₆
    have GC' := GC.kp kC'
    try dsimp only
    walk_at "go"
    rename_i h₁₇ S₁₇
    obtain ⟨nums, hnums⟩ : ∃ nums, nums = numsN ns b wd := ⟨_, rfl⟩
    obtain ⟨nv, hnv⟩ : ∃ nv : List Value, nv = n3 ++ acc := ⟨_, rfl⟩
    have hnp : Paired VI nv (nums.map fun (n : Nat) => (n : Int)) := by
      rw [hnv, hnums]
      unfold numsN drawsN
      rw [List.map_append, List.map_map]
      exact paired_app hn3 hacc
    rw [← hnv] at S₁₇
    have hnl := numsN_len ns b wd
    rw [← hnums] at hnl
    have hnvl : nv.length = nums.length := by rw [hnp.length, List.length_map]
    have getN : ∀ {q : Nat} {v : Value}, nv[q]? = some v → ∃ n t, nums[q]? = some n ∧ v = .int (n : Int) t := fun {q v} hv => by
      obtain ⟨z, hz, t, rfl⟩ := paired_getL hnp hv
      rw [List.getElem?_map] at hz
      obtain ⟨n, hn, rfl⟩ := Option.map_eq_some_iff.mp hz
      exact ⟨n, t, hn, rfl⟩
    obtain ⟨CN, kCN, kChN, hCN, hON, SN0⟩ := St.freeze (O₁ := [(Nm, lobj nv 0)]) S₁₇
    have SN := SN0.drop (O' := []) (List.nil_sublist _)
    have hNmN : CN.get? Nm = some (lobj nv 0) := hON _ (.head _)
    have KN : Kp C CN := kC'.trans kCN
    have GCN := GC'.kp kCN
    have c1N := c1.keeps KN
    have c2N := c2.keeps KN
    clear S₁₀ S₁₁ S₁₂ S₁₃ S S₁₅ S₁₆ S₁₇ SN0 hCN hON

    -- rows
    try dsimp only
    refine wpC_execs_cons (wpC_of ?_)
    walk_at "go"
    refine lcomp_assign rfl rfl rfl (by decide) (fun _ => rfl) ?_
    walk_at "go"
    refine iterList (O := []) [] r.hand (isL hNmN) SN ?_
    intro IR oR hRa SRa srR
    refine lcomp_src1 (O := []) (X₀ := []) (X := [(IR, oR)]) (xc := Str.ofString "number") (fun i C O acc => O = [] ∧ Paired (VIL C) acc ((nums.take i).map (dig b wd))) srR rfl (fun _ => rfl) (fun _ => rfl) rfl SRa ⟨rfl, .nil⟩ (by rw [sizeLine_eq, List.size_toArray, hnvl]; exact om39 hnl) (fun _ => rfl) ?_ ?_
    · rintro Cl c oc u D i v C' h m O X e acc tk hi hv kC' ⟨rfl, hacc⟩ hu S
      obtain ⟨n, t, hn, rfl⟩ := getN (show nv[i]? = some v by simpa using hv)
      have GC' := GCN.kp kC'
      have d1 := c1N.keeps kC'
      have d2 := c2N.keeps kC'
      refine wpAny_assign_Name ?_
      refine stC (O₁ := [(D, lobj acc e)]) (O₂ := X) S hu rfl (by with_unfolding_all rfl) (by with_unfolding_all rfl) ?_
      intro hb oc' ho' Sb
      clear S
      try dsimp only [List.cons_append, List.nil_append] at Sb
      refine tests_nil ?_
      walk_at "go"
      refine lcomp_eval rfl rfl (by decide) (fun _ => rfl) ?_
      walk_at "go"
      refine callRange1 Sb ?_
      intro Rk hc tkc uk vk Sc hRk
      refine iterRange0 (O := (D, lobj acc e) :: (c, oc') :: X) [] r.hand hRk (by exact om330 hw2) (by rw [List.append_nil]; exact Sc) ?_
      intro Ik ok hd Sd srk
      refine lcomp_src0 (L := Cl) (O := (D, lobj acc e) :: (c, oc') :: X) (X₀ := []) (X := [(Ik, ok)]) (fun q C O ac => O = (D, lobj acc e) :: (c, oc') :: X ∧ Paired VI ac ((List.range q).map fun k => ((n / b ^ k % b : Nat) : Int))) srk rfl (by decide) rfl Sd ⟨rfl, .nil⟩ (by rw [sizeLine_eq]; exact om40 hw2) (fun _ => rfl) ?_ ?_
      · rintro Cl₂ D₂ q v C₂ h m O X₂ e₂ ac tk hq ⟨tq, rfl⟩ kC₂ ⟨rfl, hac⟩ S
        have GC₂ := GC'.kp kC₂
        have d1₂ := d1.keeps kC₂
        have d2₂ := d2.keeps kC₂

        refine wpAny_assign_Name ?_
        walk_at "go"
        refine tests_nil ?_
        walk_at "go"
        refine powI (n := q) (by exact om37 hb2) (by exact om331 hq hwd) ?_
        rw [show ((b : Int) ^ q) = ((b ^ q : Nat) : Int) from (Int.natCast_pow b q).symm]
        have hpp := pow_small hb2 (show q ≤ 5 by exact om332 hq hwd)
        refine fdvI (by exact om38 hpp) (by exact om124 hpp) ?_
        walk_at "go"
        refine modI (by exact om333 hb2) ?_
        refine elt_mk (O' := (D, lobj acc e) :: (c, oc') :: X) (kp_refl _) (by assumption) ⟨rfl, ?_⟩
        rw [List.range_succ, List.map_append]
        exact hac.snoc ⟨_, rfl⟩
      · intro D₂ C₂ h₂ Cl₂ mc₂ oL₂ O ac e₂ tk kC₂ ⟨hO, hac⟩ hoL₂ S
        subst hO
        refine post_none hoL₂ S ?_
        intro h₃ S₃
        obtain ⟨C₄, kC₄, kCh₄, hC₄, hO₄, S₄⟩ := St.freeze (O₁ := [(D₂, lobj ac e₂)]) (O₂ := (D, lobj acc e) :: (c, oc') :: X) (by rw [List.append_nil] at S₃; exact S₃)
        have hD₂ := hO₄ _ (.head _)
        refine elt_mk (O' := (c, oc') :: []) (kC₂.trans kC₄) S₄ ⟨oc', _, [], rfl, ho', rfl, ?_⟩
        rw [take_succ' hn, List.map_append]
        refine (hacc.mono fun _ _ z => VIL.kp z (kC₂.trans kC₄)).snoc ?_
        exact ⟨D₂, rfl, _, _, hD₂, hac⟩
    · intro DR CR hRb Cl mc oL O accR eR tkRb kCR ⟨hO, haccR⟩ hoL SRb
      subst hO
      rw [List.size_toArray, hnvl, List.take_length] at haccR
      refine post_nm (y := Str.ofString "rows") hoL SRb rfl (by with_unfolding_all rfl) (by with_unfolding_all rfl) ?_
      intro hRc tkRc SRc
      obtain ⟨CR', kCR', kChR', hCR', hOR', SR⟩ := St.freeze (O₁ := [(DR, lobj accR eR)]) (O₂ := []) SRc
      have hDR := hOR' _ (.head _)
      have haccR' := haccR.mono fun _ _ z => VIL.kp z kCR'
      have kR := kCR.trans kCR'
      clear SRa SRb SRc hOR' hCR' haccR SN srR
      have GCR := GCN.kp kR
      have c1R := c1N.keeps kR
      have c2R := c2N.keeps kR
      have hNmR := kR _ _ hNmN
      have KR := KN.trans kR
      try dsimp only
      clear hoL
      -- backward
      refine wpC_execs_cons (wpC_of ?_)
      walk_at "go"
      refine lcomp_assign rfl rfl rfl (by decide) (fun _ => rfl) ?_
      walk_at "go"
      refine iterList (O := []) [] r.hand (isL hDR) SR ?_
      intro IB oB hBa SBa srB
      have hRl : accR.length = nums.length := by rw [haccR'.length, List.length_map]
      refine lcomp_src0 (O := []) (X₀ := []) (X := [(IB, oB)]) (fun i C O acc => O = [] ∧ Paired (VIL C) acc (((nums.map (dig b wd)).take i).map List.reverse)) srB rfl (by decide) rfl SBa ⟨rfl, .nil⟩ (by rw [sizeLine_eq, List.size_toArray, hRl]; exact om39 hnl) (fun _ => rfl) ?_ ?_
      · rintro Cl D i v C' h m O X e acc tk hi hv kC' ⟨rfl, hacc⟩ S
        obtain ⟨z, hz, Ar, rfl, vr, er, hAr, hvr⟩ := paired_getL haccR' (show accR[i]? = some v by simpa using hv)
        have hzl : z.length = wd := by
          rw [List.getElem?_map] at hz
          obtain ⟨n, _, rfl⟩ := Option.map_eq_some_iff.mp hz
          exact dig_len ..
        refine wpAny_assign_Name ?_
        walk_at "go"
        refine tests_nil ?_
        walk_at "go"
        refine negI ?_
        walk_at "go"
        refine cutL (by assumption) rfl (isL (kC' _ _ hAr) |>.at fun o e => St.kp (by assumption) _ o e) (.none) (.none) (.int _ _) (by decide) (by rw [List.size_toArray, hvr.length, hzl, sizeLine_eq]; exact om40 hw2) (by with_unfolding_all rfl) ?_
        intro Rl hc Sc
        rw [pick_rev] at Sc
        obtain ⟨C₄, kC₄, kCh₄, hC₄, hO₄, S₄⟩ := St.freeze (O₁ := [(Rl, _)]) (O₂ := (D, lobj acc e) :: X) Sc
        have hRl := hO₄ _ (.head _)
        refine elt_mk (O' := []) kC₄ S₄ ⟨rfl, ?_⟩
        rw [take_succ' hz, List.map_append]
        refine (hacc.mono fun _ _ z => VIL.kp z kC₄).snoc ?_
        exact ⟨Rl, rfl, _, _, hRl, paired_reverse hvr⟩
      · intro DB CB hBb Cl mc oL O accB eB tkBb kCB ⟨hO, haccB⟩ hoL SBb
        subst hO
        rw [List.size_toArray, hRl, show nums.length = (nums.map (dig b wd)).length by rw [List.length_map], List.take_length] at haccB
        refine post_nm (y := Str.ofString "backward") hoL SBb rfl (by with_unfolding_all rfl) (by with_unfolding_all rfl) ?_
        intro hBc tkBc SBc
        obtain ⟨CB', kCB', kChB', hCB', hOB', SB⟩ := St.freeze (O₁ := [(DB, lobj accB eB)]) (O₂ := []) SBc
        have hDB := hOB' _ (.head _)
        have haccB' := haccB.mono fun _ _ z => VIL.kp z kCB'
        have kB := kCB.trans kCB'
        clear SBa SBb SBc hOB' hCB' haccB SR srB hoL
        have GCB := GCR.kp kB
        have c1B := c1R.keeps kB
        have c2B := c2R.keeps kB
        have hNmB := kB _ _ hNmR
        have KB := KR.trans kB
        have iR : IIL CB' DR (nums.map (dig b wd)) := ⟨_, _, kB _ _ hDR, haccR'.mono fun _ _ z => VIL.kp z kB⟩
        have iB : IIL CB' DB ((nums.map (dig b wd)).map List.reverse) := ⟨_, _, hDB, haccB'⟩
        try dsimp only
        have hne : nums ≠ [] := by intro q; rw [q] at hnl; exact absurd hnl.1 (by decide)
        have hb0 : 0 < b := by exact om67 hb2
        have RL := rows_low (nums := nums) (wd := wd) hb0 hb2.2 hne
        have RH := rows_high (nums := nums) (wd := wd) hb0 hb2.2 hne
        have hll : (nums.map (dig b wd)).length = nums.length := List.length_map _
        have hlh : ((nums.map (dig b wd)).map List.reverse).length = nums.length := by rw [List.length_map, List.length_map]
        have hmul : nums.length * wd ≤ 7 * 5 := Nat.mul_le_mul hnl.2 hw2.2
        refine wpC_execs_cons (wpC_of ?_)
        walk_at "go"
        refine laid_spec (rs := nums.map (dig b wd)) (r.less (k := 2) (by exact om125) |>.deep _) (inG GCB SB) (iR.kp SB.kp) RL.d (by exact om41 hnl hll) (fun q hq => by rw [RL.w q hq]; exact om23 hw2) (by rw [flat_len RL.w, hll]; exact om126 hmul) ?_
        intro hl₁ tkl tl kl
        have SL := SB.keep kl
        clear SB
        try dsimp only
        walk_at "go"
        rename_i hl₂ SL₂
        try dsimp only
        refine wpC_execs_cons ?_
        refine wpC_Assign_Name ?_ (by with_unfolding_all rfl)
        refine wpC_Call ?_ (by with_unfolding_all rfl)
        walk_at "go"
        refine callWithC_K (w := w) (kf_byteswap _) ?_ (by with_unfolding_all rfl) (by with_unfolding_all rfl)
        walk_at "go"
        refine byteswap_spec (rs := nums.map (dig b wd)) (r.less (k := 3) (by exact om127) |>.deep _) (inG GCB SL₂) RL.d RL.w (by exact om42 hw2) (by exact om23 hw2) (by exact om41 hnl hll) ?_
        intro hl₃ tk₃ t₃ k₃
        have SL₃ := SL₂.keep k₃
        clear SL SL₂
        try dsimp only
        walk_at "go"
        rename_i hl₄ SL₄
        try dsimp only
        refine wpC_execs_cons ?_
        refine wpC_If ?_
        refine wpC_isTrue_or ?_
        refine wpC_of ?_
        walk_at "go"
        refine call_type_of (Tx := "bytes") rfl rfl ?_
        walk_at "go"
        refine PyProof.Rows.isnot_type_same ?_
        walk_at "go"
        try dsimp only
        refine wpC_isTrue_or ?_
        refine wpC_of ?_
        walk_at "go"
        refine laid_spec (rs := (nums.map (dig b wd)).map List.reverse) (r.less (k := 2) (by exact om125) |>.deep _) (inG GCB SL₄) (iB.kp SL₄.kp) RH.d (by exact om41 hnl hlh) (fun q hq => by rw [RH.w q hq]; exact om23 hw2) (by rw [flat_len RH.w, hlh]; exact om126 hmul) ?_
        intro hl₅ tk₅ t₅ k₅
        have SL₅ := SL₄.keep k₅
        clear SL₃ SL₄
        try dsimp only
        walk_at "go"
        refine ne_bytes ?_
        rw [bne_self_eq_false]
        try dsimp only
        walk_at "go"
        try dsimp only
        refine wpC_isTrue_or ?_
        refine wpC_isTrue_Compare1 ?_ (by with_unfolding_all rfl)
        refine wpC_Call ?_ (by with_unfolding_all rfl)
        walk_at "go"
        refine callWithC_K (w := w) (kf_byteswap _) ?_ (by with_unfolding_all rfl) (by with_unfolding_all rfl)
        walk_at "go"
        refine byteswap_spec (rs := (nums.map (dig b wd)).map List.reverse) (r.less (k := 3) (by exact om127) |>.deep _) (inG GCB SL₅) RH.d RH.w (by exact om42 hw2) (by exact om23 hw2) (by exact om41 hnl hlh) ?_
        intro hl₆ tk₆ t₆ k₆
        have SL₆ := SL₅.keep k₆
        clear SL₅
        rw [rev_rev]
        try dsimp only
        refine wpC_of ?_
        walk_at "go"
        refine ne_bytes ?_
        rw [bne_self_eq_false]
        try dsimp only
        walk_at "go"
        refine wpC_of (PyProof.Rows.isTrue_or_nil ?_)
        rw [if_neg Bool.false_ne_true]
        refine wpC_of ?_
        walk_at "go"
        have SB := SL₆
        clear SL₆
        -- near
        try dsimp only
        refine wpC_execs_cons (wpC_of ?_)
        walk_at "go"
        refine lcomp_assign rfl rfl rfl (by decide) (fun _ => rfl) ?_
        walk_at "go"
        refine iterList (O := []) [] r.hand (isL hNmB) SB ?_
        intro IE oE hEa SEa srE
        refine lcomp_src1 (O := []) (X₀ := []) (X := [(IE, oE)]) (xc := Str.ofString "number") (fun i C O acc => O = [] ∧ Paired (VIL C) acc ((nums.take i).map (nearL b wd))) srE rfl (fun _ => rfl) (fun _ => rfl) rfl SEa ⟨rfl, .nil⟩ (by rw [sizeLine_eq, List.size_toArray, hnvl]; exact om39 hnl) (fun _ => rfl) ?_ ?_
        · rintro Cl c oc u D i v C' h m O X e acc tk hi hv kC' ⟨rfl, hacc⟩ hu S
          obtain ⟨n, t, hn, rfl⟩ := getN (show nv[i]? = some v by simpa using hv)
          have GC' := GCB.kp kC'
          have d1 := c1B.keeps kC'
          have d2 := c2B.keeps kC'
          refine wpAny_assign_Name ?_
          refine stC (O₁ := [(D, lobj acc e)]) (O₂ := X) S hu rfl (by with_unfolding_all rfl) (by with_unfolding_all rfl) ?_
          intro hb oc' ho' Sb
          clear S
          try dsimp only [List.cons_append, List.nil_append] at Sb
          refine tests_nil ?_
          walk_at "go"
          refine lcomp_eval rfl rfl (by decide) (fun _ => rfl) ?_
          walk_at "go"
          refine callRange2 Sb ?_
          intro Rk hc tkc vk Sc hRk
          rw [show ((wd : Int) + 1) = 1 + (wd : Int) by exact om128] at hRk
          refine iterRange1 (O := (D, lobj acc e) :: (c, oc') :: X) [] r.hand hRk (by decide) (by exact om129 hw2) (by rw [List.append_nil]; exact Sc) ?_
          intro Ik ok hd Sd srk
          refine lcomp_src0 (L := Cl) (O := (D, lobj acc e) :: (c, oc') :: X) (X₀ := []) (X := [(Ik, ok)]) (fun q C O ac => O = (D, lobj acc e) :: (c, oc') :: X ∧ Paired VI ac ((List.range q).map fun k => ((n % b ^ (k + 1) : Nat) : Int))) srk rfl (by decide) rfl Sd ⟨rfl, .nil⟩ (by rw [sizeLine_eq]; exact om40 hw2) (fun _ => rfl) ?_ ?_
          · rintro Cl₂ D₂ q v C₂ h m O X₂ e₂ ac tk hq ⟨tq, rfl⟩ kC₂ ⟨rfl, hac⟩ S
            have GC₂ := GC'.kp kC₂
            have d1₂ := d1.keeps kC₂
            have d2₂ := d2.keeps kC₂
            rw [show ((1 : Int) + (q : Int)) = ((q + 1 : Nat) : Int) by exact om130]
            refine wpAny_assign_Name ?_
            walk_at "go"
            refine tests_nil ?_
            walk_at "go"
            refine powI (n := q + 1) (by exact om37 hb2) (by exact om334 hq hwd) ?_
            rw [show ((b : Int) ^ (q + 1)) = ((b ^ (q + 1) : Nat) : Int) from (Int.natCast_pow b (q + 1)).symm]
            have hpp := pow_small hb2 (show q + 1 ≤ 5 by exact om335 hq hwd)
            refine modI (by exact om38 hpp) ?_
            refine elt_mk (O' := (D, lobj acc e) :: (c, oc') :: X) (kp_refl _) (by assumption) ⟨rfl, ?_⟩
            rw [List.range_succ, List.map_append]
            exact hac.snoc ⟨_, rfl⟩
          · intro D₂ C₂ h₂ Cl₂ mc₂ oL₂ O ac e₂ tk kC₂ ⟨hO, hac⟩ hoL₂ S
            subst hO
            refine post_none hoL₂ S ?_
            intro h₃ S₃
            obtain ⟨C₄, kC₄, kCh₄, hC₄, hO₄, S₄⟩ := St.freeze (O₁ := [(D₂, lobj ac e₂)]) (O₂ := (D, lobj acc e) :: (c, oc') :: X) (by rw [List.append_nil] at S₃; exact S₃)
            have hD₂ := hO₄ _ (.head _)
            refine elt_mk (O' := (c, oc') :: []) (kC₂.trans kC₄) S₄ ⟨oc', _, [], rfl, ho', rfl, ?_⟩
            rw [take_succ' hn, List.map_append]
            refine (hacc.mono fun _ _ z => VIL.kp z (kC₂.trans kC₄)).snoc ?_
            exact ⟨D₂, rfl, _, _, hD₂, hac⟩
        · intro DE CE hEb Cl mc oL O accE eE tkEb kCE ⟨hO, haccE⟩ hoL SEb
          subst hO
          rw [List.size_toArray, hnvl, List.take_length] at haccE
          refine post_nm (y := Str.ofString "near") hoL SEb rfl (by with_unfolding_all rfl) (by with_unfolding_all rfl) ?_
          intro hEc tkEc SEc
          obtain ⟨CE', kCE', kChE', hCE', hOE', SE⟩ := St.freeze (O₁ := [(DE, lobj accE eE)]) (O₂ := []) SEc
          have hDE := hOE' _ (.head _)
          have haccE' := haccE.mono fun _ _ z => VIL.kp z kCE'
          have kE := kCE.trans kCE'
          clear SEa SEb SEc hOE' hCE' haccE SB srE
          have GCE := GCB.kp kE
          have c1E := c1B.keeps kE
          have c2E := c2B.keeps kE
          have hNmE := kE _ _ hNmB
          have KE := KB.trans kE
          -- far
          try dsimp only
          refine wpC_execs_cons (wpC_of ?_)
          walk_at "go"
          refine lcomp_assign rfl rfl rfl (by decide) (fun _ => rfl) ?_
          walk_at "go"
          refine iterList (O := []) [] r.hand (isL hNmE) SE ?_
          intro IF oF hFa SFa srF
          refine lcomp_src1 (O := []) (X₀ := []) (X := [(IF, oF)]) (xc := Str.ofString "number") (fun i C O acc => O = [] ∧ Paired (VIL C) acc ((nums.take i).map (farL b wd))) srF rfl (fun _ => rfl) (fun _ => rfl) rfl SFa ⟨rfl, .nil⟩ (by rw [sizeLine_eq, List.size_toArray, hnvl]; exact om39 hnl) (fun _ => rfl) ?_ ?_
          · rintro Cl c oc u D i v C' h m O X e acc tk hi hv kC' ⟨rfl, hacc⟩ hu S
            obtain ⟨n, t, hn, rfl⟩ := getN (show nv[i]? = some v by simpa using hv)
            have GC' := GCE.kp kC'
            have d1 := c1E.keeps kC'
            have d2 := c2E.keeps kC'
            refine wpAny_assign_Name ?_
            refine stC (O₁ := [(D, lobj acc e)]) (O₂ := X) S hu rfl (by with_unfolding_all rfl) (by with_unfolding_all rfl) ?_
            intro hb oc' ho' Sb
            clear S
            try dsimp only [List.cons_append, List.nil_append] at Sb
            refine tests_nil ?_
            walk_at "go"
            refine lcomp_eval rfl rfl (by decide) (fun _ => rfl) ?_
            walk_at "go"
            refine callRange2 Sb ?_
            intro Rk hc tkc vk Sc hRk
            rw [show ((wd : Int) + 1) = 1 + (wd : Int) by exact om128] at hRk
            refine iterRange1 (O := (D, lobj acc e) :: (c, oc') :: X) [] r.hand hRk (by decide) (by exact om129 hw2) (by rw [List.append_nil]; exact Sc) ?_
            intro Ik ok hd Sd srk
            refine lcomp_src0 (L := Cl) (O := (D, lobj acc e) :: (c, oc') :: X) (X₀ := []) (X := [(Ik, ok)]) (fun q C O ac => O = (D, lobj acc e) :: (c, oc') :: X ∧ Paired VI ac ((List.range q).map fun k => ((n / b ^ (wd - (k + 1)) : Nat) : Int))) srk rfl (by decide) rfl Sd ⟨rfl, .nil⟩ (by rw [sizeLine_eq]; exact om40 hw2) (fun _ => rfl) ?_ ?_
            · rintro Cl₂ D₂ q v C₂ h m O X₂ e₂ ac tk hq ⟨tq, rfl⟩ kC₂ ⟨rfl, hac⟩ S
              have GC₂ := GC'.kp kC₂
              have d1₂ := d1.keeps kC₂
              have d2₂ := d2.keeps kC₂
              rw [show ((1 : Int) + (q : Int)) = ((q + 1 : Nat) : Int) by exact om130]
              refine wpAny_assign_Name ?_
              walk_at "go"
              refine tests_nil ?_
              walk_at "go"
              rw [show ((wd : Int) - ((q + 1 : Nat) : Int)) = ((wd - (q + 1) : Nat) : Int) by exact om336 hq]
              refine powI (n := wd - (q + 1)) (by exact om37 hb2) (by exact om337 hw2) ?_
              rw [show ((b : Int) ^ (wd - (q + 1))) = ((b ^ (wd - (q + 1)) : Nat) : Int) from (Int.natCast_pow b (wd - (q + 1))).symm]
              have hpp := pow_small hb2 (show wd - (q + 1) ≤ 5 by exact om338 hw2)
              refine fdvI (by exact om38 hpp) (by exact om124 hpp) ?_
              refine elt_mk (O' := (D, lobj acc e) :: (c, oc') :: X) (kp_refl _) (by assumption) ⟨rfl, ?_⟩
              rw [List.range_succ, List.map_append]
              exact hac.snoc ⟨_, rfl⟩
            · intro D₂ C₂ h₂ Cl₂ mc₂ oL₂ O ac e₂ tk kC₂ ⟨hO, hac⟩ hoL₂ S
              subst hO
              refine post_none hoL₂ S ?_
              intro h₃ S₃
              obtain ⟨C₄, kC₄, kCh₄, hC₄, hO₄, S₄⟩ := St.freeze (O₁ := [(D₂, lobj ac e₂)]) (O₂ := (D, lobj acc e) :: (c, oc') :: X) (by rw [List.append_nil] at S₃; exact S₃)
              have hD₂ := hO₄ _ (.head _)
              refine elt_mk (O' := (c, oc') :: []) (kC₂.trans kC₄) S₄ ⟨oc', _, [], rfl, ho', rfl, ?_⟩
              rw [take_succ' hn, List.map_append]
              refine (hacc.mono fun _ _ z => VIL.kp z (kC₂.trans kC₄)).snoc ?_
              exact ⟨D₂, rfl, _, _, hD₂, hac⟩
          · intro DF CF hFb Cl mc oL O accF eF tkFb kCF ⟨hO, haccF⟩ hoL SFb
            subst hO
            rw [List.size_toArray, hnvl, List.take_length] at haccF
            refine post_nm (y := Str.ofString "far") hoL SFb rfl (by with_unfolding_all rfl) (by with_unfolding_all rfl) ?_
            intro hFc tkFc SFc
            obtain ⟨CF', kCF', kChF', hCF', hOF', SF⟩ := St.freeze (O₁ := [(DF, lobj accF eF)]) (O₂ := []) SFc
            have hDF := hOF' _ (.head _)
            have haccF' := haccF.mono fun _ _ z => VIL.kp z kCF'
            have kF := kCF.trans kCF'
            clear SFa SFb SFc hOF' hCF' haccF SE srF
            have GCF := GCE.kp kF
            have c1F := c1E.keeps kF
            have c2F := c2E.keeps kF
            have hNmF := kF _ _ hNmE
            have KF := KE.trans kF
            have iR' := iR.kp (kE.trans kF)
            have iB' := iB.kp (kE.trans kF)
            have iE : IIL CF' DE (nums.map (nearL b wd)) := ⟨_, _, kF _ _ hDE, haccE'.mono fun _ _ z => VIL.kp z kF⟩
            have iF : IIL CF' DF (nums.map (farL b wd)) := ⟨_, _, hDF, haccF'⟩
            try dsimp only
            refine wpC_execs_cons (wpC_of ?_)
            walk_at "go"
            refine PyProof.Rows.BoolOp_and ?_
            walk_at "go"
            refine side_spec (rs := nums.map (dig b wd)) (mks := nums.map (nearL b wd)) (wd := wd) (r.less (k := 13) (by exact om131) |>.deep _) (inG GCF SF) (bInts_byteArr (laid_byte RL.d)) (iR'.kp SF.kp) ((iE.kp SF.kp)) RL (by exact om42 hw2) (by exact om23 hw2) (by exact om132 hnl hll) (by exact om133 hnl hll) (by exact om134 hb2) (fun q hq => by obtain ⟨n, _, rfl⟩ := List.mem_map.mp hq; exact dig_bd hb0) (near_ok hb0 nums) ?_
            intro h₇ tk₇ k₇
            have SF₁ := SF.keep k₇
            try dsimp only
            walk_at "go"
            refine PyProof.Rows.BoolOp_one ?_
            walk_at "go"
            refine side_spec (rs := (nums.map (dig b wd)).map List.reverse) (mks := nums.map (farL b wd)) (wd := wd) (r.less (k := 13) (by exact om131) |>.deep _) (inG GCF SF₁) (bInts_byteArr (laid_byte RH.d)) (iB'.kp SF₁.kp) ((iF.kp SF₁.kp)) RH (by exact om42 hw2) (by exact om23 hw2) (by exact om132 hnl hlh) (by exact om133 hnl hlh) (by exact om134 hb2) (fun q hq => by
              obtain ⟨q', hq', rfl⟩ := List.mem_map.mp hq
              obtain ⟨n, _, rfl⟩ := List.mem_map.mp hq'
              exact fun d hd => dig_bd hb0 d (List.mem_reverse.mp hd)) (far_ok hb0 (by rw [hnums]; exact numsN_lt hb2.1 hw2.1)) ?_
            intro h₈ tk₈ k₈
            have SF₂ := SF₁.keep k₈
            try dsimp only
            walk_at "go"
            exact h _ _ (kC.trans (KF.trans SF₂.kp))
theorem gk_law (w : World) : nsIn (KK w) mainGlobals (Str.ofString "law") = some (some (.ref 211)) := by kernel_rfl
theorem paired_of : ∀ {vs : List Value} {ns : List Int}, IntsAre vs ns → Paired VI vs ns := by
  intro vs ns h
  induction h with
  | nil => exact .nil
  | cons n t _ ih => exact .cons ⟨t, rfl⟩ ih
theorem roomC : Rm callerA 14 := ⟨by decide, by decide, rfl⟩
set_option maxHeartbeats 8000000 in
theorem top : PySem.Challenge.rw_pd0165_01.Holds := by
  w_on
  refine holds_law wl fun said => ?_
  refine holds_clean (q := qv) (loose := []) (Xt := fun s => xlAt qv [] s && recOk (RowW.records (OpenRow.toRowW PySem.Challenge.rw_pd0165_01.row)) s) (XP := XL qv []) (Yf := Hook.obs hk2) (Ya := Hook.val hk2) (YP := Hook.says hk2) (N := 2700) ?hl (Hook.of hk2) (Hook.keeps hk2) (fun s e => xl_of s (Bool.and_eq_true_iff.mp e).1) XL.keeps (by rfl) (by rfl) (by rfl) (fun s e => recFacts_of (Bool.and_eq_true_iff.mp e).2) (by rfl) (by first | assumption | decide +kernel) (by decide +kernel) ⟨rfl, rfl, rfl, rfl, rfl, by decide +kernel⟩ ?hw ?hc
  case hl => exact fun w => by kernel_rfl
  case hw => w_witness2
  intro w s₀ s₁ mg mb G Y fa o pm cd doc dV kV ho hdd hcd hD hmg hg args vals as hpre hlay hrd hwl hlo
  have KX := kIn_of Y
  have TT := G.T
  have hfa : Value.ref fa = Value.ref 211 := by
    have e1 := mg_of KX TT.g (gk_law w)
    have e2 := hmg.symm.trans e1
    injection e2
  injection hfa with hfa
  subst hfa
  wrow_args hpre hlay hrd hwl hlo
  rename_i ns _ _ _ _ _ _ _ l vs _ hL _ _ _ hI _ hcond1 _
  refine law_spec roomC ⟨KX, _, mg, mb, topRead_of TT⟩ hL (paired_of hI) (by omega) ?_
  intro h' tk' k'
  refine ⟨.inl ⟨.bool true, _, [], rfl, ?_, ReadsW.bool _, ?_, ?_⟩, OldK.of_keep k', rfl, AllBare.of_eq hg⟩
  · exact fun _ => rfl
  · first | rfl | (with_unfolding_all rfl)
  · exact fun _ => ⟨List.nodup_nil, fun a ha => by cases ha⟩
end Mine
theorem PySem.Challenge.cw_pd0165_01_holds : PySem.Challenge.rw_pd0165_01.Holds := by
  exact Mine.top
