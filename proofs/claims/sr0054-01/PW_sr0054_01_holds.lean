import PyProof.Rows.All
import Wide.All
import OpenK.AllK
import Wide.FinOn
import PySem.Challenge.RW_sr0054_01
set_option Elab.async false
set_option maxRecDepth 100000
set_option maxHeartbeats 8000000
set_option compiler.extract_closed false
set_option linter.unusedVariables false
set_option linter.unusedSimpArgs false
set_option linter.all false
namespace Mine
section
open PySem PySem.W PyProof.Rows
noncomputable def hdKeep : List Nat := [1, 3, 4, 5, 6, 7, 9, 11, 12, 13, 14, 15, 16, 17, 18, 19, 20, 21, 22, 23, 24, 25, 26, 27, 28, 29, 30, 31, 32, 33, 34, 35, 36, 37, 38, 39, 40, 41, 42, 43, 44, 45, 46, 47, 48, 49, 50, 51, 52, 53, 54, 55, 56, 57, 58, 59, 60, 61, 62, 63, 65, 66, 67, 68, 69, 70, 71, 72, 73, 74, 75]
noncomputable def hdView : Program := view PySem.Challenge.pw_sr0054_01 hdKeep
theorem hdSaid : OpenLaw.wellSaid PySem.Challenge.rw_sr0054_01 = true := by
  rw [PySem.W.Fast.te9446332074065402090]
  kernel_rfl
theorem leftBoot {p q : Program} {loose : List Str} {Xt : Shared → Bool} {α : Type} {Yf : Shared → α} {Ya : World → α} {N : Nat} {g0 : Bool} {H₁ : Params → Heap} {gs₁ : Array GenState} {d₁ : Drawn} {k₁ m₀ : Nat} {ann : Option Value} (row : String) (e : opening p = plainProg p.main.scope.names) (hN : Nat.ble 600 N = true) (f : ∀ s, fenceModules? p s = some s)
    (size : ∀ P : Params, ((boot_heap P).isNs mainGlobals, (boot_heap P).objs.size, (boot_heap P).nsMap mainGlobals "__annotations__") = (true, m₀, ann))
    (run : ∀ (w : World) (b : Bool) (os : OsState), topRun treeTable p (w.withFollow row b) m₀ ann N ⟨boot_heap (w.withFollow row b).params, Array.mk [], boot_drawn, boot_toks, os⟩ (topStub p) = some ⟨H₁ (w.withFollow row b).params, gs₁, d₁, k₁, os⟩)
    (look : ∀ (w : World) (os : OsState), (staticsOk (importedModules p.main.body) (boot_heap w.params) (H₁ w.params) && namesBound p (H₁ w.params) && gensDone ⟨H₁ w.params, gs₁, d₁, k₁, os⟩ && laidKept (boot_heap w.params) (H₁ w.params)) = true)
    (seen : ∀ (w : World) (os : OsState), openSeen q loose (importedModules p.main.body) Xt g0 ⟨H₁ w.params, gs₁, d₁, k₁, os⟩ = openGood q loose)
    (view : ∀ (w : World) (os : OsState), Yf ⟨H₁ w.params, gs₁, d₁, k₁, os⟩ = Ya w) : LeftO p q loose Xt Yf Ya N g0 :=
  LeftO.of_pieces (m₀ := m₀) (ann := ann) (M := N) (boot_open e hN f) (fun w => by have h := size w.params; simp only [Prod.mk.injEq] at h; rw [h.1, h.2.1, h.2.2]; rfl)
    (fun w os => by
      have k := run w (w.params.followText row) os
      rwa [World.withFollow_self w row] at k) (Nat.ble_self_eq_true N) (fun w => funext fun os => by rw [look w os, seen w os, view w os])
theorem by2 {P : Bool → Prop} (hf : P false) (ht : P true) (b : Bool) : P b := by cases b; exact hf; exact ht
local macro_rules | `(tactic| o_law) => `(tactic| refine holds_law hdSaid fun said => ?_)
local macro_rules | `(tactic| o_head $H) => `(tactic| (have hH0 := $H; clear hH0; refine (fun (_ : RowW.promised (OpenRow.toRowW (OpenLaw.row PySem.Challenge.rw_sr0054_01))) => ?hc) ?hw))
open_top hd for PySem.Challenge.rw_sr0054_01
noncomputable abbrev hdRow : RowW := OpenRow.toRowW (OpenLaw.row PySem.Challenge.rw_sr0054_01)
noncomputable abbrev hdHook : Hook := kmHook hd.heap_1 [2, 3, 15, 17, 18, 20, 21, 22, 24, 25, 27, 28, 29, 31, 32, 34, 35, 36, 38, 39, 41, 42, 43, 45, 46, 48, 49, 57, 59, 60, 62, 63, 64, 66, 67, 69, 70, 71, 73, 74, 76, 77, 78, 80, 81, 83, 84, 85, 86, 87, 88, 89, 92, 95, 97, 98, 100, 101, 102, 104, 105, 107, 108, 109, 111, 112, 114, 115, 116, 118, 119, 121, 122, 123, 126, 127, 128, 130, 131, 133, 134, 135, 137, 138, 140, 141, 142, 145, 146, 147, 149, 150, 152, 153, 154, 157, 158, 159, 161, 162, 164, 165, 166, 168, 169, 171, 172, 173, 176, 177] (fun _ => by kernel_rfl) [110]
noncomputable abbrev hdXt : Shared → Bool := fun s => xlAt hdView [] s && recOk (RowW.records hdRow) s
noncomputable def hdMrg : Nat → Nat → Frag → List Obj → List Obj
  | 0, _, _, _ => []
  | n + 1, i, (a, o) :: f, os => match Nat.beq a i with
    | true => o :: hdMrg n (i + 1) f os
    | false => match os with
      | x :: os => x :: hdMrg n (i + 1) ((a, o) :: f) os
      | [] => []
  | n + 1, i, [], x :: os => x :: hdMrg n (i + 1) [] os
  | _ + 1, _, [], [] => []
noncomputable def hdO0 : Obj := { cls := .none, data := .fields #[] }
noncomputable def hdKe (P : Params) (s : String) (t : Nat) (v : Value) : DictEntry := { hash := PyData.keyHash P (Str.ofString s), key := .str (Str.ofString s) t, val := v }
noncomputable def hdFn (l : List Stmt) (q : String) : Obj := match l with
  | .FunctionDef n a b _ _ _ sc .. :: _ => { cls := .none, data := .func { name := n, qualname := Str.ofString q, params := a, body := .stmts b, scope := sc, globals := 0, closure := [], defaults := .none, kwdefaults := .none } }
  | _ => hdO0
noncomputable def hdSt (k : Nat) : List Stmt := PySem.Challenge.pw_sr0054_01.main.body.drop k
noncomputable def hdStC (k : Nat) : List Stmt := match hdSt 9 with
  | .ClassDef (body := b) .. :: _ => b.drop k
  | _ => []
noncomputable def hdRest (P : Params) : List Obj := [boot_o_0 P,
  boot_o_1 P,
  boot_o_4 P,
  boot_o_5 P,
  boot_o_6 P,
  boot_o_7 P,
  boot_o_8 P,
  boot_o_9 P,
  boot_o_10 P,
  { cls := .type "tuple", data := .seq #[] },
  { cls := .none, data := .fields #[.int 2 0, .int 0 0, .ref 20, .int 12 0, .int 0 0, .ref 27, .int 25 0, .int 0 0, .ref 34, .int 43 0, .int 0 0, .ref 41, .int 54 0, .int 0 0, .ref 48, .int 60 0, .int 0 0, .ref 55, .int 155 0, .int 0 0, .ref 100, .int 157 0, .int 0 0, .ref 107, .int 160 0, .int 0 0, .ref 114, .int 170 0, .int 0 0, .ref 121, .int 175 0, .int 0 0, .ref 126, .int 177 0, .int 0 0, .ref 133, .int 189 0, .int 0 0, .ref 140, .int 196 0, .int 0 0, .ref 145, .int 204 0, .int 0 0, .ref 152, .int 210 0, .int 0 0, .ref 157, .int 235 0, .int 0 0, .ref 164, .int 243 0, .int 0 0, .ref 171, .int 251 0, .int 0 0, .ref 176] },
  { cls := .type "code", data := .fields #[.str (Str.ofString "<module>") 182, .str (Str.ofString "<module>") 183, .str (Str.ofString "/claim/cut.py") 184, .int 1 0, .int 0 0, .int 0 0, .int 0 0, .int 0 0, .ref 11, .bool false, .int 181 0, .ref 12, .none, .none, .none, .none, .int 185 0, .int 1 0, .str (Str.ofString "/claim/cut.py") 186] },
  { cls := .type "frame", slots := #[some (.ref 13), some (.ref 3), some (.ref 3), none, some (.str (Str.ofString "__main__") 164), none, some (.ref 0)] },
  hdO0,
  hdFn (hdSt 1) "_parse_varint",
  hdO0,
  hdFn (hdSt 4) "_iter_escaped_chars",
  hdO0,
  hdFn (hdSt 5) "_strip_quoted_realnames",
  hdO0,
  hdFn (hdSt 6) "_check_parenthesis",
  hdO0,
  hdFn (hdSt 7) "decode_rfc2231",
  { cls := .type "tuple", data := .seq #[] },
  { cls := .type "builtin_function_or_method", data := .fields #[.builtin "type.__prepare__", .type "type"] },
  { cls := .type "dict", data := .dict #[hdKe P "__module__" 251 (.str (Str.ofString "cpy313.netrc") 242), hdKe P "__qualname__" 253 (.str (Str.ofString "_netrclex") 252), hdKe P "__firstlineno__" 255 (.int 60 254), hdKe P "__init__" 263 (.ref 63), hdKe P "_read_char" 271 (.ref 70), hdKe P "get_token" 281 (.ref 77), hdKe P "push_token" 289 (.ref 84), hdKe P "__static_attributes__" 294 (.ref 85)] 8 },
  { cls := .type "tuple", data := .seq #[] },
  { cls := .none, data := .fields #[.int 62 0, .int 4 0, .ref 62, .int 68 0, .int 4 0, .ref 69, .int 74 0, .int 4 0, .ref 76, .int 101 0, .int 4 0, .ref 83] },
  { cls := .type "code", data := .fields #[.str (Str.ofString "_netrclex") 246, .str (Str.ofString "_netrclex") 247, .str (Str.ofString "/claim/cut.py") 248, .int 60 0, .int 0 0, .int 0 0, .int 0 0, .int 0 0, .ref 53, .bool false, .int 181 0, .ref 54, .none, .none, .none, .none, .int 249 0, .int 60 0, .str (Str.ofString "/claim/cut.py") 250] },
  { cls := .type "frame", slots := #[some (.ref 55), some (.ref 3), some (.ref 52), none, some (.str (Str.ofString "cpy313.netrc") 242), none, some (.ref 0)] },
  hdO0,
  hdFn (hdStC 0) "_netrclex.__init__",
  hdO0,
  hdFn (hdStC 1) "_netrclex._read_char",
  hdO0,
  hdFn (hdStC 2) "_netrclex.get_token",
  hdO0,
  hdFn (hdStC 3) "_netrclex.push_token",
  { cls := .type "super", data := .fields #[.ref 87, .ref 87, .ref 87] },
  { cls := .type "builtin_function_or_method", data := .fields #[.builtin "object.__init_subclass__", .ref 87] },
  { cls := .type "dict", data := .dict #[hdKe P "->" 438 (.int 51 394), hdKe P "." 440 (.int 23 338), hdKe P "..." 442 (.int 52 396), hdKe P "/" 444 (.int 17 326), hdKe P "//" 446 (.int 47 386), hdKe P "//=" 448 (.int 48 388), hdKe P "/=" 450 (.int 39 370), hdKe P ":" 452 (.int 11 314), hdKe P ":=" 454 (.int 53 398), hdKe P ";" 456 (.int 13 318), hdKe P "<" 458 (.int 20 332), hdKe P "<<" 460 (.int 33 358), hdKe P "<<=" 462 (.int 44 380), hdKe P "<=" 464 (.int 29 350), hdKe P "=" 466 (.int 22 336), hdKe P "==" 468 (.int 27 346), hdKe P ">" 470 (.int 21 334)] 17 },
  { cls := .type "dict", data := .dict #[hdKe P ">=" 472 (.int 30 352), hdKe P ">>" 473 (.int 34 360), hdKe P ">>=" 474 (.int 45 382), hdKe P "@" 475 (.int 49 390), hdKe P "@=" 476 (.int 50 392), hdKe P "[" 477 (.int 9 310), hdKe P "]" 478 (.int 10 312), hdKe P "^" 479 (.int 32 356), hdKe P "^=" 480 (.int 43 378), hdKe P "{" 481 (.int 25 342), hdKe P "|" 482 (.int 18 328), hdKe P "|=" 483 (.int 42 376), hdKe P "}" 484 (.int 26 344), hdKe P "~" 485 (.int 31 354)] 14 },
  hdO0,
  hdFn (hdSt 62) "ISTERMINAL",
  hdO0,
  hdFn (hdSt 63) "ISEOF",
  hdO0,
  hdFn (hdSt 65) "_law_stream",
  hdO0,
  hdFn (hdSt 66) "_law_cells",
  hdO0,
  hdFn (hdSt 67) "_law_rule",
  hdO0,
  hdFn (hdSt 68) "_law_spelled",
  hdO0,
  hdFn (hdSt 69) "_law_written",
  hdO0,
  hdFn (hdSt 70) "_law_read",
  hdO0,
  hdFn (hdSt 71) "_law_seen",
  hdO0,
  hdFn (hdSt 72) "_law_rounds",
  hdO0,
  hdFn (hdSt 73) "_law_height",
  hdO0,
  hdFn (hdSt 74) "_law_joined",
  hdO0,
  hdFn (hdSt 75) "law"]

noncomputable def hdEnd (P : Params) : Heap := ⟨Array.mk (hdMrg 178 0 (hd.heap_1 P) (hdRest P)), {}⟩
theorem hdSize (P : Params) : ((boot_heap P).isNs mainGlobals, (boot_heap P).objs.size, (boot_heap P).nsMap mainGlobals "__annotations__") = (true, 11, some (.ref 6)) := by kernel_rfl
theorem hdRunF (w : World) (os : OsState) : topRun treeTable hdRow.prog (w.withFollow "special-get-raises" false) 11 (some (.ref 6)) 4842 ⟨boot_heap (w.withFollow "special-get-raises" false).params, Array.mk [], boot_drawn, boot_toks, os⟩ (topStub hdRow.prog) = some ⟨hdEnd (w.withFollow "special-get-raises" false).params, Array.mk [], Drawn.mk 0 0 0 0, 619, os⟩ := by
  rw [PySem.W.Fast.te14082659384304107361, PySem.W.Fast.te14364793385576792824]
  kernel_rfl
theorem hdRunT (w : World) (os : OsState) : topRun treeTable hdRow.prog (w.withFollow "special-get-raises" true) 11 (some (.ref 6)) 4842 ⟨boot_heap (w.withFollow "special-get-raises" true).params, Array.mk [], boot_drawn, boot_toks, os⟩ (topStub hdRow.prog) = some ⟨hdEnd (w.withFollow "special-get-raises" true).params, Array.mk [], Drawn.mk 0 0 0 0, 619, os⟩ := by
  rw [PySem.W.Fast.te14082659384304107361, PySem.W.Fast.te14364793385576792824]
  kernel_rfl
theorem hdLook (w : World) (os : OsState) : (staticsOk (importedModules hdRow.prog.main.body) (boot_heap w.params) (hdEnd w.params) && namesBound hdRow.prog (hdEnd w.params) && gensDone ⟨hdEnd w.params, Array.mk [], Drawn.mk 0 0 0 0, 619, os⟩ && laidKept (boot_heap w.params) (hdEnd w.params)) = true := by
  unfold staticsOk namesBound laidKept
  rw [PySem.W.Fast.te8920871248978507458, PySem.W.Fast.te12749700546528644094, PySem.W.Fast.te18344453789297297638, PySem.W.Fast.te5923862056798008813]
  kernel_rfl
theorem hdSeen (w : World) (os : OsState) : openSeen hdView [Str.ofString "EXACT_TOKEN_TYPES"] (importedModules hdRow.prog.main.body) hdXt true ⟨hdEnd w.params, Array.mk [], Drawn.mk 0 0 0 0, 619, os⟩ = openGood hdView [Str.ofString "EXACT_TOKEN_TYPES"] := by
  unfold openGood
  rw [PySem.W.Fast.te3247288618530077131, PySem.W.Fast.te821141287760084731, PySem.W.Fast.te4187177175401517315, PySem.W.Fast.te5923862056798008813]
  kernel_rfl
theorem hdSees (w : World) (os : OsState) : hdHook.obs ⟨hdEnd w.params, Array.mk [], Drawn.mk 0 0 0 0, 619, os⟩ = hdHook.val w := by kernel_rfl
theorem hdLeft : LeftO hdRow.prog hdView [Str.ofString "EXACT_TOKEN_TYPES"] hdXt hdHook.obs hdHook.val 4842 :=
  leftBoot "special-get-raises" (by kernel_rfl) (by rfl) (fun _ => by rfl) hdSize (fun w => by2 (fun os => hdRunF w os) (fun os => hdRunT w os)) hdLook hdSeen hdSees
end
section
open PySem PySem.W PyProof.Rows PySem.Calls PySem.Spec
theorem walkOff : True := by
  w_top off
  trivial


noncomputable def Hold (p : Prop) : Prop := p
theorem Hold.mk {p : Prop} (h : Hold p) : p := h
theorem Hold.out {p : Prop} (h : p) : Hold p := h

theorem room0 {a b c r : Nat} (h : a + c < r) (hb : b ≤ c) : a + b < r := Nat.lt_of_le_of_lt (Nat.add_le_add_left hb a) h
theorem room1 {a b c r k : Nat} (h : a + c < r) (hb : k + b ≤ c) : a + k + b < r := by rw [Nat.add_assoc]; exact room0 h hb
noncomputable def heldRefs : List Addr := [21, 28, 35, 42, 49, 70, 77, 84, 87, 115, 122, 127, 134, 141, 146, 153, 158, 165, 172]
theorem hold_ref {M : Model} {A : Around} {n : Addr} {v : List Value} {Q : Value → Shared → Prop} {E : Value → Shared → Prop} {s : Shared} (_ : heldRefs.elem n = true) (H : Hold (wpAny M A (call (.ref n) v) Q E s)) : wpAny M A (call (.ref n) v) Q E s := H
section
variable {prog : Program} {w : World} {A : Around} {E : Value → Shared → Prop} {s : Shared} {env : Env}

theorem gen_toks {α : Type} {M : Model} {A : Around} {c : Sem α} {Q : α → Shared → Prop} {E : Value → Shared → Prop} {h : Heap} {g : Array GenState} {d : Drawn} {t : Nat} {o : OsState} (H : ∀ t, wpAny M A c Q E ⟨h, g, d, t, o⟩) : wpAny M A c Q E ⟨h, g, d, t, o⟩ := H t
theorem gen_toksC {M : Model} {A : Around} {c : Code} {R : Result → Shared → Prop} {h : Heap} {g : Array GenState} {d : Drawn} {t : Nat} {o : OsState} (H : ∀ t, codeAny M A c R ⟨h, g, d, t, o⟩) : codeAny M A c R ⟨h, g, d, t, o⟩ := H t
theorem gen_Q {α : Type} {M : Model} {A : Around} {c : Sem α} {Q : α → Shared → Prop} {E : Value → Shared → Prop} {s : Shared} (H : ∀ P : α → Shared → Prop, (∀ f s', Q f s' → P f s') → wpAny M A c P E s) : wpAny M A c Q E s := H Q fun _ _ h => h
theorem gen_R {M : Model} {A : Around} {c : Code} {R : Result → Shared → Prop} {s : Shared} (H : ∀ P : Result → Shared → Prop, (∀ r s', R r s' → P r s') → codeAny M A c P s) : codeAny M A c R s := H R fun _ _ h => h
theorem while_inv {test : Expr} {body : List Stmt} {pos : Pos} {Q : Flow → Shared → Prop} (I : Nat → Shared → Prop) (n : Nat) (h : I n s)
    (turn : ∀ n s, I n s → wpAny (model prog w) A (isTrue test env (eval test env))
      (fun b s₂ => if b then wpAny (model prog w) A (execs body env) (fun f s₃ => match f with
          | .next | .cont => ∃ k, k < n ∧ I k s₃
          | .brk => Q .next s₃
          | .ret v => Q (.ret v) s₃) (fun _ _ => False) s₂
        else Q .next s₂) (fun _ _ => False) s) :
    wpAny (model prog w) A (exec (.While test body [] pos) env) Q E s := by
  refine wpAny_While (codeAny_whileLoop I (fun n s hI => ?_) n h)
  refine wpAny_mono (turn n s hI) (fun b s₂ h₂ => ?_) fun _ _ x => x.elim
  cases b with
  | true => 
    simp only [if_true] at h₂ ⊢
    refine wpAny_mono h₂ (fun f s₃ h₃ => ?_) fun _ _ x => x.elim
    cases f <;> exact h₃
  | false =>
    simp only [Bool.false_eq_true, if_false] at h₂ ⊢
    exact wpAny_execs_nil h₂

noncomputable def TurnEnd (g : Heap) (L : Addr) (s : Shared) (I : Nat → (Str → Option Value) → List (Addr × Obj) → Prop) (n : Nat) (s₃ : Shared) : Prop :=
  ∃ h' tk' m' news' k, s₃ = { s with heap := h', toks := tk' } ∧ Fr g L h' m' ∧ News g L h' news' ∧ k < n ∧ I k m' news'
theorem TurnEnd.mk {g : Heap} {L : Addr} {s : Shared} {I : Nat → (Str → Option Value) → List (Addr × Obj) → Prop} {n : Nat} {h' : Heap} {tk' : Nat} {m' : Str → Option Value} {news' : List (Addr × Obj)} (k : Nat)
    (F : Fr g L h' m') (N : News g L h' news') (hk : k < n) (hI : I k m' news') : TurnEnd g L s I n { s with heap := h', toks := tk' } := ⟨_, _, _, _, k, rfl, F, N, hk, hI⟩
theorem while_K {test : Expr} {body : List Stmt} {pos : Pos} {Q : Flow → Shared → Prop} {g : Heap} {L : Addr} {m₀ : Str → Option Value} {news₀ : List (Addr × Obj)} (I : Nat → (Str → Option Value) → List (Addr × Obj) → Prop) (n₀ : Nat)
    (F : Fr g L s.heap m₀) (N : News g L s.heap news₀) (h0 : I n₀ m₀ news₀)
    (turn : ∀ n m news h tk (P : Flow → Shared → Prop), (∀ f s₃, (match f with
          | .next | .cont => TurnEnd g L s I n s₃
          | .brk => Q .next s₃
          | .ret v => Q (.ret v) s₃) → P f s₃) → I n m news → Fr g L h m → News g L h news → wpAny (model prog w) A (isTrue test env (eval test env))
      (fun b s₂ => if b then wpAny (model prog w) A (execs body env) P (fun _ _ => False) s₂
        else Q .next s₂) (fun _ _ => False) { s with heap := h, toks := tk }) :
    wpAny (model prog w) A (exec (.While test body [] pos) env) Q E s := by
  refine while_inv (fun n s' => ∃ h tk m news, s' = { s with heap := h, toks := tk } ∧ Fr g L h m ∧ News g L h news ∧ I n m news) n₀ ⟨_, _, _, _, rfl, F, N, h0⟩ ?_
  rintro n s' ⟨h, tk, m, news, rfl, F', N', hI⟩
  refine wpAny_mono (turn n m news h tk _ (fun _ _ h => h) hI F' N') (fun b s₂ h₂ => ?_) fun _ _ x => x
  cases b with
  | true =>
    simp only [if_true] at h₂ ⊢
    refine wpAny_mono h₂ (fun f s₃ h₃ => ?_) fun _ _ x => x
    have key : TurnEnd g L s I n s₃ →
      ∃ k, k < n ∧ ∃ h tk m news, s₃ = { s with heap := h, toks := tk } ∧ Fr g L h m ∧ News g L h news ∧ I k m news := by
      rintro ⟨h', tk', m', news', k, e, F'', N'', hk, hI'⟩
      exact ⟨k, hk, h', tk', m', news', e, F'', N'', hI'⟩
    cases f with
    | next => exact key h₃
    | cont => exact key h₃
    | brk => exact h₃
    | ret v => exact h₃
  | false => exact h₂

noncomputable def LiIter (o : Obj) (l : Addr) (i : Nat) : Prop := o.cls = .type "list_iterator" ∧ o.data = .fields #[.ref l, .int i 0]
theorem LiIter.at {h : Heap} {it l : Addr} {o : Obj} {i : Nat} (a : LiIter o l i) (ho : h.get? it = some o) : h.IsListIter it l i := ⟨o, ho, a.1, a.2⟩

theorem next_li {L it l : Addr} {h₀ : Heap} {m : Str → Option Value} {news : List (Addr × Obj)} {g : Obj → List (Addr × Obj)} {io : Obj} {vs : Array Value} {nn i : Nat} {x : Value} {Q : Value → Shared → Prop}
    (F : Fr h₀ L s.heap m) (N : News h₀ L s.heap news) (U : UpdF it io news g) (hi : LiIter io l i) (hp : (l, listOf vs nn) ∈ news) (hx : vs[i]? = some x)
    (h : ∀ h' o', Fr h₀ L h' m → News h₀ L h' (g o') → LiIter o' l (i + 1) → Q x { s with heap := h' }) :
    wpAny (model prog w) A (call (.builtin "next") [.ref it]) Q E s := by
  obtain ⟨pre, post, hl, hg, a, b⟩ := U.split
  have hmem : (it, io) ∈ news := by rw [hl]; exact List.mem_append_right _ (.head _)
  have hm := N (it, io) hmem
  have hit := hi.at hm.1
  refine call_function_entry (by decide +kernel) (by decide +kernel) kdk_entry_next (kdk_args_next _) ?_
  unfold Builtin.«next»
  refine wpAny_bind (m := someArgs "next" 1 2 _) (wpAny_of_eq (a := [Value.ref it]) (by first | rfl | kernel_rfl!) ?_)
  dsimp only
  refine wpAny_bind (wpAny_specialOf (name := Str.ofString "__next__") hit.typeIs slot_listiter_next.lookup ?_)
  refine wpAny_ite_split (fun hab => absurd hab (by decide)) (fun _ => ?_)
  have hls : s.heap.IsList l vs := ⟨_, (N _ hp).1, rfl, nn, rfl⟩
  have key : wpAny (model prog w) A.in1 (callSpecial? (.ref it) (Str.ofString "__next__")) (fun r s' => ∃ h' o', r = some x ∧ s' = { s with heap := h' } ∧ Fr h₀ L h' m ∧ News h₀ L h' (g o') ∧ LiIter o' l (i + 1)) E s := by
    obtain ⟨o, ho, hc, hd⟩ := id hit
    obtain ⟨ol, hol, _, nl, hdl⟩ := id hls
    refine wpAny_callSpecial?_slot (name := Str.ofString "__next__") hit.typeIs slot_listiter_next
      (wpAny_call_entry slot_listiter_next hit.typeIs entry_listiter_next ?_ (args_listiter_next _))
    show wpAny _ _ (field (.ref it) 0 >>= _) _ _ s
    refine wpAny_bind (wpAny_field ho hd (x := .ref l) rfl ?_)
    show wpAny _ _ (if (Value.ref l == Value.none) = true then _ else _) _ _ s
    rw [if_neg (show ¬ ((Value.ref l == Value.none) = true) from Bool.false_ne_true)]
    show wpAny _ _ (field (.ref it) 1 >>= _) _ _ s
    refine wpAny_bind (wpAny_field ho hd (x := .int i 0) rfl ?_)
    show wpAny _ _ (seqItems? (.ref l) >>= _) _ _ s
    refine wpAny_bind (wpAny_seqItems hol hdl ?_)
    simp only [Int.toNat_natCast, hx]
    refine wpAny_bind (wpAny_setField ho hd (by simp) (wpAny_pure ⟨x, rfl, ?_⟩))
    have hs := Heap.SameBut.update s.heap it (Obj.mapFields (·.setIfInBounds 1 (rawInt ((i : Int) + 1))))
    have hit' : (s.heap.update it (Obj.mapFields (·.setIfInBounds 1 (rawInt ((i : Int) + 1))))).IsListIter it l (i + 1) :=
      ⟨_, Heap.get?_update_self _ ho (Obj.isFreed_of_fields (Obj.data_mapFields hd _)), (Obj.cls_mapFields ..).trans hc, by rw [Obj.data_mapFields hd]; simp [rawInt]⟩
    obtain ⟨o', ho', hc', hd'⟩ := hit'
    exact ⟨_, o', rfl, rfl, F.change hs hm.2.1 hm.2.2, hg o' ▸ (show News h₀ L s.heap (pre ++ (it, io) :: post) from hl ▸ N).setIn a b hs ho', hc', hd'⟩
  refine wpAny_bind (wpAny_mono key (fun r s' hr => ?_) fun _ _ e => e)
  obtain ⟨h', o', rfl, rfl, F', N', hi'⟩ := hr
  exact wpAny_pure ⟨_, rfl, h h' o' F' N' hi'⟩
end

theorem loc1 {m M : Str → Option Value} {x1 : Str} {v1 : Value} (h1 : m x1 = some v1) (h : ∀ y, y ≠ x1 → m y = M y) : m = fun y => if y = x1 then some v1 else M y := by
  funext y
  by_cases e1 : y = x1
  · subst e1; rw [h1]; simp []
  rw [h y e1]
  simp [e1]

theorem loc2 {m M : Str → Option Value} {x1 x2 : Str} {v1 v2 : Value} (h1 : m x1 = some v1) (h2 : m x2 = some v2) (h : ∀ y, y ≠ x1 → y ≠ x2 → m y = M y) : m = fun y => if y = x1 then some v1 else if y = x2 then some v2 else M y := by
  funext y
  by_cases e1 : y = x1
  · subst e1; rw [h1]; simp []
  by_cases e2 : y = x2
  · subst e2; rw [h2]; simp [e1]
  rw [h y e1 e2]
  simp [e1, e2]

theorem loc3 {m M : Str → Option Value} {x1 x2 x3 : Str} {v1 v2 v3 : Value} (h1 : m x1 = some v1) (h2 : m x2 = some v2) (h3 : m x3 = some v3) (h : ∀ y, y ≠ x1 → y ≠ x2 → y ≠ x3 → m y = M y) : m = fun y => if y = x1 then some v1 else if y = x2 then some v2 else if y = x3 then some v3 else M y := by
  funext y
  by_cases e1 : y = x1
  · subst e1; rw [h1]; simp []
  by_cases e2 : y = x2
  · subst e2; rw [h2]; simp [e1]
  by_cases e3 : y = x3
  · subst e3; rw [h3]; simp [e1, e2]
  rw [h y e1 e2 e3]
  simp [e1, e2, e3]

theorem loc4 {m M : Str → Option Value} {x1 x2 x3 x4 : Str} {v1 v2 v3 v4 : Value} (h1 : m x1 = some v1) (h2 : m x2 = some v2) (h3 : m x3 = some v3) (h4 : m x4 = some v4) (h : ∀ y, y ≠ x1 → y ≠ x2 → y ≠ x3 → y ≠ x4 → m y = M y) : m = fun y => if y = x1 then some v1 else if y = x2 then some v2 else if y = x3 then some v3 else if y = x4 then some v4 else M y := by
  funext y
  by_cases e1 : y = x1
  · subst e1; rw [h1]; simp []
  by_cases e2 : y = x2
  · subst e2; rw [h2]; simp [e1]
  by_cases e3 : y = x3
  · subst e3; rw [h3]; simp [e1, e2]
  by_cases e4 : y = x4
  · subst e4; rw [h4]; simp [e1, e2, e3]
  rw [h y e1 e2 e3 e4]
  simp [e1, e2, e3, e4]

theorem loc7 {m M : Str → Option Value} {x1 x2 x3 x4 x5 x6 x7 : Str} {v1 v2 v3 v4 v5 v6 v7 : Value} (h1 : m x1 = some v1) (h2 : m x2 = some v2) (h3 : m x3 = some v3) (h4 : m x4 = some v4) (h5 : m x5 = some v5) (h6 : m x6 = some v6) (h7 : m x7 = some v7) (h : ∀ y, y ≠ x1 → y ≠ x2 → y ≠ x3 → y ≠ x4 → y ≠ x5 → y ≠ x6 → y ≠ x7 → m y = M y) : m = fun y => if y = x1 then some v1 else if y = x2 then some v2 else if y = x3 then some v3 else if y = x4 then some v4 else if y = x5 then some v5 else if y = x6 then some v6 else if y = x7 then some v7 else M y := by
  funext y
  by_cases e1 : y = x1
  · subst e1; rw [h1]; simp []
  by_cases e2 : y = x2
  · subst e2; rw [h2]; simp [e1]
  by_cases e3 : y = x3
  · subst e3; rw [h3]; simp [e1, e2]
  by_cases e4 : y = x4
  · subst e4; rw [h4]; simp [e1, e2, e3]
  by_cases e5 : y = x5
  · subst e5; rw [h5]; simp [e1, e2, e3, e4]
  by_cases e6 : y = x6
  · subst e6; rw [h6]; simp [e1, e2, e3, e4, e5]
  by_cases e7 : y = x7
  · subst e7; rw [h7]; simp [e1, e2, e3, e4, e5, e6]
  rw [h y e1 e2 e3 e4 e5 e6 e7]
  simp [e1, e2, e3, e4, e5, e6, e7]

theorem allLt_back {d : Addr} : ∀ {l : List (Addr × Obj)}, AllLt d l → ∀ p ∈ l, p.1 < d
  | [], _, _, h => nomatch h
  | _ :: _, h, _, hp => by
    rcases List.mem_cons.mp hp with rfl | hp
    · exact h.1
    · exact allLt_back h.2 _ hp
theorem mine_ne {d : Addr} {l : List (Addr × Obj)} (h : AllLt d l) : ∀ p ∈ l, p.1 ≠ d := fun p hp => Nat.ne_of_lt (allLt_back h p hp)
theorem mine_ne1 {d : Addr} {l : List (Addr × Obj)} (h : ∀ p ∈ l, p.1 < d) : ∀ p ∈ l, p.1 ≠ d := fun p hp => Nat.ne_of_lt (h p hp)
theorem mine_ne2 {d b : Nat} {l : List (Addr × Obj)} (h : ∀ p ∈ l, p.1 < d) (hb : d ≤ b) : ∀ p ∈ l, p.1 ≠ b := fun p hp => Nat.ne_of_lt (Nat.lt_of_lt_of_le (h p hp) hb)
theorem ne_app {d : Addr} {a b : List (Addr × Obj)} (h1 : ∀ p ∈ a, p.1 < d) (h2 : ∀ p ∈ b, p.1 ≠ d) : ∀ p ∈ a ++ b, p.1 ≠ d := fun p hp => (List.mem_append.mp hp).elim (fun h => Nat.ne_of_lt (h1 p h)) (h2 p)

/-! ## numbers in octets -/
noncomputable def vrun : Int → Int → List Int → Option (Int × Nat)
  | b, val, [] => if b / 64 % 2 = 0 then some (val, 0) else none
  | b, val, c :: r => if b / 64 % 2 = 0 then some (val, 0) else (vrun c (val * 64 + c % 64) r).map fun p => (p.1, p.2 + 1)

theorem and64 (b : Int) : Builtin.bitAnd b 64 = (b / 64 % 2) * 64 := kbt_bit b 6
theorem or_low (q c : Int) (hq : 0 ≤ q) (h0 : 0 ≤ c) (h1 : c < 64) : Builtin.bitOr (q * 2 ^ (6 : Int).toNat) c = q * 64 + c := by
  show Builtin.bitOr (q * 64) c = q * 64 + c
  obtain ⟨q, rfl⟩ := Int.eq_ofNat_of_zero_le hq
  obtain ⟨c, rfl⟩ := Int.eq_ofNat_of_zero_le h0
  have hb : ∀ n : Nat, Builtin.bitNot (n : Int) = Int.negSucc n := fun n => by
    show -(n : Int) - 1 = _
    omega
  have hn : ∀ n : Nat, Builtin.bitNot (Int.negSucc n) = (n : Int) := fun n => by
    show -(Int.negSucc n) - 1 = _
    omega
  have e : ((q : Int) * 64) = ((q * 64 : Nat) : Int) := by omega
  rw [e]
  unfold Builtin.bitOr
  rw [hb, hb]
  unfold Builtin.bitAnd
  have d1 : decide (0 ≤ Int.negSucc (q * 64)) = false := rfl
  have d2 : decide (0 ≤ Int.negSucc c) = false := rfl
  rw [d1, d2]
  dsimp only
  rw [hn, hn, hb, hn]
  simp only [Int.toNat_natCast]
  have : (q * 64) ||| c = q * 64 + c := by
    have hc : c < 2 ^ 6 := by omega
    have := Nat.shiftLeft_add_eq_or_of_lt hc q
    rw [Nat.shiftLeft_eq] at this
    exact this.symm
  rw [this]; omega

section
variable {prog : Program} {w : World} {A : Around} {E : Value → Shared → Prop} {s : Shared} {h₀ : Heap} {L D : Addr} {m : Str → Option Value} {news : List (Addr × Obj)} {g : Obj → List (Addr × Obj)} {vs : List Value} {v : Value} {n : Nat} {k : Int} {t u : Tok}
theorem item_N {value slice : PySem.Expr} {Q : Value → Shared → Prop} (N : News h₀ L s.heap news) (hm : (D, W.listOf vs.toArray n) ∈ news) (h0 : 0 ≤ k) (hfit : k < 2 ^ 63) (hx : vs[k.toNat]? = some v) (h : Q v s)
    (hs : subscripted slice false (.ref D) (.int k u) = operate [.ref D, .int k u] (getItem (.ref D) (.int k u)) := by with_unfolding_all rfl) :
    wpAny (model prog w) A (subscriptTail value slice (.ref D) (.int k u)) Q E s := item_litK (PySem.IsL.isList (n := n) (N _ hm).1) h0 hfit hx h hs
theorem set_N {Q : Unit → Shared → Prop} (F : Fr h₀ L s.heap m) (N : News h₀ L s.heap news) (U : UpdF D (W.listOf vs.toArray n) news g) (h0 : 0 ≤ k) (h1 : k < vs.length) (hfit : k < 2 ^ 63)
    (h : ∀ h', Fr h₀ L h' m → News h₀ L h' (g (W.listOf (vs.set k.toNat v).toArray n)) → Q () { s with heap := h' }) :
    wpAny (model prog w) A (setItem (.ref D) (.int k t) v) Q E s := by
  obtain ⟨pre, post, rfl, hg, a, b⟩ := U.split
  have z := N (D, W.listOf vs.toArray n) (List.mem_append.mpr (.inr (.head _)))
  have hs : vs.toArray.size = vs.length := by rw [List.size_toArray]
  have e : News h₀ L (s.heap.update D (Obj.mapSeq (·.setIfInBounds k.toNat v))) (pre ++ (D, W.listOf (vs.set k.toNat v).toArray n) :: post) := by
    refine ki_turn (·.setIfInBounds k.toNat v) N a b ?_ ?_
    · show vs.toArray.setIfInBounds k.toNat v = (vs.set k.toNat v).toArray
      apply Array.toList_inj.mp
      simp
    · simp
  refine ki_setAt z.1 h0 hfit (by omega) (h _ (F.change (Heap.SameBut.update ..) z.2.1 z.2.2) (by rw [hg]; exact e))
end
end
section
open PySem PySem.W PyProof.Rows PySem.Calls PySem.Spec
section
variable {M : Model} {A : Around} {R : GenEnd} {Y : Protocol} {n : Nat} {s₀ : Shared} {c : Code} {fs : List Frame} {s : Shared} {env : Env}
  {K : Flow → Sem Fin} {H : Value → Sem Fin} {gd : Bool → Bool} {lv : List Value → List Value}

theorem seg_bw {α β : Type} {m : Sem α} {K₀ : α → Sem β} {K' : β → Sem Fin} {H' : Value → Sem Fin} {gd lv}
    (h : wpAny M (A.over c fs) m (fun a s' => Seg M A R Y n s₀ c ((K₀ a).wrap K' H' gd lv) fs s') (fun _ _ => False) s) : Seg M A R Y n s₀ c ((m >>= K₀).wrap K' H' gd lv) fs s :=
  seg_bind_wrap (wpAny_mono h (fun _ _ x => x) fun _ _ x => x.elim)
theorem seg_w {α : Type} {m : Sem α} {K' : α → Sem Fin} {H' : Value → Sem Fin} {gd lv}
    (h : wpAny M (A.over c fs) m (fun a s' => Seg M A R Y n s₀ c (K' a) fs s') (fun _ _ => False) s) : Seg M A R Y n s₀ c (m.wrap K' H' gd lv) fs s :=
  seg_wrap (wpAny_mono h (fun _ _ x => x) fun _ _ x => x.elim)

theorem seg_If {test : Expr} {body orelse : List Stmt} {pos : Pos}
    (h : wpAny M (A.over c fs) (isTrue test env (eval test env)) (fun b s' => Seg M A R Y n s₀ c ((execs (if b then body else orelse) env).wrap K H gd lv) fs s') (fun _ _ => False) s) :
    Seg M A R Y n s₀ c ((exec (.If test body orelse pos) env).wrap K H gd lv) fs s := by
  rw [exec_If]
  refine seg_bw (wpAny_standAt (seg_bw (wpAny_mono h (fun b s' hb => ?_) fun _ _ x => x)))
  cases b with
  | true => simpa using hb
  | false => simpa using hb

theorem seg_For {target iter : Expr} {body : List Stmt} {pos : Pos}
    (h : wpAny M (A.over c fs) (eval iter env) (fun x s₁ => wpAny M (A.over c fs) (pyIter x) (fun it s₂ =>
      ∀ p, Seg M A R Y n s₀ (.forLoop target it body [] env) (M.den (.forLoop target it body [] env))
        (.ret (fun r => ((match r with | .ok f => (.pure f : Sem Flow) | .error e => .raise e).onRaise fun (x : Value) => do
          if (← field x 1) == Value.none then unsupported "frame.own-activation:exception-without-traceback"
          setFlight x env.frame).wrap K H gd lv) none (gd false) (lv []) c p [] :: fs) s₂) (fun _ _ => False) s₁) (fun _ _ => False) s)
    (hs : ∀ x, foldedSetIterable iter env x = pure x) :
    Seg M A R Y n s₀ c ((exec (.For target iter body [] pos) env).wrap K H gd lv) fs s := by
  rw [exec_For]
  refine seg_bw (wpAny_standAt (seg_bw (wpAny_mono h (fun x s₁ h₁ => ?_) fun _ _ x => x)))
  refine seg_bw (wpAny_of_eq (hs x) (seg_bw (wpAny_standAt (seg_bw (wpAny_holding (wpAny_mono h₁ (fun it s₂ h₂ => ?_) fun _ _ x => x))))))
  exact seg_call h₂
end
section
variable {prog : Program} {w : World} {A : Around} {R : GenEnd} {Y : Protocol} {n : Nat} {s₀ : Shared} {fs : List Frame} {s : Shared} {env : Env}

theorem seg_forTurn {target : Expr} {it : Value} {body : List Stmt}
    (h : wpAny (model prog w) (A.over (.forLoop target it body [] env) fs) (pyNext it) (fun r s₁ => match r with
      | none => Seg (model prog w) A R Y n s₀ (.forLoop target it body [] env) (.pure (.again (.block [] env))) fs s₁
      | some v => wpAny (model prog w) (A.over (.forLoop target it body [] env) fs) (letOwnedTupleGo target it v) (fun _ s₂ => wpAny (model prog w) (A.over (.forLoop target it body [] env) fs) (assign target env v) (fun _ s₃ =>
          Seg (model prog w) A R Y n s₀ (.forLoop target it body [] env) ((execs body env).wrap (fun f => match f with
            | .next | .cont => .pure (.again (.forLoop target it body [] env))
            | .brk => .pure (.done .next)
            | .ret v => .pure (.done (.ret v))) (fun e => (do noteFrame e env; theTreesLotGoes e : Sem Unit).wrap (fun _ => .raise e) .raise id id) id id) fs s₃) (fun _ _ => False) s₂) (fun _ _ => False) s₁) (fun _ _ => False) s) :
    Seg (model prog w) A R Y n s₀ (.forLoop target it body [] env) ((model prog w).den (.forLoop target it body [] env)) fs s := by
  show Seg _ A R Y n s₀ _ ((forTurn target it body [] env).onRaise (fun x => do noteFrame x env; theTreesLotGoes x)) fs s
  unfold forTurn
  rw [Sem.onRaise_eq_wrap]
  refine seg_bw (wpAny_standAt (seg_bw (wpAny_onRaise (wpAny_mono h (fun r s₁ h₁ => ?_) fun _ _ x => x.elim))))
  cases r with
  | none => exact h₁
  | some v =>
    refine seg_bw (wpAny_mono h₁ (fun _ s₂ h₂ => seg_bw (wpAny_mono h₂ (fun _ s₃ h₃ => ?_) fun _ _ x => x)) fun _ _ x => x)
    rw [Sem.bind_eq_wrap', Sem.wrap_wrap]
    rw [Sem.wrap_congr (execs body env) _ _ (K' := fun f => match f with
            | .next | .cont => .pure (.again (.forLoop target it body [] env))
            | .brk => .pure (.done .next)
            | .ret v => .pure (.done (.ret v))) (H' := (fun e => (do noteFrame e env; theTreesLotGoes e : Sem Unit).wrap (fun _ => .raise e) .raise id id))
        (fun f => by cases f <;> rfl)
        (fun e => by first | exact Sem.bind_eq_wrap _ _ | (show (do noteFrame e env; theTreesLotGoes e : Sem Unit).bind (fun _ => .raise e) = _; rw [Sem.bind_eq_wrap]))]
    exact h₃
theorem seg_blockEnd {c : Code} {k h g l c₁ p₁ kp} (hk : Seg (model prog w) A R Y n s₀ c₁ (k (.ok .next)) fs s) :
    Seg (model prog w) A R Y n s₀ c (.pure (.again (.block [] env))) (.ret k h g l c₁ p₁ kp :: fs) s := by
  refine seg_again rfl ?_
  exact seg_leaf (.ok .next) hk
end
end
section
open PySem PySem.W PyProof.Rows PySem.Calls PySem.Spec
/-! ## what the generator of escaped signs yields -/
noncomputable def escs : Nat → Bool → List Nat → List (Nat × List Nat)
  | _, _, [] => []
  | i, true, c :: r => (i, [92, c]) :: escs (i + 1) false r
  | i, false, c :: r => if c = 92 then escs (i + 1) true r else (i, [c]) :: escs (i + 1) false r
noncomputable def escEnd : Bool → List Nat → Bool
  | e, [] => e
  | true, _ :: r => escEnd false r
  | false, c :: r => escEnd (c == 92) r

noncomputable def Since (B0 : Nat) (C : Addr) (s₀ s : Shared) : Prop :=
  ∃ h' tk, s = { s₀ with heap := h', toks := tk } ∧ ∀ b o, b < B0 → b ≠ C → s₀.heap.get? b = some o → h'.get? b = some o
theorem Since.refl {B0 : Nat} {C : Addr} (s : Shared) : Since B0 C s s := ⟨s.heap, s.toks, rfl, fun _ _ _ _ e => e⟩
theorem Since.step {B0 : Nat} {C : Addr} {s₀ s : Shared} (x : Since B0 C s₀ s) {h' : Heap} {tk : Nat} (hk : ∀ b o, b < B0 → b ≠ C → s.heap.get? b = some o → h'.get? b = some o) :
    Since B0 C s₀ { s with heap := h', toks := tk } := by
  obtain ⟨h₁, tk₁, rfl, hk₁⟩ := x
  exact ⟨h', tk, rfl, fun b o hB hC e => hk b o hB hC (hk₁ b o hB hC e)⟩

noncomputable def genR (B0 : Nat) (C : Addr) : GenEnd := fun n s₀ r s₁ => r = .ok (.ret .none) ∧ n = 0 ∧ Since B0 C s₀ s₁
/-- a yield: a pair (place, signs), told by its number from behind; what must stand at the waking -/
noncomputable def genY (all : List (Nat × List Nat)) (B0 : Nat) (C : Addr) : Protocol := fun n s₀ v s kap =>
  (∃ T tp tc p c e si oC oE oS, all[all.length - 1 - n]? = some (p, c) ∧ v = .ref T ∧ s.heap.get? T = some { cls := .type "tuple", data := .seq #[.int (p : Nat) tp, .str ⟨c.toArray⟩ tc] } ∧ B0 ≤ T ∧
    B0 ≤ e ∧ B0 ≤ si ∧ T ≠ e ∧ T ≠ si ∧ e ≠ si ∧ s.heap.get? C = some oC ∧ s.heap.get? e = some oE ∧ s.heap.get? si = some oS ∧ Since B0 C s₀ s ∧
    ∀ s'' : Shared, s''.heap.get? C = some oC → s''.heap.get? e = some oE → s''.heap.get? si = some oS → kap (.send .none) s'')

section
variable {prog : Program} {w : World} {A : Around} {E : Value → Shared → Prop} {s : Shared} {env : Env}

theorem eval_pair {e1 e2 : Expr} {k : Nat} {pos : Pos} {v1 : Value} {Q : Value → Shared → Prop} {M : Model}
    (h1 : ∀ Q' : Value → Shared → Prop, Q' v1 s → wpAny M A (eval e1 env) Q' (fun _ _ => False) s)
    (h2 : wpAny M A (eval e2 env) (fun v2 s' => Q (.ref s'.heap.objs.size) { s' with heap := s'.heap.push { cls := .type "tuple", data := .seq #[v1, v2] } }) (fun _ _ => False) s)
    (hs : starEach [e1, e2] env = [(false, eval e1 env), (false, eval e2 env)]) :
    wpAny M A (eval (.Tuple [e1, e2] k pos) env) Q (fun _ _ => False) s := by
  refine Tuple_ ?_
  rw [hs]
  refine Calls.spliced_cons ?_
  rw [if_neg Bool.false_ne_true]
  refine h1 _ (Calls.spliced_cons ?_)
  rw [if_neg Bool.false_ne_true]
  exact wpAny_mono h2 (fun v2 s' h => Calls.spliced_nil (wpAny_newTuple h)) fun _ _ x => x

theorem seg_genLoop {kfor : Result → Sem Fin} {hd : Option Value} {gdd : Bool} {lvv kp : List Value} {cf : Code} {pf : Pos}
    {p1 p2 p3 q1 q2 q3 q4 q5 q6 q7 q8 q9 q10 q11 q12 q13 q14 q15 q16 q17 q18 q19 q20 q21 q22 q23 q24 : Pos} {k1 k2 k3 k4 k5 k6 : Nat} {x : Str} {t : Tok} {all : List (Nat × List Nat)} {B0 e si : Nat}
    (hh : A.handled = none) (hkf : env.scope.kind = .function) (hlp : env.kindOf "pos" = some .local) (hlc : env.kindOf "ch" = some .local) (hle : env.kindOf "escape" = some .local)
    (hp : (env.scope.kind == .class || (env.scope.kind == .module && env.locals != env.globals)) = false) (hco : env.scope.isCoroutine = false) (hint : interactive env = false)
    (hCB : env.locals < B0) (heB : B0 ≤ e) (hsB : B0 ≤ si) (hes : e ≠ si) (hhd : hd = none) (hgd : gdd = false)
    (hend : ∀ s₀ s m, s.heap.Ns env.locals m → m "escape" = some (.bool false) → Since B0 env.locals s₀ s →
      Seg (model prog w) A (genR B0 env.locals) (genY all B0 env.locals) 0 s₀ cf (kfor (.ok .next)) [] s) :
    ∀ (r : List Nat) (i : Nat) (esc : Bool) (s₀ s : Shared) (m : Str → Option Value) (old : Value), x.cps.toList.drop i = r → i ≤ x.cps.size → s.heap.Ns env.locals m → m "escape" = some (.bool esc) →
      IsEnum s.heap e si (i : Nat) old → s.heap.IsStrIter si "str_ascii_iterator" x t i → Since B0 env.locals s₀ s → escEnd esc r = false → (∃ pre, all = pre ++ escs i esc r) →
      Seg (model prog w) A (genR B0 env.locals) (genY all B0 env.locals) (escs i esc r).length s₀
        (.forLoop (.Tuple [.Name "pos" p1, .Name "ch" p2] k1 p3) (.ref e)
          [.If (.Name "escape" q1) [.Expr (.Yield (some (.Tuple [.Name "pos" q2, .BinOp (.Constant (.str "\\") k2 q3) .Add (.Name "ch" q4) q5] k3 q6)) q7) q8, .Assign [.Name "escape" q9] (.Constant (.bool false) k4 q10) q11]
            [.If (.Compare (.Name "ch" q12) [.Eq] [.Constant (.str "\\") k5 q13] q14) [.Assign [.Name "escape" q15] (.Constant (.bool true) k6 q16) q17]
              [.Expr (.Yield (some (.Tuple [.Name "pos" q18, .Name "ch" q19] k4 q20)) q21) q22] q24] q23] [] env)
        ((model prog w).den (.forLoop (.Tuple [.Name "pos" p1, .Name "ch" p2] k1 p3) (.ref e)
          [.If (.Name "escape" q1) [.Expr (.Yield (some (.Tuple [.Name "pos" q2, .BinOp (.Constant (.str "\\") k2 q3) .Add (.Name "ch" q4) q5] k3 q6)) q7) q8, .Assign [.Name "escape" q9] (.Constant (.bool false) k4 q10) q11]
            [.If (.Compare (.Name "ch" q12) [.Eq] [.Constant (.str "\\") k5 q13] q14) [.Assign [.Name "escape" q15] (.Constant (.bool true) k6 q16) q17]
              [.Expr (.Yield (some (.Tuple [.Name "pos" q18, .Name "ch" q19] k4 q20)) q21) q22] q24] q23] [] env)) (.ret kfor hd gdd lvv cf pf kp :: []) s := by
  subst hhd hgd
  generalize hbody : ([.If (.Name "escape" q1) [.Expr (.Yield (some (.Tuple [.Name "pos" q2, .BinOp (.Constant (.str "\\") k2 q3) .Add (.Name "ch" q4) q5] k3 q6)) q7) q8, .Assign [.Name "escape" q9] (.Constant (.bool false) k4 q10) q11]
            [.If (.Compare (.Name "ch" q12) [.Eq] [.Constant (.str "\\") k5 q13] q14) [.Assign [.Name "escape" q15] (.Constant (.bool true) k6 q16) q17]
              [.Expr (.Yield (some (.Tuple [.Name "pos" q18, .Name "ch" q19] k4 q20)) q21) q22] q24] q23] : List Stmt) = body
  intro r
  induction r with
  | nil =>
    intro i esc s₀ s m old hd hi hn hm he hit hsince hend' _
    have hin : i = x.cps.size := by
      have := List.drop_eq_nil_iff.mp hd
      simp at this; omega
    subst hin
    have D := Draws.strAscii (prog := prog) (w := w) (A := (A.over (.forLoop (.Tuple [.Name "pos" p1, .Name "ch" p2] k1 p3) (.ref e) body [] env) [.ret kfor none false lvv cf pf kp]).in1) hh si x t
    have hCs : env.locals ≠ si := Nat.ne_of_lt (Nat.lt_of_lt_of_le hCB hsB)
    refine seg_forTurn (wpAny_pyNext_enum_endD D he hit fun h' hx => ?_)
    refine seg_blockEnd (hend s₀ _ m (hn.extBut hx hCs) ?_ (hsince.step (tk := s.toks) fun b o hB hC e' => hx b o (Nat.ne_of_lt (Nat.lt_of_lt_of_le hB hsB)) e'))
    cases esc
    · exact hm
    · simp [escEnd] at hend'
  | cons c r ih =>
    intro i esc s₀ s m old hd hi hn hm he hit hsince hend' hall
    have hlt : i < x.cps.size := by
      rcases Nat.lt_or_ge i x.cps.size with h | h
      · exact h
      · rw [List.drop_eq_nil_of_le (by simpa using h)] at hd; cases hd
    have hc : x.cps[i]? = some c := by
      have h1 : (x.cps.toList.drop i)[0]? = some c := by rw [hd]; rfl
      rw [List.getElem?_drop] at h1
      simpa using h1
    have hd' : x.cps.toList.drop (i + 1) = r := by
      have : x.cps.toList.drop (i + 1) = (x.cps.toList.drop i).drop 1 := by rw [List.drop_drop]
      rw [this, hd]; rfl
    have hCe : env.locals ≠ e := Nat.ne_of_lt (Nat.lt_of_lt_of_le hCB heB)
    have hCs : env.locals ≠ si := Nat.ne_of_lt (Nat.lt_of_lt_of_le hCB hsB)
    have D := Draws.strAscii (prog := prog) (w := w) (A := (A.over (.forLoop (.Tuple [.Name "pos" p1, .Name "ch" p2] k1 p3) (.ref e) body [] env) [.ret kfor none false lvv cf pf kp]).in1) hh si x t
    refine seg_forTurn (wpAny_pyNext_enum_itemD D he hit hlt hes (by simpa using hes) fun v h₁ tk₁ hP heo hit₁ ht₁ hz₁ hk₁ => ?_)
    obtain ⟨c', u, hc', rfl⟩ := hP
    rw [hc] at hc'; cases hc'
    have heH : e < s.heap.objs.size := Heap.lt_size he
    have hsH : si < s.heap.objs.size := by obtain ⟨o, ho, _⟩ := hit; exact Heap.lt_size ho
    have hCH : env.locals < s.heap.objs.size := hn.lt
    refine wpAny_letOwnedTupleGo_enum heo fun h₂ he₂ hs₂ => ?_
    replace hs₂ : Heap.SameBut e h₁ h₂ := hs₂
    have ht₂ : h₂.IsTuple s.heap.objs.size #[.int i tk₁, .str ⟨#[c]⟩ u] := ⟨_, (hs₂.2 _ (Nat.ne_of_gt heH)).trans ht₁, rfl, _, rfl⟩
    have hz₂ : h₂.objs.size = s.heap.objs.size + 1 := hs₂.1.trans hz₁
    refine wpAny_assign_Tuple hh ht₂ rfl rfl fun h₃ hx₃ => ?_
    replace hx₃ : Heap.ExtBut h₂.objs.size h₂ h₃ := hx₃
    have old₃ : ∀ b o, b < s.heap.objs.size → h₂.get? b = some o → h₃.get? b = some o := fun b o hb x => hx₃ b o (by rw [hz₂]; exact Nat.ne_of_lt (Nat.lt_succ_of_lt hb)) x
    have hn₃ : h₃.Ns env.locals m := (hn.at fun o x => hk₁ _ o hCe hCs x).sameBut hs₂ hCe |>.at fun o x => old₃ _ o hCH x
    show wpAny _ _ (do holding [_] (assign (.Name "pos" p1) env (.int i tk₁)); do holding [] (assign (.Name "ch" p2) env (.str ⟨#[c]⟩ u)); pure ()) _ _ _
    refine wpAny_bind (wpAny_holding (wpAny_assign_Name (wpAny_storeName_local hlp hn₃ (fun h₄ hn₄ hs₄ => ?_) hp)))
    replace hs₄ : Heap.SameBut env.locals h₃ h₄ := hs₄
    refine wpAny_bind (wpAny_holding (wpAny_assign_Name (wpAny_storeName_local hlc hn₄ (fun h₅ hn₅ hs₅ => wpAny_pure ?_) hp)))
    replace hs₅ : Heap.SameBut env.locals h₄ h₅ := hs₅
    have up : ∀ b o, b ≠ env.locals → b < s.heap.objs.size → h₂.get? b = some o → h₅.get? b = some o := fun b o hbL hb x => hs₅.extBut b o hbL (hs₄.extBut b o hbL (old₃ b o hb x))
    have he₅ : IsEnum h₅ e si ((i + 1 : Nat) : Int) (.str ⟨#[c]⟩ u) := by
      have e1 : ((i + 1 : Nat) : Int) = (i : Int) + 1 := by push_cast; rfl
      rw [e1]; exact up e _ (Ne.symm hCe) heH he₂
    have hit₅ : h₅.IsStrIter si "str_ascii_iterator" x t (i + 1) := by
      obtain ⟨o, ho, r⟩ := hit₁.extBut hs₂.extBut (Ne.symm hes)
      exact ⟨o, up si o (Ne.symm hCs) hsH ho, r⟩
    have hk₅ : ∀ b o, b < B0 → b ≠ env.locals → s.heap.get? b = some o → h₅.get? b = some o := fun b o hB hC e' =>
      up b o hC (Heap.lt_size e') (hs₂.extBut b o (Nat.ne_of_lt (Nat.lt_of_lt_of_le hB heB)) (hk₁ b o (Nat.ne_of_lt (Nat.lt_of_lt_of_le hB heB)) (Nat.ne_of_lt (Nat.lt_of_lt_of_le hB hsB)) e'))
    clear hs₅ hs₄ hn₄ hn₃ old₃ hx₃ ht₂ hs₂ he₂ hk₁ ht₁ heo hit₁
    have hbig : B0 ≤ h₅.objs.size := by
      obtain ⟨o, ho, _⟩ := hit₅
      exact Nat.le_of_lt (Nat.lt_of_le_of_lt hsB (Heap.lt_size ho))
    rw [← hbody]
    refine seg_execs_cons (seg_If ?_)
    rw [hbody]
    have hm1 : ∀ (y : Str) (v : Value), y ≠ Str.ofString "ch" → y ≠ Str.ofString "pos" → m y = some v → (fun y => if y = Str.ofString "ch" then some (Value.str ⟨#[c]⟩ u) else if y = Str.ofString "pos" then some (Value.int i tk₁) else m y) y = some v := fun y v h1 h2 h3 => by
      show (if y = Str.ofString "ch" then _ else _) = _
      rw [if_neg h1, if_neg h2]; exact h3
    refine isTrue_plain (wpAny_Name (wpAny_loadName_local hkf hle hn₅ (hm1 _ _ (by decide) (by decide) hm) (wpAny_truthy_bool ?_)))
    obtain ⟨pre, hall⟩ := hall
    have hpos : ∀ (A' : Around) (p : Pos) (tk : Nat) (Q' : Value → Shared → Prop), Q' (.int i tk₁) { s with heap := h₅, toks := tk } → wpAny (model prog w) A' (eval (.Name "pos" p) env) Q' (fun _ _ => False) { s with heap := h₅, toks := tk } :=
      fun A' p tk Q' h => wpAny_Name (wpAny_loadName_local hkf hlp hn₅ (by show (if ("pos" : Str) = "ch" then _ else _) = _; rw [if_neg (by decide), if_pos rfl]) h)
    have hch : ∀ (A' : Around) (p : Pos) (tk : Nat) (Q' : Value → Shared → Prop), Q' (.str ⟨#[c]⟩ u) { s with heap := h₅, toks := tk } → wpAny (model prog w) A' (eval (.Name "ch" p) env) Q' (fun _ _ => False) { s with heap := h₅, toks := tk } :=
      fun A' p tk Q' h => wpAny_Name (wpAny_loadName_local hkf hlc hn₅ (by show (if ("ch" : Str) = "ch" then _ else _) = _; rw [if_pos rfl]) h)
    -- what is yielded: a new pair; the turn goes on from its state
    have yielded : ∀ (v2 : List Nat) (tk tc : Nat) (n : Nat), all[all.length - 1 - n]? = some (i, v2) → ∀ (kap : Resume → Shared → Prop),
        (∀ s'' : Shared, (∀ b, b = env.locals ∨ b = e ∨ b = si → ∀ o, h₅.get? b = some o → s''.heap.get? b = some o) → kap (.send .none) s'') →
        genY all B0 env.locals n s₀ (.ref h₅.objs.size) { s with heap := h₅.push { cls := .type "tuple", data := .seq #[.int i tk₁, .str ⟨v2.toArray⟩ tc] }, toks := tk } kap := by
      intro v2 tk tc n hall' kap hkap
      obtain ⟨oC, _, _, hoC, _⟩ := id hn₅
      obtain ⟨oS, hoS, _⟩ := id hit₅
      refine ⟨h₅.objs.size, tk₁, tc, i, v2, e, si, oC, _, oS, hall', rfl, Heap.get?_push_size _ rfl, hbig, heB, hsB, Nat.ne_of_gt (Heap.lt_size he₅), Nat.ne_of_gt (Heap.lt_size hoS), hes,
        Heap.get?_push_of_some _ hoC, Heap.get?_push_of_some _ he₅, Heap.get?_push_of_some _ hoS, hsince.step fun b o hB hC e' => Heap.get?_push_of_some _ (hk₅ b o hB hC e'), fun s'' h1 h2 h3 => hkap s'' fun b hb o ho => ?_⟩
      rcases hb with rfl | rfl | rfl
      · rw [hoC] at ho; cases ho; exact h1
      · rw [he₅] at ho; cases ho; exact h2
      · rw [hoS] at ho; cases ho; exact h3
    have again : ∀ (s'' : Shared) (m' : Str → Option Value) (s₁ : Shared), (∀ b, b = e ∨ b = si → ∀ o, h₅.get? b = some o → s''.heap.get? b = some o) → s''.heap.Ns env.locals m' → m' "escape" = some (.bool false) → Since B0 env.locals s₁ s'' → escEnd false r = false → (∃ pre, all = pre ++ escs (i + 1) false r) →
        Seg (model prog w) A (genR B0 env.locals) (genY all B0 env.locals) (escs (i + 1) false r).length s₁ (.forLoop (.Tuple [.Name "pos" p1, .Name "ch" p2] k1 p3) (.ref e) body [] env)
          (.pure (.again (.forLoop (.Tuple [.Name "pos" p1, .Name "ch" p2] k1 p3) (.ref e) body [] env))) [.ret kfor none false lvv cf pf kp] s'' :=
      fun s'' m' s₁ hal hn' hm' hs' he' ha' => seg_again rfl (ih (i + 1) false s₁ s'' m' _ hd' hlt hn' hm' (hal e (.inl rfl) _ he₅) (let ⟨o, ho, r⟩ := hit₅; ⟨o, hal si (.inr rfl) o ho, r⟩) hs' he' ha')
    have hidx : ∀ (v2 : List Nat) (l : List (Nat × List Nat)), all = pre ++ (i, v2) :: l → all[all.length - 1 - l.length]? = some (i, v2) := fun v2 l e' => by
      rw [e', List.length_append, List.length_cons]
      have : pre.length + (l.length + 1) - 1 - l.length = pre.length := by omega
      rw [this, List.getElem?_append_right (Nat.le_refl _), Nat.sub_self]; rfl
    cases esc with
    | true =>
      simp only [escs] at hall
      simp only [if_true, escs, List.length_cons]
      refine seg_execs_cons (seg_Expr_Yield rfl rfl rfl ?_ hco hint)
      refine wpAny_mono (eval_pair (v1 := .int i tk₁) (hpos _ _ _) (wpAny_BinOp (wpAny_Constant_str (hch _ _ _ _ (add_str (fun t' tk => ?_) ?_)))) rfl) (fun _ _ x => x) fun _ _ x => x.elim
      · intro kap hkap
        refine yielded [92, c] tk t' _ (hidx _ _ hall) kap fun s'' hal => hkap .none s'' ?_
        obtain ⟨oC, _, _, hoC, _⟩ := id hn₅
        refine seg_execs_cons (seg_w (wpAny_Assign_Name (wpAny_Constant_bool (wpAny_storeName_local hle (hn₅.at fun o ho => hal _ (.inl rfl) o ho) (fun h₆ hn₆ hs₆ => ?_) hp)) rfl))
        refine seg_execs_nil ?_
        replace hs₆ : Heap.SameBut env.locals s''.heap h₆ := hs₆
        refine again _ _ _ (fun b hb o ho => hs₆.extBut b o ?_ (hal b (.inr hb) o ho)) hn₆ (by show (if Str.ofString "escape" = Str.ofString "escape" then _ else _) = _; rw [if_pos rfl]) ((Since.refl s'').step fun b o _ hC e' => hs₆.extBut b o hC e') (by simpa [escEnd] using hend') ⟨pre ++ [(i, [92, c])], by rw [hall]; simp⟩
        rcases hb with rfl | rfl
        · exact Ne.symm hCe
        · exact Ne.symm hCs
      · show 1 + 1 ≤ sizeLine
        rw [sizeLine_eq]; decide
    | false => 
      simp only [Bool.false_eq_true, if_false]
      refine seg_execs_cons (seg_If ?_)
      refine wpAny_isTrue_Compare1 (hch _ _ _ _ (wpAny_Constant_str (eq_str (wpAny_truthy_bool ?_)))) rfl
      have hbs : ((⟨#[c]⟩ : Str) == Str.ofString "\\") = decide (c = 92) := by
        have e1 : Str.ofString "\\" = ⟨#[92]⟩ := by decide +kernel
        rw [e1]
        by_cases h : c = 92
        · subst h; simp
        · simp [h]
      rw [hbs]
      by_cases h92 : c = 92
      · rw [decide_eq_true h92]
        simp only [escs, if_pos h92] at hall ⊢
        refine seg_execs_cons (seg_w (wpAny_Assign_Name (wpAny_Constant_bool (wpAny_storeName_local hle hn₅ (fun h₆ hn₆ hs₆ => ?_) hp)) rfl))
        replace hs₆ : Heap.SameBut env.locals h₅ h₆ := hs₆
        refine seg_execs_nil (seg_execs_nil (seg_again rfl (ih (i + 1) true s₀ _ _ _ hd' hlt hn₆ (by show (if Str.ofString "escape" = Str.ofString "escape" then _ else _) = _; rw [if_pos rfl]) (hs₆.extBut e _ (Ne.symm hCe) he₅) ?_ (hsince.step fun b o hB hC e' => hs₆.extBut b o hC (hk₅ b o hB hC e')) (by simpa [escEnd, h92] using hend') ⟨pre, hall⟩)))
        obtain ⟨o, ho, r⟩ := hit₅
        exact ⟨o, hs₆.extBut si o (Ne.symm hCs) ho, r⟩
      · rw [decide_eq_false h92]
        simp only [escs, if_neg h92] at hall ⊢
        simp only [Bool.false_eq_true, if_false, List.length_cons]
        refine seg_execs_cons (seg_Expr_Yield rfl rfl rfl ?_ hco hint)
        refine wpAny_mono (eval_pair (v1 := .int i tk₁) (hpos _ _ _) (hch _ _ _ _ ?_) rfl) (fun _ _ x => x) fun _ _ x => x.elim
        intro kap hkap
        refine yielded [c] _ u _ (hidx _ _ hall) kap fun s'' hal => hkap .none s'' ?_
        refine seg_execs_nil (seg_execs_nil (again _ _ _ (fun b hb o ho => hal b (.inr hb) o ho) (hn₅.at fun o ho => hal _ (.inl rfl) o ho) (hm1 _ _ (by decide) (by decide) hm) (Since.refl s'') ?_ ⟨pre ++ [(i, [c])], by rw [hall]; simp⟩))
        simp only [escEnd] at hend'
        rwa [show (c == 92) = false from by simpa using h92] at hend'
end
end
section
open PySem PySem.W PyProof.Rows PySem.Calls PySem.Spec
section
variable {prog : Program} {w : World} {A : Around} {E : Value → Shared → Prop} {s : Shared}

theorem wpAny_pyNext_genQ {a : Addr} {g n : Nat} {gs : GenState} {P : Nat → Shared → Shared → Prop} {Y : Protocol} {Q : Option Value → Shared → Prop} (hh : A.handled = none)
    (hl : s.heap.NoLimit) (hroom : A.depth < recursionLimit)
    (hg : s.heap.IsGen a g) (hgs : s.gens[g]? = some gs)
    (hgo : gs.Goes (model prog w) A.in1 (fun n s₀ r s₁ => r = .ok (.ret .none) ∧ P n s₀ s₁) Y n (.send .none) (s.setGen g .running))
    (hY : ∀ v s₁ gs', gs'.bare = true → Y (n - 1) (s.setGen g .running) v s₁ (fun r' s'' => match n with
        | 0 => False
        | m + 1 => gs'.Goes (model prog w) A.in1 (fun n s₀ r s₁ => r = .ok (.ret .none) ∧ P n s₀ s₁) Y m r' s'') → Q (some v) (s₁.setGen g gs'))
    (hP : ∀ s₁, P n (s.setGen g .running) s₁ → ∀ h', (∀ b o, s₁.heap.get? b = some o → h'.get? b = some o) → Q none { s₁.setGen g .finished with heap := h' }) :
    wpAny (model prog w) A (pyNext (.ref a)) Q E s := by
  unfold pyNext
  refine wpAny_bind (wpAny_attempt (wpAny_callSpecial?_slot (name := Str.ofString "__next__") hg.typeIs slot_gen_next
    (wpAny_call_entry slot_gen_next hg.typeIs entry_gen_next ?_ (args_gen_next _))))
  show wpAny _ A.in1 (Builtin.Generator.genWake (.ref a) (.send .none)) _ _ s
  unfold Builtin.Generator.genWake
  refine wpAny_bind (wpAny_holding (wpAny_genNumber hg (wpAny_bind (wpAny_genState hgs ?_))))
  cases gs with
  | running => exact hgo.elim
  | finished => exact hgo.elim
  | _ =>
    refine wpAny_bind (wpAny_roomToWake hl hroom ?_)
    show wpAny _ A.in1 (.resume g (.send .none) [] _) _ _ s
    refine wpAny_resumeQ hgs hgo (fun x s₁ hx => ?_) (fun v s₁ gs' hb hv => ?_)
    · obtain ⟨rfl, hp⟩ := hx
      show wpAny _ A.in1 (newExc (.type "StopIteration") [] >>= _) _ _ _
      refine wpAny_bind ?_
      simp only [newExc, newTuple]
      refine wpAny_bind (wpAny_newObj_type ?_ (by size_fits))
      refine wpAny_bind (m := firstArgMember _ _) (wpAny_of_eq (a := Value.none) (by first | rfl | (simp only [firstArgMember]; rfl)) ?_)
      refine wpAny_newObj_type ?_ (by size_fits)
      simp only [raiseNew]
      refine wpAny_bind (wpAny_bind (wpAny_handled ?_))
      first | rw [show A.in1.handled = none from hh] | rw [hh]
      refine wpAny_throw ?_
      refine wpAny_bind (wpAny_isInstance (T := "StopIteration") (b := true) ⟨_, Heap.get?_push_size _ rfl, rfl⟩ isSubtype_stop ?_)
      exact wpAny_pure (hP s₁ hp _ fun b o hb => Heap.get?_push_of_some _ (Heap.get?_push_of_some _ hb))
    · exact wpAny_pure ⟨v, rfl, wpAny_pure (hY v s₁ gs' hb hv)⟩

/-- the generator sleeps ready: k pairs are out -/
noncomputable def GReady (prog : Program) (w : World) (A : Around) (h₀ : Heap) (B0 : Nat) (C : Addr) (all : List (Nat × List Nat)) (k : Nat) (gs : GenState) (ws : List (Addr × Obj)) : Prop :=
  ∀ (s'' : Shared), (∀ b o, h₀.get? b = some o → s''.heap.get? b = some o) → (∀ q ∈ ws, s''.heap.get? q.1 = some q.2) → B0 ≤ s''.heap.objs.size →
    gs.Goes (model prog w) A (genR B0 C) (genY all B0 C) (all.length - k) (.send .none) s''

theorem bare_set {gs : Array GenState} {g : Nat} {x : GenState} (hb : AllBare gs) (hx : x.bare = true) : AllBare (gs.setIfInBounds g x) := by
  intro y hy
  rcases Array.mem_or_eq_of_mem_setIfInBounds hy with h | h
  · exact hb y h
  · exact h ▸ hx

theorem gen_next {h₀ : Heap} {G : Addr} {g B0 k : Nat} {C : Addr} {all : List (Nat × List Nat)} {gs : GenState} {ws : List (Addr × Obj)} {Q : Option Value → Shared → Prop} (hh : A.handled = none) (hl : s.heap.NoLimit) (hroom : A.depth < recursionLimit)
    (hg : s.heap.IsGen G g) (hgs : s.gens[g]? = some gs) (hr : GReady prog w A.in1 h₀ B0 C all k gs ws) (hk : k ≤ all.length)
    (h0 : ∀ b o, h₀.get? b = some o → s.heap.get? b = some o) (hws : ∀ q ∈ ws, s.heap.get? q.1 = some q.2) (hB : B0 ≤ s.heap.objs.size)
    (hitem : ∀ p c T tp tc e si oC oE oS gs' h' tk' gg, all[k]? = some (p, c) → h'.get? T = some { cls := .type "tuple", data := .seq #[.int (p : Nat) tp, .str ⟨c.toArray⟩ tc] } → B0 ≤ T → B0 ≤ e → B0 ≤ si → T ≠ e → T ≠ si → e ≠ si →
      h'.get? C = some oC → h'.get? e = some oE → h'.get? si = some oS → (∀ b o, b < B0 → b ≠ C → s.heap.get? b = some o → h'.get? b = some o) → gg[g]? = some gs' → (AllBare s.gens → AllBare gg) →
      GReady prog w A.in1 h₀ B0 C all (k + 1) gs' [(C, oC), (e, oE), (si, oS)] → Q (some (.ref T)) { s with heap := h', toks := tk', gens := gg })
    (hend : ∀ h' tk' gg, k = all.length → (∀ b o, b < B0 → b ≠ C → s.heap.get? b = some o → h'.get? b = some o) → (AllBare s.gens → AllBare gg) → Q none { s with heap := h', toks := tk', gens := gg }) :
    wpAny (model prog w) A (pyNext (.ref G)) Q E s := by
  have hgo := hr (s.setGen g .running) h0 hws hB
  have hset : ∀ x : GenState, ((s.setGen g .running).gens.setIfInBounds g x)[g]? = some x := fun x => setGen_self (s := s.setGen g .running) (gs := .running) (setGen_self hgs)
  refine wpAny_pyNext_genQ (P := fun n s₀ s₁ => n = 0 ∧ Since B0 C s₀ s₁) hh hl hroom hg hgs hgo (fun v s₁ gs' hb hv => ?_) (fun s₁ hp h' hk' => ?_)
  · obtain ⟨T, tp, tc, p, c, e, si, oC, oE, oS, hidx, rfl, hT, hBT, hBe, hBs, hTe, hTs, hes, hC, hE, hS, ⟨h', tk', rfl, hk'⟩, hkap⟩ := hv
    have hlt : k < all.length := by
      rcases Nat.lt_or_ge k all.length with h | h
      · exact h
      · have e0 : all.length - k = 0 := by omega
        rw [e0] at hkap
        exact (hkap { s with heap := h' } hC hE hS).elim
    have hidx' : all[k]? = some (p, c) := by rw [← hidx]; congr 1; omega
    refine hitem p c T tp tc e si oC oE oS gs' h' tk' _ hidx' hT hBT hBe hBs hTe hTs hes hC hE hS hk' (hset gs') (fun hb' => bare_set (bare_set hb' rfl) hb) ?_
    intro s'' _ hws'' _
    have e1 : all.length - (k + 1) + 1 = all.length - k := by omega
    have := hkap s'' (hws'' _ (.head _)) (hws'' _ (.tail _ (.head _))) (hws'' _ (.tail _ (.tail _ (.head _))))
    rw [← e1] at this
    exact this
  · obtain ⟨h1, h₁, tk₁, rfl, hk₁⟩ := hp
    exact hend h' tk₁ _ (by omega) (fun b o hB hC e => hk' b o (hk₁ b o hB hC e)) fun hb' => bare_set (bare_set hb' rfl) rfl
end
end
section
open PySem PySem.W PyProof.Rows PySem.Calls PySem.Spec
section
variable {prog : Program} {w : World} {A : Around} {E : Value → Shared → Prop} {s : Shared} {env : Env}

theorem gen_fresh {iter : Expr} {bd : List Stmt} {a1 a2 a3 a4 a5 a6 a7 a8 a9 : Pos} {n1 n2 : Nat}
    {p1 p2 p3 q1 q2 q3 q4 q5 q6 q7 q8 q9 q10 q11 q12 q13 q14 q15 q16 q17 q18 q19 q20 q21 q22 q23 q24 : Pos} {k1 k2 k3 k4 k5 k6 : Nat} {x : Str} {t : Tok} {B0 : Nat} {h₀ : Heap} {oC : Obj} {m : Str → Option Value} {C : Addr}
    (hCe : env.locals = C) (hh : A.handled = none) (hkf : env.scope.kind = .function) (hlp : env.kindOf "pos" = some .local) (hlc : env.kindOf "ch" = some .local) (hle : env.kindOf "escape" = some .local)
    (hp : (env.scope.kind == .class || (env.scope.kind == .module && env.locals != env.globals)) = false) (hco : env.scope.isCoroutine = false) (hint : interactive env = false)
    (hCB : C < B0) (hC0 : h₀.objs.size ≤ C) (hN : ∀ h : Heap, h.get? C = some oC → h.Ns C m)
    (hadd : m "addr" = some (.str x t))
    (hiter : ∀ (A' : Around) (s' : Shared) (m' : Str → Option Value) (Q' : Value → Shared → Prop), A'.handled = none → Fr h₀ C s'.heap m' → m' "addr" = some (.str x t) →
      (∀ h', IsEnum h' (s'.heap.objs.size + 1) s'.heap.objs.size 0 .none → h'.IsStrIter s'.heap.objs.size "str_ascii_iterator" x t 0 → (∀ b o, s'.heap.get? b = some o → h'.get? b = some o) → Q' (.ref (s'.heap.objs.size + 1)) { s' with heap := h' }) →
      wpAny (model prog w) A' (eval iter env) Q' (fun _ _ => False) s')
    (hsw1 : ∀ v, foldedSetIterable iter env v = pure v)
    (hend : escEnd false x.cps.toList = false) :
    GReady prog w A h₀ B0 C (escs 0 false x.cps.toList) 0 (.fresh (.func [.Assign [.Name "pos" a1] (.Constant (.int 0) n1 a2) a3, .Assign [.Name "escape" a4] (.Constant (.bool false) n2 a5) a6,
      .For (.Tuple [.Name "pos" p1, .Name "ch" p2] k1 p3) iter
          [.If (.Name "escape" q1) [.Expr (.Yield (some (.Tuple [.Name "pos" q2, .BinOp (.Constant (.str "\\") k2 q3) .Add (.Name "ch" q4) q5] k3 q6)) q7) q8, .Assign [.Name "escape" q9] (.Constant (.bool false) k4 q10) q11]
            [.If (.Compare (.Name "ch" q12) [.Eq] [.Constant (.str "\\") k5 q13] q14) [.Assign [.Name "escape" q15] (.Constant (.bool true) k6 q16) q17]
              [.Expr (.Yield (some (.Tuple [.Name "pos" q18, .Name "ch" q19] k4 q20)) q21) q22] q24] q23] [] a7,
      .If (.Name "escape" a8) bd [] a9] env)) [(C, oC)] := by
  subst hCe
  intro s'' h0 hws hB
  have hn := hN s''.heap (hws _ (.head _))
  refine ⟨rfl, seg_func ?_⟩
  refine seg_execs_cons (seg_w (wpAny_Assign_Name (wpAny_Constant_int (wpAny_storeName_local hlp hn (fun h₁ hn₁ hs₁ => ?_) hp)) rfl))
  replace hs₁ : Heap.SameBut env.locals s''.heap h₁ := hs₁
  refine seg_execs_cons (seg_w (wpAny_Assign_Name (wpAny_Constant_bool (wpAny_storeName_local hle hn₁ (fun h₂ hn₂ hs₂ => ?_) hp)) rfl))
  replace hs₂ : Heap.SameBut env.locals h₁ h₂ := hs₂
  have hk₂ : ∀ b o, b ≠ env.locals → s''.heap.get? b = some o → h₂.get? b = some o := fun b o hb e => hs₂.extBut b o hb (hs₁.extBut b o hb e)
  have hz₂ : h₂.objs.size = s''.heap.objs.size := hs₂.1.trans hs₁.1
  have F₂ : Fr h₀ env.locals h₂ _ := ⟨hn₂, fun b o e => hk₂ b o (Nat.ne_of_lt (Nat.lt_of_lt_of_le (Heap.lt_size e) hC0)) (h0 b o e), hC0⟩
  refine seg_execs_cons (seg_For (hiter _ _ _ _ ?_ F₂ ?_ fun h₃ he₃ hit₃ hk₃ => ?_) hsw1)
  · exact hh
  · show (if Str.ofString "addr" = Str.ofString "escape" then _ else if Str.ofString "addr" = Str.ofString "pos" then _ else m (Str.ofString "addr")) = _
    rw [if_neg (by decide), if_neg (by decide)]; exact hadd
  replace he₃ : IsEnum h₃ (h₂.objs.size + 1) h₂.objs.size 0 .none := he₃
  replace hit₃ : h₃.IsStrIter h₂.objs.size "str_ascii_iterator" x t 0 := hit₃
  replace hk₃ : ∀ b o, h₂.get? b = some o → h₃.get? b = some o := hk₃
  refine wpAny_pyIter_enum (s := { s'' with heap := h₃, toks := _ }) he₃ fun p => ?_
  have hl : (escs 0 false x.cps.toList).length - 0 = (escs 0 false x.cps.toList).length := Nat.sub_zero _
  rw [hl]
  refine seg_genLoop (e := h₂.objs.size + 1) (si := h₂.objs.size) hh hkf hlp hlc hle hp hco hint hCB (by omega) (by omega) (by omega) rfl rfl (fun s₁ s₂ m₂ hn' hm' hs' => ?_) x.cps.toList 0 false _ _ _ .none rfl (Nat.zero_le _) (hn₂.at fun o e => hk₃ _ _ e) ?_ he₃ hit₃ ?_ hend ⟨[], rfl⟩
  · show Seg _ _ _ _ _ _ _ ((execs [Stmt.If (.Name "escape" a8) bd [] a9] env).wrap _ _ id id) [] s₂
    refine seg_execs_cons (seg_If (isTrue_plain (wpAny_Name (wpAny_loadName_local hkf hle hn' hm' (wpAny_truthy_bool ?_)))))
    simp only [Bool.false_eq_true, if_false]
    refine seg_execs_nil (seg_execs_nil ?_)
    exact seg_end (.ok (.ret .none)) ⟨rfl, rfl, hs'⟩
  · show (if Str.ofString "escape" = Str.ofString "escape" then _ else _) = _
    rw [if_pos rfl]
  · exact (Since.refl s'').step fun b o _ hC e => hk₃ b o (hk₂ b o hC e)
end
end
section
open PySem PySem.W PyProof.Rows PySem.Calls PySem.Spec
section
variable {prog : Program} {w : World} {A : Around} {E : Value → Shared → Prop} {s : Shared} {h₀ : Heap} {L : Addr} {m : Str → Option Value} {news : List (Addr × Obj)}

theorem call_gen {K : Frag} {name qual : Str} {params : Arguments} {body : List Stmt} {scope : Scope} {dV kV doc pm cdv ct oc : Value} {an od : Option Addr} {osl : Array (Option Value)} {f : Addr} {args : List Value} {binds : List (Str × Value)} {Q : Value → Shared → Prop}
    (F : Fr h₀ L s.heap m) (X : K.In h₀) (N : News h₀ L s.heap news) (hlim : h₀.NoLimit) 
    (ho : K.lookup f = some ⟨oc, od, .func (fnOf name qual params body scope dV kV doc pm an cdv ct), osl⟩) (hcd : codeIn K cdv qual = true) (hroom : A.depth < recursionLimit)
    (hbind : BindsTo s (fnOf name qual params body scope dV kV doc pm an cdv ct) ⟨args, []⟩ binds) (hloc : ∀ y ∈ binds, scope.names.lookup y.1 = some .local)
    (hcell : ∀ x ∈ scope.names, x.2 ≠ .cell) (hco : scope.isCoroutine = false) (hgen : scope.isGenerator = true) (hk : scope.kind = .function)
    (h : ∀ h' C oC oG tk', Fr h₀ L h' m → News h₀ L h' ((C + 1, oG) :: (C, oC) :: news) → (∀ p ∈ news, p.1 < C) → h₀.objs.size ≤ C → L < C → h'.objs.size = C + 2 → (∀ x : Heap, x.get? (C + 1) = some oG → x.IsGen (C + 1) s.gens.size) →
      (∀ x : Heap, x.get? C = some oC → x.Ns C (fun x => binds.reverse.lookup x)) →
      Q (.ref (C + 1)) { s with heap := h', toks := tk', gens := s.gens.push (.fresh (.func body (envOf qual scope C f cdv))) }) :
    wpAny (model prog w) A (call (.ref f) args) Q E s := by
  have Xs := X.keeps F.keep
  refine wpAny_call (codeAny_call_generator (fd := fnOf name qual params body scope dV kV doc pm an cdv ct) hroom (Xs _ _ ho) rfl hco hgen rfl (codeRec_of Xs hcd) (hbind _ _ _ _ ?_))
  refine wpAny_newFunctionEnv hcell hloc (fun h₁ hns hsb => ⟨(hlim.keeps F.keep).fresh _ hsb, ?_⟩) hk
  replace hsb : Heap.SameBut s.heap.objs.size (s.heap.push { cls := .type "frame", data := .dict #[] }) h₁ := hsb
  have hz : h₁.objs.size = s.heap.objs.size + 1 := by rw [hsb.1, Heap.size_push]
  have hk₁ : ∀ b o, s.heap.get? b = some o → h₁.get? b = some o := fun b o e => hsb.extBut b o (Nat.ne_of_lt (Heap.lt_size e)) (Heap.get?_push_of_some _ e)
  obtain ⟨oC, e1, e2, hoC, e3⟩ := id hns
  have hLlt := F.ns.lt
  have F₁ : Fr h₀ L h₁ m := ⟨F.ns.at fun o e => hk₁ _ _ e, fun b o e => hk₁ b o (F.keep b o e), F.above⟩
  have hnone : h₀.get? s.heap.objs.size = none := by
    cases hq : h₀.get? s.heap.objs.size with
    | none => rfl
    | some o' => exact absurd (Heap.lt_size (F.keep _ _ hq)) (Nat.lt_irrefl _)
  have N₁ : News h₀ L h₁ ((s.heap.objs.size, oC) :: news) := by
    intro p hp
    rcases List.mem_cons.mp hp with rfl | hp
    · exact ⟨hoC, Nat.ne_of_gt hLlt, hnone⟩
    · exact ⟨hk₁ _ _ (N p hp).1, (N p hp).2⟩
  have N₂ := News.push F₁ N₁ { cls := .type "generator", data := .fields #[.int s.gens.size 0, .str name (s.toks + binds.length), .str qual (s.toks + binds.length + 1)] }
  rw [hz] at N₂
  show Q (.ref h₁.objs.size) _
  rw [hz]
  refine h _ s.heap.objs.size oC _ _ (F₁.push _) N₂ (fun p hp => Heap.lt_size (N p hp).1) (Nat.le_of_lt (Nat.lt_of_le_of_lt F.above hLlt)) hLlt (by rw [Heap.size_push, hz]) (fun x hx => ⟨_, _, _, hx, rfl, rfl, rfl⟩) (fun x hx => ⟨oC, e1, e2, hx, e3⟩)
end
end
section
open PySem PySem.W PyProof.Rows PySem.Calls PySem.Spec
section
variable {prog : Program} {w : World} {A : Around} {E : Value → Shared → Prop} {s : Shared} {env : Env} {h₀ : Heap} {m : Str → Option Value} {news : List (Addr × Obj)}

theorem letOwned_gen {elts : List Expr} {k : Nat} {pos : Pos} {G g T : Nat} {Q : Unit → Shared → Prop} (hg : s.heap.IsGen G g) (h : Q () s) :
    wpAny (model prog w) A (letOwnedTupleGo (.Tuple elts k pos) (.ref G) (.ref T)) Q E s := by
  obtain ⟨o, nm, qn, ho, hc, hd, hsl⟩ := hg
  unfold letOwnedTupleGo
  refine wpAny_bind (wpAny_load ho ?_)
  rw [hc, hd]
  exact wpAny_pure h

noncomputable def GEnd (h₀ : Heap) (L : Addr) (own : List (Addr × Obj)) (gg : Array GenState) (J : (Str → Option Value) → List (Addr × Obj) → Prop) (s s₃ : Shared) : Prop :=
  ∃ h' tk' m'' news'', s₃ = { s with heap := h', toks := tk', gens := gg } ∧ Fr h₀ L h' m'' ∧ News h₀ L h' (news'' ++ own) ∧ J m'' news''
theorem GEnd.mk {h₀ : Heap} {L : Addr} {own : List (Addr × Obj)} {gg : Array GenState} {J : (Str → Option Value) → List (Addr × Obj) → Prop} {s : Shared} {h' : Heap} {tk' : Nat} {m'' : Str → Option Value} (news'' : List (Addr × Obj))
    (F : Fr h₀ L h' m'') (N : News h₀ L h' (news'' ++ own)) (hJ : J m'' news'') : GEnd h₀ L own gg J s { s with heap := h', toks := tk', gens := gg } := ⟨_, _, _, news'', rfl, F, N, hJ⟩

theorem forLoop_gen {R : Result → Shared → Prop} {all : List (Nat × List Nat)} {xi xv : Str} {pi pv pt : Pos} {k1 : Nat} {body : List Stmt} {G C g B0 : Nat} {oG oC : Obj} {gs : GenState}
    (hh : A.handled = none) (hroom : A.depth < recursionLimit) (hxi : env.kindOf xi = some .local) (hxv : env.kindOf xv = some .local)
    (hp : (env.scope.kind == .class || (env.scope.kind == .module && env.locals != env.globals)) = false)
    (F : Fr h₀ env.locals s.heap m) (N : News h₀ env.locals s.heap ((G, oG) :: (C, oC) :: news)) (hlim : h₀.NoLimit) (hg : s.gens[g]? = some gs) (hG : ∀ x : Heap, x.get? G = some oG → x.IsGen G g)
    (hr : GReady prog w A.in1 h₀ B0 C all 0 gs [(C, oC)]) (hGB : G < B0) (hCB : C < B0) (hCG : C ≠ G) (hlt : ∀ p ∈ news, p.1 < B0 ∧ p.1 ≠ C ∧ p.1 ≠ G) (hLB : env.locals < B0) (hB : B0 ≤ s.heap.objs.size) (hb : AllBare s.gens)
    (J : Nat → (Str → Option Value) → List (Addr × Obj) → Prop) (h0 : J 0 m news) (hJ : ∀ k m' news', J k m' news' → news'.map (·.1) = news.map (·.1))
    (turn : ∀ k p c m' news' own h tk gg t1 t2, all[k]? = some (p, c) → J k m' news' → AllBare gg → (∀ r ∈ news', ∀ q ∈ own, q.1 ≠ r.1) →
      Fr h₀ env.locals h (fun y => if y = xv then some (.str ⟨c.toArray⟩ t2) else if y = xi then some (.int (p : Nat) t1) else m' y) → News h₀ env.locals h (news' ++ own) →
      wpAny (model prog w) A (execs body env) (fun f s₃ => match f with
        | .next | .cont => GEnd h₀ env.locals own gg (J (k + 1)) s s₃
        | .brk => R (.ok .next) s₃
        | .ret v => R (.ok (.ret v)) s₃) (fun _ _ => False) { s with heap := h, toks := tk, gens := gg })
    (done : ∀ m' news' h tk gg, J all.length m' news' → AllBare gg → Fr h₀ env.locals h m' → News h₀ env.locals h news' → R (.ok .next) { s with heap := h, toks := tk, gens := gg }) :
    codeAny (model prog w) A (.forLoop (.Tuple [.Name xi pi, .Name xv pv] k1 pt) (.ref G) body [] env) R s := by
  have hLG : env.locals ≠ G := Ne.symm (N _ (.head _)).2.1
  have hLC : env.locals ≠ C := Ne.symm (N _ (.tail _ (.head _))).2.1
  have hG0 := (N _ (.head _)).2.2
  have hC0 := (N _ (.tail _ (.head _))).2.2
  refine codeAny_forLoop_any (fun n s' => ∃ k h tk gg m' news' ws gs, s' = { s with heap := h, toks := tk, gens := gg } ∧ n = all.length - k ∧ k ≤ all.length ∧ J k m' news' ∧ Fr h₀ env.locals h m' ∧
      News h₀ env.locals h (news' ++ ((G, oG) :: ws)) ∧ gg[g]? = some gs ∧ GReady prog w A.in1 h₀ B0 C all k gs ws ∧ AllBare gg ∧ B0 ≤ h.objs.size) ?_ all.length
    ⟨0, s.heap, s.toks, s.gens, m, news, _, gs, rfl, by omega, Nat.zero_le _, h0, F, fun p hp => ?_, hg, hr, hb, hB⟩
  case refine_2 =>
    rcases List.mem_append.mp hp with hp | hp
    · exact N _ (.tail _ (.tail _ hp))
    · rcases List.mem_cons.mp hp with rfl | hp
      · exact N _ (.head _)
      · rw [List.mem_singleton.mp hp]; exact N _ (.tail _ (.head _))
  rintro n s' ⟨k, h, tk, gg, m', news', ws, gs', rfl, rfl, hk, hJk, F', N', hg', hr', hb', hB'⟩
  have hmem : ∀ p ∈ news', p.1 < B0 ∧ p.1 ≠ C ∧ p.1 ≠ G := fun p hp => by
    have h1 : p.1 ∈ news'.map (·.1) := List.mem_map.mpr ⟨p, hp, rfl⟩
    rw [hJ k m' news' hJk] at h1
    obtain ⟨q, hq, e⟩ := List.mem_map.mp h1
    rw [← e]; exact hlt q hq
  have hGo : h.get? G = some oG := (N' (G, oG) (List.mem_append_right _ (.head _))).1
  have hn0 : ∀ b, B0 ≤ b → h₀.get? b = none := fun b hb => by
    cases e : h₀.get? b with
    | none => rfl
    | some o => exact absurd (Nat.lt_of_lt_of_le (Heap.lt_size e) (Nat.le_trans F.above (Nat.le_of_lt hLB))) (Nat.not_lt.mpr hb)
  refine gen_next (s := { s with heap := h, toks := tk, gens := gg }) hh (hlim.keeps F'.keep) hroom (hG h hGo) hg' hr' hk F'.keep (fun q hq => (N' q (List.mem_append_right _ (.tail _ hq))).1) hB' ?_ ?_
  · intro p c T tp tc e si oC' oE oS gs'' h₁ tk₁ gg₁ hidx hT hBT hBe hBs hTe hTs hes hC' hE hS hk₁ hgg hbb hr₁
    replace hk₁ : ∀ b o, b < B0 → b ≠ C → h.get? b = some o → h₁.get? b = some o := hk₁
    have hb₁ := hbb hb'
    have hG₁ : h₁.get? G = some oG := hk₁ _ _ hGB (Ne.symm hCG) hGo
    have F₁ : Fr h₀ env.locals h₁ m' := ⟨F'.ns.at fun o e => hk₁ _ _ hLB hLC e, fun b o e => hk₁ b o (Nat.lt_of_lt_of_le (Heap.lt_size e) (Nat.le_trans F.above (Nat.le_of_lt hLB))) (fun q => by rw [q, hC0] at e; cases e) (F'.keep b o e), F.above⟩
    have N₁ : News h₀ env.locals h₁ (news' ++ [(G, oG), (C, oC'), (e, oE), (si, oS)]) := by
      intro q hq
      rcases List.mem_append.mp hq with hq | hq
      · have h1 := N' q (List.mem_append_left _ hq)
        exact ⟨hk₁ _ _ (hmem q hq).1 (hmem q hq).2.1 h1.1, h1.2⟩
      · simp only [List.mem_cons, List.not_mem_nil, or_false] at hq
        rcases hq with rfl | rfl | rfl | rfl
        · exact ⟨hG₁, Ne.symm hLG, hG0⟩
        · exact ⟨hC', Ne.symm hLC, hC0⟩
        · exact ⟨hE, Ne.symm (Nat.ne_of_lt (Nat.lt_of_lt_of_le hLB hBe)), hn0 _ hBe⟩
        · exact ⟨hS, Ne.symm (Nat.ne_of_lt (Nat.lt_of_lt_of_le hLB hBs)), hn0 _ hBs⟩
    refine letOwned_gen (hG _ hG₁) ?_
    have ht : h₁.IsTuple T #[.int (p : Nat) tp, .str ⟨c.toArray⟩ tc] := ⟨_, hT, rfl, _, rfl⟩
    refine wpAny_assign_Tuple (s := { s with heap := h₁, toks := tk₁, gens := gg₁ }) hh ht rfl rfl fun h₃ hx₃ => ?_
    replace hx₃ : Heap.ExtBut h₁.objs.size h₁ h₃ := hx₃
    have old₃ : ∀ b o, h₁.get? b = some o → h₃.get? b = some o := fun b o x => hx₃ b o (Nat.ne_of_lt (Heap.lt_size x)) x
    have F₃ := F₁.grownK old₃
    have N₃ := N₁.grown old₃
    show wpAny _ A (do holding [_] (assign (.Name xi pi) env (.int (p : Nat) tp)); do holding [] (assign (.Name xv pv) env (.str ⟨c.toArray⟩ tc)); pure ()) _ _ _
    refine wpAny_bind (wpAny_holding (wpAny_assign_Name (wpAny_storeName_local hxi F₃.ns (fun h₄ hn₄ hs₄ => ?_) hp)))
    replace hs₄ : Heap.SameBut env.locals h₃ h₄ := hs₄
    refine wpAny_bind (wpAny_holding (wpAny_assign_Name (wpAny_storeName_local hxv hn₄ (fun h₅ hn₅ hs₅ => wpAny_pure ?_) hp)))
    replace hs₅ : Heap.SameBut env.locals h₄ h₅ := hs₅
    have F₅ := (F₃.set hn₄ hs₄).set hn₅ hs₅
    have N₅ := (N₃.set hs₄).set hs₅
    refine wpAny_mono (turn k p c m' news' _ h₅ _ gg₁ tp tc hidx hJk hb₁ (fun r hr q hq => ?_) F₅ N₅) (fun f s₃ h₃' => ?_) fun _ _ x => x.elim
    · have hr' := hmem r hr
      simp only [List.mem_cons, List.not_mem_nil, or_false] at hq
      rcases hq with rfl | rfl | rfl | rfl
      · exact Ne.symm hr'.2.2
      · exact Ne.symm hr'.2.1
      · exact Ne.symm (Nat.ne_of_lt (Nat.lt_of_lt_of_le hr'.1 hBe))
      · exact Ne.symm (Nat.ne_of_lt (Nat.lt_of_lt_of_le hr'.1 hBs))
    · have hlt' : k < all.length := by
        rcases Nat.lt_or_ge k all.length with q | q
        · exact q
        · rw [List.getElem?_eq_none q] at hidx; cases hidx
      have key : GEnd h₀ env.locals [(G, oG), (C, oC'), (e, oE), (si, oS)] gg₁ (J (k + 1)) s s₃ → ∃ m, m < all.length - k ∧ ∃ k h tk gg m' news' ws gs, s₃ = { s with heap := h, toks := tk, gens := gg } ∧ m = all.length - k ∧ k ≤ all.length ∧ J k m' news' ∧ Fr h₀ env.locals h m' ∧
          News h₀ env.locals h (news' ++ ((G, oG) :: ws)) ∧ gg[g]? = some gs ∧ GReady prog w A.in1 h₀ B0 C all k gs ws ∧ AllBare gg ∧ B0 ≤ h.objs.size := by
        rintro ⟨h6, tk6, m6, news6, rfl, F6, N6, hJ6⟩
        refine ⟨all.length - (k + 1), by omega, k + 1, h6, tk6, gg₁, m6, news6, _, gs'', rfl, rfl, hlt', hJ6, F6, N6, hgg, hr₁, hb₁, ?_⟩
        have := (N6 (si, oS) (List.mem_append_right _ (.tail _ (.tail _ (.tail _ (.head _)))))).1
        exact Nat.le_of_lt (Nat.lt_of_le_of_lt hBs (Heap.lt_size this))
      cases f with
      | next => exact key h₃'
      | cont => exact key h₃'
      | brk => exact h₃'
      | ret v => exact h₃'
  · intro h₁ tk₁ gg₁ hk' hk₁ hbb
    replace hk₁ : ∀ b o, b < B0 → b ≠ C → h.get? b = some o → h₁.get? b = some o := hk₁
    subst hk'
    refine wpAny_execs_nil (done m' news' h₁ tk₁ gg₁ hJk (hbb hb') ⟨F'.ns.at fun o e => hk₁ _ _ hLB hLC e, fun b o e => hk₁ b o (Nat.lt_of_lt_of_le (Heap.lt_size e) (Nat.le_trans F.above (Nat.le_of_lt hLB))) (fun q => by rw [q, hC0] at e; cases e) (F'.keep b o e), F.above⟩ fun q hq => ?_)
    have h1 := N' q (List.mem_append_left _ hq)
    exact ⟨hk₁ _ _ (hmem q hq).1 (hmem q hq).2.1 h1.1, h1.2⟩
end
end
section
open PySem PySem.W PyProof.Rows PySem.Calls PySem.Spec PySem.Builtin
theorem slot_fn_setattr : Slot "function" "__setattr__" "object.__setattr__" :=
  .of (owner := "object") (n := "__setattr__") (by rw [typeLookup_type, builtinLookup_eq_fast]; kernel_rfl) (by decide +kernel) (by decide +kernel) (by decide +kernel)
    (by first | exact .inl (by decide +kernel) | exact .inr (by decide +kernel)) (by rw [isSubtype_type]; kernel_rfl)
theorem mro_fn : mroOf (.type "function") = pure [.type "function", .type "object"] := by rw [mroOf_type]; kernel_rfl
theorem look_fn_read : typeLookup (.type "function") "read" = pure none := by rw [typeLookup_type, builtinLookup_eq_fast]; kernel_rfl
theorem passes_fn (self : Value) : refuseLoop self "__setattr__" [.type "function", .type "object"] = pure () := by kernel_rfl

section
variable {prog : Program} {w : World} {A : Around} {E : Value → Shared → Prop} {s : Shared} {h₀ : Heap} {L : Addr} {m : Str → Option Value}

/-- the dict of a function that bears one name -/
noncomputable def FnDict (o : Obj) (name : Str) (v : Value) : Prop := ∃ hs k, o = { cls := .type "dict", data := .dict #[⟨hs, .str name k, v⟩] 1 }

theorem setAttr_fn {f : Addr} {fd : FuncData} {news : List (Addr × Obj)} {v : Value} {Q : Unit → Shared → Prop} {g : Obj → List (Addr × Obj)}
    (F : Fr h₀ L s.heap m) (N : News h₀ L s.heap news) (U : UpdF f { cls := .type "function", data := .func fd } news g)
    (h : ∀ h' d od tk, Fr h₀ L h' m → News h₀ L h' ((d, od) :: g { cls := .type "function", dict := some d, data := .func fd }) → (∀ p ∈ news, p.1 < d) → FnDict od "read" v → Q () { s with heap := h', toks := tk }) :
    wpAny (model prog w) A (setAttr (.ref f) "read" v) Q E s := by
  obtain ⟨pre, post, rfl, hg, a, b⟩ := U.split
  have hm := N (f, { cls := .type "function", data := .func fd }) (List.mem_append_right _ (.head _))
  have hT : ∀ tk, ({ s with toks := tk } : Shared).TypeIs (.ref f) "function" := fun tk => ⟨_, hm.1, rfl⟩
  unfold setAttr
  refine wpAny_bind (wpAny_mkText (wpAny_bind (wpAny_callSpecial?_slot (name := Str.ofString "__setattr__") (hT _) slot_fn_setattr
    (wpAny_call_entry slot_fn_setattr (hT _) PySem.F.store_object.entry ?_ (PySem.F.store_object.args _ _ _)))))
  rw [osa_eq, refuse_eq]
  refine wpAny_bind (wpAny_bind (wpAny_typeOf (hT _) (wpAny_bind (wpAny_of_eq mro_fn ?_))))
  refine wpAny_of_eq (passes_fn _) ?_
  refine wpAny_bind (wpAny_typeOf (hT _) (wpAny_bind (wpAny_of_eq look_fn_read (wpAny_bind (wpAny_pure ?_)))))
  show wpAny _ _ (Builtin.ObjectAttr.storeInOwnDict (.ref f) (.type "function") (.str "read" s.toks) "read" v false) _ _ _
  unfold Builtin.ObjectAttr.storeInOwnDict
  refine wpAny_bind (wpAny_of_eq (a := ()) (by kernel_rfl) ?_)
  refine wpAny_bind ?_
  show wpAny _ _ (instanceDict f true) _ _ _
  unfold instanceDict
  refine wpAny_bind (wpAny_loadPart hm.1 ?_)
  have hth : typeHasDict (.type "function") = true := by kernel_rfl
  dsimp only
  simp only [hth, Bool.not_true, Bool.or_self, Bool.false_eq_true, if_false]
  refine wpAny_bind (wpAny_alloc (wpAny_bind (wpAny_update (Heap.get?_push_of_some _ hm.1) ?_)))
  have hfin : finalisedInACycleAlone "function" = false := by kernel_rfl
  unfold dictMade
  simp only [hfin, Bool.false_eq_true, if_false]
  refine wpAny_pure ?_
  dsimp only
  unfold Builtin.ObjectAttr.storeInDict
  refine wpAny_bind (wpAny_pure (wpAny_bind ?_))
  have N1 := N.push F { cls := .type "dict", data := .dict #[] }
  have F1 := F.push { cls := .type "dict", data := .dict #[] }
  have hdf : s.heap.objs.size ≠ f := Nat.ne_of_gt (Heap.lt_size hm.1)
  obtain ⟨F2, N2⟩ := news_upd (f := fun o => { o with dict := some s.heap.objs.size }) (o' := { cls := .type "function", dict := some s.heap.objs.size, data := .func fd }) F1 (pre := (s.heap.objs.size, { cls := .type "dict", data := .dict #[] }) :: pre) N1 (List.forall_mem_cons.mpr ⟨hdf, a⟩) b rfl rfl
  have D2 := (N2 (s.heap.objs.size, { cls := .type "dict", data := .dict #[] }) (.head _)).1
  unfold nsSet
  refine wpAny_bind (wpAny_bind (wpAny_askSetting (wpAny_pure (wpAny_bind (wpAny_mkText (wpAny_bind (wpAny_loadPart D2 ?_)))))))
  dsimp only
  have hno : aRefKeyMayBeTheName (Str.ofString "read") #[] = false := by kernel_rfl
  rw [hno]
  simp only [Bool.false_eq_true, if_false]
  refine wpAny_updatePart D2 ?_
  have hne : ∀ p ∈ pre ++ (f, ({ cls := .type "function", dict := some s.heap.objs.size, data := .func fd } : Obj)) :: post, p.1 ≠ s.heap.objs.size := fun p hp => by
    rcases List.mem_append.mp hp with hp | hp
    · exact Nat.ne_of_lt (Heap.lt_size (N p (List.mem_append_left _ hp)).1)
    · rcases List.mem_cons.mp hp with rfl | hp
      · exact Ne.symm hdf
      · exact Nat.ne_of_lt (Heap.lt_size (N p (List.mem_append_right _ (.tail _ hp))).1)
  obtain ⟨F3, N3⟩ := news_upd (pre := []) (f := Obj.putName (Str.ofString "read") (PyData.keyHash w.params "read") (.str "read" (s.toks + 1)) v) (o' := { cls := .type "dict", data := .dict #[⟨PyData.keyHash w.params "read", .str "read" (s.toks + 1), v⟩] 1 }) F2 N2 (fun _ h => nomatch h) hne (by rw [show ({ cls := .type "dict", data := .dict #[] } : Obj) = dictOf [] 0 from rfl, putName_dict]; rfl) rfl
  have D3 := (N3 (s.heap.objs.size, _) (.head _)).1
  refine wpAny_bind (wpAny_lookBehind D3 (pastItsLine_dict (by rw [sizeLine_eq]; show 1 ≤ _; decide)) ?_)
  refine wpAny_pure ⟨_, rfl, wpAny_pure ?_⟩
  refine h _ s.heap.objs.size _ _ F3 (by rw [hg]; exact N3) (fun p hp => Heap.lt_size (N p hp).1) ⟨_, _, rfl⟩
end
end
section
open PySem PySem.W PyProof.Rows PySem.Calls PySem.Spec PySem.Builtin
theorem slot_fn_ga : Slot "function" "__getattribute__" "object.__getattribute__" :=
  .of (owner := "object") (n := "__getattribute__") (by rw [typeLookup_type, builtinLookup_eq_fast]; kernel_rfl) (by decide +kernel) (by decide +kernel) (by decide +kernel)
    (by first | exact .inl (by decide +kernel) | exact .inr (by decide +kernel)) (by rw [isSubtype_type]; kernel_rfl)
theorem look_fn_getattr : typeLookup (.type "function") "__getattr__" = pure none := by rw [typeLookup_type, builtinLookup_eq_fast]; kernel_rfl

theorem FnDict.ns {h : Heap} {a : Addr} {o : Obj} {name : Str} {v : Value} (x : FnDict o name v) (hx : h.get? a = some o) : h.Ns a (h.nsMap a) := by
  obtain ⟨hs, k, rfl⟩ := x
  exact Heap.Ns.of_isNs (by unfold Heap.isNs; rw [hx]; simp)
theorem FnDict.val {h : Heap} {a : Addr} {o : Obj} {v : Value} (x : FnDict o "read" v) (hx : h.get? a = some o) : h.nsMap a "read" = some v := by
  obtain ⟨hs, k, rfl⟩ := x
  unfold Heap.nsMap; rw [hx]; rfl

section
variable {prog : Program} {w : World} {A : Around} {E : Value → Shared → Prop} {h : Heap} {g : Array GenState} {d : Drawn} {t : Nat} {os : OsState} {f D : Addr} {fd : FuncData} {od : Obj} {v : Value}

theorem fn_object_entry {tk : Tok} {Q : Fin → Shared → Prop} (hM : h.get? f = some { cls := .type "function", dict := some D, data := .func fd }) (hD : h.get? D = some od) (hv : FnDict od "read" v)
    (hq : Q (.done (.ret v)) ⟨h, g, d, t, os⟩) : wpAny (model prog w) A (Builtin.«object.__getattribute__» ⟨[.ref f, .str "read" tk], []⟩) Q E ⟨h, g, d, t, os⟩ := by
  have hT : (⟨h, g, d, t, os⟩ : Shared).TypeIs (.ref f) "function" := ⟨_, hM, rfl⟩
  have hN := hv.ns hD
  have hV := hv.val hD
  have hnm := look_fn_read
  have hnl : (nsLook (Str.ofString "read") od : Sem (Option Value)) = pure (some v) := by
    obtain ⟨hs, k, rfl⟩ := hv
    rfl
  repeat (any_goals (first | assumption | with_reducible apply wpAny_nsGet_known hN | (with_reducible refine wpAny_of_eq hnl ?_) | (with_reducible refine wpAny_bind (wpAny_of_eq hnl ?_)) | (with_reducible refine wpAny_loadPart hD ?_) | wp_step))

theorem getMethod_fn {pl : Sem Bool} {Q : Value × List Value → Shared → Prop} (hM : h.get? f = some { cls := .type "function", dict := some D, data := .func fd }) (hD : h.get? D = some od) (hv : FnDict od "read" v)
    (hh : handedOut v = pure v) (hq : Q (v, []) ⟨h, g, d, t + 1, os⟩) : wpAny (model prog w) A (getMethod (.ref f) "read" pl) Q E ⟨h, g, d, t, os⟩ := by
  have hT : (⟨h, g, d, t, os⟩ : Shared).TypeIs (.ref f) "function" := ⟨_, hM, rfl⟩
  have hT1 : (⟨h, g, d, t + 1, os⟩ : Shared).TypeIs (.ref f) "function" := ⟨_, hM, rfl⟩
  have f1 := slot_fn_ga.lookup
  have f2 := look_fn_getattr
  have hnm := look_fn_read
  have f4 := slot_fn_ga.bind (.ref f)
  unfold getMethod
  refine wpAny_bind (wpAny_specialOf hT f1 ?_)
  show wpAny _ A (if (Manifest.canonical "object.__getattribute__" != "object.__getattribute__") = true then _ else _) Q E _
  rw [F.canon_object_ga, if_neg Bool.false_ne_true]
  refine wpAny_bind (wpAny_specialOf hT f2 ?_)
  rw [if_neg (by decide)]
  refine wpAny_bind (wpAny_specialOf hT hnm ?_)
  show wpAny _ _ (getAttr (.ref f) "read" >>= _) _ _ _
  unfold getAttr getAttrBy
  refine wpAny_bind (wpAny_bind (wpAny_mkText (wpAny_holding (wpAny_bind (wpAny_typeOf hT1 (wpAny_bind (wpAny_of_eq f1 ?_)))))))
  show wpAny _ _ (getAttrByItsOwn (.ref f) (.str "read" t) (.type "function") (.builtin "object.__getattribute__") true false) _ _ _
  unfold getAttrByItsOwn hookBefore callGetattribute boundAndCalled
  refine wpAny_bind (wpAny_of_eq (show (if onTheHeap (.type "function") then typeLookup (.type "function") "__getattr__" else pure none) = pure none from rfl) ?_)
  refine wpAny_bind (wpAny_attempt (wpAny_holding ?_))
  show wpAny _ _ (bindSpecial (.builtin "object.__getattribute__") (.ref f) >>= _) _ _ _
  refine wpAny_bind (wpAny_of_eq f4 ?_)
  refine wpAny_mono (Q := fun v' s' => v' = v ∧ s' = ⟨h, g, d, t + 1, os⟩) (E := fun _ _ => False)
    (wpAny_call_entry slot_fn_ga hT1 PySem.F.entry_object_getattribute (fn_object_entry hM hD hv ⟨_, rfl, rfl, rfl⟩) (PySem.F.args_object_getattribute_2 _ _)) (fun v' s' hv => ?_) fun _ _ z => z.elim
  obtain ⟨rfl, rfl⟩ := hv
  refine wpAny_of_eq hh ?_
  exact wpAny_pure hq
end
end
section
open PySem PySem.W PyProof.Rows PySem.Calls PySem.Spec
local macro_rules | `(tactic| walk_at "call builtin:next") => `(tactic| (k_here; (with_reducible show wpAny _ _ (call (Value.builtin "next") [Value.ref _]) _ _ _); k_dflt (refine' next_li ?F ?N ?U ?i ?p ?x ?_; (case F => k_asm); (case N => k_asm); (case U => k_updF); (case i => k_asm); (case p => k_mem); (case x => k_asm); intro h' o' F' N' hi'); (try dsimp only at N')))
local macro_rules | `(tactic| walk_at "exec While BinOp cons nil") => `(tactic| refine Hold.mk ?_)
local macro_rules | `(tactic| walk_at "exec For Tuple Call") => `(tactic| refine Hold.mk ?_)
local macro_rules | `(tactic| walk_at "call ref") => `(tactic| (k_here; k_dflt (refine hold_ref rfl ?_)))
local macro_rules | `(tactic| walk_at "call type:enumerate") => `(tactic| (k_here; (with_reducible show wpAny _ _ (call (Value.type "enumerate") [Value.str _ _]) _ _ _); refine Hold.mk ?_))
local macro_rules | `(tactic| walk_at "eval Name") => `(tactic| (k_here; name_kind "local"; k_dflt (refine' ld ?k1 ?k2 ?_; (case k1 => k_asm); (case k2 => assumption); k_whole)))
local macro_rules | `(tactic| walk_at "call builtin:list.append") => `(tactic| (k_here; (with_reducible show wpAny _ _ (call (Value.builtin _) [Value.ref _, _]) _ _ _); k_dflt (refine' append_K ?k1 ?k2 ?k3 ?_ ?z; (case k1 => k_asm); (case k2 => k_asm); (case k3 => k_upd); (case z => assumption); k_whole); intro h' F' N'; (try k_sweep)))
local macro_rules | `(tactic| walk_at "call builtin:str.join") => `(tactic| (k_here; refine Hold.mk ?_))
local macro_rules | `(tactic| walk_at "subscriptTail") => `(tactic| (k_here; (with_reducible show wpAny _ _ (subscriptTail _ _ (Value.ref _) (Value.int _ _)) _ _ _); k_dflt (refine' item_N ?N ?m ?a ?b ?e ?_ ?s; (case N => k_asm); (case m => k_mem); (case a => first | decide | omega); (case b => first | decide | omega); (case e => first | assumption | rfl); (case s => with_unfolding_all rfl); k_whole)))
local macro_rules | `(tactic| walk_at "setItem ref int") => `(tactic| (k_here; k_dflt (refine' set_N ?F ?N ?U ?a ?b ?c ?_; (case F => k_asm); (case N => k_asm); (case U => k_updF); (case a => first | decide | omega); (case b => first | decide | omega | (simp; done)); (case c => first | decide | omega); k_whole); intro h' F' N'; (try dsimp only at N'); (try k_sweep)))
local macro_rules | `(tactic| walk_at "callWith ref") => `(tactic| (k_here; k_dflt (refine' callWith_F ?k1 ?_; (case k1 => exact FnAt.of (by k_asm) (by k_mem)); k_whole)))
local macro_rules | `(tactic| k_mem) => `(tactic| assumption)
local macro_rules | `(tactic| k_updF) => `(tactic| assumption)
local macro_rules | `(tactic| k_all) => `(tactic| first | assumption | exact mine_ne1 (by assumption) | exact mine_ne (by assumption) | exact mine_ne (And.right (by assumption)) | exact mine_ne (And.right (And.right (by assumption))) | exact mine_ne (And.right (And.right (And.right (by assumption)))) | exact mine_ne (And.right (And.right (And.right (And.right (by assumption))))) | exact mine_ne (And.right (And.right (And.right (And.right (And.right (by assumption)))))) | exact mine_ne2 (by assumption) (by omega))
local macro_rules | `(tactic| k_room) => `(tactic| ktr_room)
section
variable {prog : Program} {w : World} {loose : List Str} {mean : ExcName → Option Value} {mg mb : Str → Option Value} {dp un : Nat} {gd : Option (List Code)} {cn : Str} {cs : Scope} {a : Addr} {ccd : Value} {cl : List (Str × Addr)} {outer : List Env} {A₀ : Around} {base h₀ : Heap} {L : Addr} {m : Str → Option Value} {news : List (Addr × Obj)} {s : Shared} {Q E : Value → Shared → Prop}
theorem parse_spec {it l : Addr} {io : Obj} {i nn : Nat} {vs : Array Value} {b0 : Int} {tb : Tok} {cs9 : List Int} {res : Int} {kk : Nat}
   (B : Below A₀ base outer h₀) (F : Fr h₀ L s.heap m) (X : (hd.heap_1 w.params).In h₀) 
   (N : News h₀ L s.heap ((it, io) :: (l, listOf vs nn) :: news)) (hi : LiIter io l i) (hne : ∀ p ∈ (l, listOf vs nn) :: news, p.1 ≠ it)
   (hb : vs[i]? = some (.int b0 tb)) (hb0 : 0 ≤ b0)
   (hcs : ∀ k c, cs9[k]? = some c → 0 ≤ c ∧ ∃ t, vs[i + 1 + k]? = some (.int c t)) (hlen : cs9.length ≤ 4) (hrun : vrun b0 (b0 % 64) cs9 = some (res, kk))
   (T : Top topProg loose mean mg mb h₀) (hk : cs.kind = .function)  (hd : dp + 10 < recursionLimit) (hu : un + 100 < cLine)
   (ret : ∀ t h' tk' o', Fr h₀ L h' m → News h₀ L h' ((it, o') :: (l, listOf vs nn) :: news) → LiIter o' l (i + 1 + kk) → Q (.int res t) { s with heap := h', toks := tk' }) :
   wpAny (model prog w) (ktrTop dp un gd cn cs L a ccd cl outer) (call (.ref 21) [.ref it]) Q E s := by
  refine wpAny_call ?_
  k_dflt cell_enter
  refine gen_Q fun Pz pz => ?_
  k_steps
  refine Hold.out ?_
  rename Fr _ _ _ _ => F1
  rename News _ _ _ _ => N1
  try dsimp only
  refine gen_toks fun tkw => ?_
  refine while_K (fun n m news' => ∃ val b tv tb o j cs k, m = (fun y => if y = Str.ofString "val" then some (.int val tv) else if y = Str.ofString "b" then some (.int b tb) else (List.lookup y [(Str.ofString "iterator", .ref it)])) ∧ news' = ((it, o) :: (l, listOf vs nn) :: news) ∧ LiIter o l j ∧ 
    (∀ k c, cs[k]? = some c → 0 ≤ c ∧ ∃ t, vs[j + k]? = some (.int c t)) ∧ 0 ≤ val ∧ (val + 1) * 64 ^ cs.length ≤ 2 ^ 62 ∧ vrun b val cs = some (res, k) ∧ j + k = i + 1 + kk ∧ n = cs.length) cs9.length F1 N1 ⟨_, _, _, _, _, _, cs9, kk, rfl, rfl, by assumption, hcs, ?_, ?_, ?_, rfl, rfl⟩ ?_
  · rw [bitAnd_m6]; omega
  · rw [bitAnd_m6]
    have h1 : b0 % 64 + 1 ≤ 64 := by omega
    have h2 : (64 : Int) ^ cs9.length ≤ 64 ^ 4 := by
      have := Nat.pow_le_pow_right (n := 64) (by decide) hlen
      exact_mod_cast this
    have h3 : (b0 % 64 + 1) * 64 ^ cs9.length ≤ 64 * 64 ^ 4 := Int.mul_le_mul h1 h2 (Int.le_of_lt (Int.pow_pos (by decide))) (by decide)
    omega
  · rw [bitAnd_m6]; exact hrun
  rintro n m' news' h tk' Pw qw ⟨val, b, tv, tb', o, j, cs8, k8, rfl, rfl, hi2, hcs2, hv0, hv1, hr, hj, rfl⟩ F2 N2
  clear F1 N1
  have hv2 : val < 2 ^ 62 := by
    have h1 : (1 : Int) ≤ 64 ^ cs8.length := by
      have := Nat.one_le_pow cs8.length 64 (by decide)
      exact_mod_cast this
    have h2 : (val + 1) * 1 ≤ (val + 1) * 64 ^ cs8.length := Int.mul_le_mul_of_nonneg_left h1 (by omega)
    omega
  by_cases hbit : b / 64 % 2 = 0
  · have hb2 : (Builtin.bitAnd b 64 != 0) = false := by rw [and64, hbit]; rfl
    have e : val = res ∧ k8 = 0 := by
      cases cs8 <;> simp only [vrun, hbit, if_true, Option.some.injEq, Prod.mk.injEq] at hr <;> omega
    obtain ⟨rfl, rfl⟩ := e
    k_steps
    refine pz _ _ ?_
    k_steps
    exact ret _ _ _ _ (by k_asm) (by k_asm) (by rw [← hj]; exact hi2)
  · have hb2 : (Builtin.bitAnd b 64 != 0) = true := by
      rw [and64]
      have : b / 64 % 2 = 1 := by omega
      rw [this]; rfl
    cases cs8 with
    | nil => simp [vrun, hbit] at hr
    | cons c r =>
      simp only [vrun, hbit, if_false, Option.map_eq_some_iff] at hr
      obtain ⟨⟨p1, p2⟩, hr, he⟩ := hr
      cases he
      obtain ⟨hc0, tc, hx⟩ := hcs2 0 c rfl
      simp only [Nat.add_zero] at hx
      have hv3 : val.natAbs < 2 ^ 64 := by omega
      k_steps
      refine qw _ _ (TurnEnd.mk r.length (by k_asm) (by k_asm) (Nat.lt_succ_self _) ?_)
      refine ⟨_, _, _, _, _, _, r, p2, loc2 rfl rfl (fun y h1 h2 => by simp only [if_neg h1, if_neg h2]), rfl, by assumption, fun k c hk => ?_, ?_, ?_, ?_, ?_, rfl⟩
      · obtain ⟨h1, t, h2⟩ := hcs2 (k + 1) c (by simpa using hk)
        exact ⟨h1, t, by rw [← h2]; congr 1; omega⟩
      · rw [bitAnd_m6, or_low _ _ hv0 (by omega) (by omega)]; omega
      · rw [bitAnd_m6, or_low _ _ hv0 (by omega) (by omega)]
        refine Int.le_trans ?_ hv1
        rw [List.length_cons, Int.pow_succ, Int.mul_comm (64 ^ r.length) 64, ← Int.mul_assoc]
        exact Int.mul_le_mul_of_nonneg_right (by omega) (Int.le_of_lt (Int.pow_pos (by decide)))
      · rw [bitAnd_m6, or_low _ _ hv0 (by omega) (by omega)]; exact hr
      · omega
end
section
open PySem PySem.W PyProof.Rows PyProof.Rows.LCg PySem.Calls PySem.Spec
section
variable {prog : Program} {w : World} {A : Around} {E : Value → Shared → Prop} {s : Shared} {h₀ : Heap} {L : Addr} {m : Str → Option Value} {env : Env}
noncomputable def StrSrc (prog : Program) (w : World) (A : Around) (h₀ : Heap) (L : Addr) (m : Str → Option Value) (env : Env) (elt : Expr) (x : Str) (scope : Scope) (cl : List (Str × Addr)) (Q : Value → Shared → Prop) (xv : Value) (s₁ : Shared) : Prop :=
  ∃ (text : Str) (t : Tok) (news : List (Addr × Obj)), xv = .str text t ∧ A.handled = none ∧ Fr h₀ L s₁.heap m ∧ News h₀ L s₁.heap news ∧ text.cps.size ≤ sizeLine ∧
    ∀ g, CompRest prog w A h₀ L m env elt x scope cl { s₁ with heap := g } (fun _ => True) (SignAt text) (FinE h₀ L m { s₁ with heap := g } Q) text.cps.size 0 [] news
theorem ListComp_str {elt iter : Expr} {x : Str} {px : Pos} {scope : Scope} {cl : List (Str × Addr)} {pos : Pos} {Q : Value → Shared → Prop} (F₀ : Fr h₀ L s.heap m)
    (hclos : closureFor scope env = pure cl) (hcell : ∀ y ∈ scope.names, y.2 ≠ .cell) (hkind : scope.kind = .function)
    (hnames : ∀ y ∈ scope.names, y.2 = .local → scope.names.lookup y.1 = some .local) (hx : scope.names.lookup x = some .local)
    (h : wpAny (model prog w) A (eval iter env) (StrSrc prog w A h₀ L m env elt x scope cl Q) E s)
    (hs : ∀ x, foldedSetIterable iter env x = pure x := by intro _; rfl) :
    wpAny (model prog w) A (eval (.ListComp elt [⟨.Name x px, iter, [], 0⟩] scope pos) env) Q E s := by
  rw [eval_ListComp]
  refine wpAny_comprehension_free (use := none) rfl hs hclos hkind hnames (wpAny_mono h (fun xv s₁ h₁ => ?_) fun _ _ e => e)
  obtain ⟨text, t, news, rfl, hh, F, N, hsz, R⟩ := h₁
  cases ha : text.cps.all (· < 128)
  · refine wpAny_pyIter_wide ha ?_
    refine block_U (Walks.strWide hh s₁.heap.objs.size text t) hsz (fun i h st => by obtain ⟨o, e, _⟩ := st; exact ⟨o, e⟩)
      (fun i h h' o nw st e e' _ _ _ => by obtain ⟨o', q, r⟩ := st; rw [e] at q; cases q; exact ⟨o, e', r⟩)
      hcell hkind hx ⟨_, Heap.get?_push_size _ rfl, rfl, rfl⟩ (fun b hb => by rw [List.mem_singleton.mp hb]; show _ < (s₁.heap.push _).objs.size; rw [Heap.size_push]; exact Nat.lt_succ_self _)
      (F.keeps fun _ _ e => Heap.get?_push_of_some _ e) (N.grown fun _ _ e => Heap.get?_push_of_some _ e) (Nat.ne_of_lt F.ns.lt) (next_is_new F) (fun p hp => Nat.ne_of_lt (Heap.lt_size (N p hp).1)) trivial (R _) ?_
    intro D C h tk m' ys news' F' N' o1 hn hC₀ hD₀ hCL hDL hCD offC fin
    refine ⟨m', hn, fun h'' hs'' => fin D h'' tk (F'.change hs'' hCL hC₀) (fun p hp => ?_) o1⟩
    refine ⟨hs''.extBut _ _ ?_ (N' p hp).1, (N' p hp).2⟩
    rcases List.mem_cons.mp hp with rfl | hp
    · exact Ne.symm hCD
    · exact offC p hp
  · refine wpAny_pyIter_ascii ha ?_
    refine block_U (Walks.strAscii hh s₁.heap.objs.size text t) hsz (fun i h st => by obtain ⟨o, e, _⟩ := st; exact ⟨o, e⟩)
      (fun i h h' o nw st e e' _ _ _ => by obtain ⟨o', q, r⟩ := st; rw [e] at q; cases q; exact ⟨o, e', r⟩)
      hcell hkind hx ⟨_, Heap.get?_push_size _ rfl, rfl, rfl⟩ (fun b hb => by rw [List.mem_singleton.mp hb]; show _ < (s₁.heap.push _).objs.size; rw [Heap.size_push]; exact Nat.lt_succ_self _)
      (F.keeps fun _ _ e => Heap.get?_push_of_some _ e) (N.grown fun _ _ e => Heap.get?_push_of_some _ e) (Nat.ne_of_lt F.ns.lt) (next_is_new F) (fun p hp => Nat.ne_of_lt (Heap.lt_size (N p hp).1)) trivial (R _) ?_
    intro D C h tk m' ys news' F' N' o1 hn hC₀ hD₀ hCL hDL hCD offC fin
    refine ⟨m', hn, fun h'' hs'' => fin D h'' tk (F'.change hs'' hCL hC₀) (fun p hp => ?_) o1⟩
    refine ⟨hs''.extBut _ _ ?_ (N' p hp).1, (N' p hp).2⟩
    rcases List.mem_cons.mp hp with rfl | hp
    · exact Ne.symm hCD
    · exact offC p hp
end
end
section
variable {prog : Program} {w : World} {loose : List Str} {mean : ExcName → Option Value} {mg mb : Str → Option Value} {dp un : Nat} {gd : Option (List Code)} {cn : Str} {cs : Scope} {a : Addr} {ccd : Value} {cl : List (Str × Addr)} {outer : List Env} {A₀ : Around} {base h₀ : Heap} {L : Addr} {m : Str → Option Value} {news : List (Addr × Obj)} {s : Shared} {Q E : Value → Shared → Prop}
theorem iter_spec {x : Str} {t : Tok} (F : Fr h₀ L s.heap m) (X : (hd.heap_1 w.params).In h₀) (N : News h₀ L s.heap news) 
   (T : Top topProg loose mean mg mb h₀) (hroom : A₀.depth < recursionLimit)
   (hasc : ∀ c ∈ x.cps.toList, c < 128) (hend : escEnd false x.cps.toList = false)
   (ret : ∀ h' C oC oG tk' gs, Fr h₀ L h' m → News h₀ L h' ((C + 1, oG) :: (C, oC) :: news) → (∀ p ∈ news, p.1 < C) → L < C → h'.objs.size = C + 2 → (∀ x : Heap, x.get? (C + 1) = some oG → x.IsGen (C + 1) s.gens.size) →
      (∀ A' : Around, A'.handled = none → GReady prog w A' h₀ (C + 2) C (escs 0 false x.cps.toList) 0 gs [(C, oC)]) → gs.bare = true → Q (.ref (C + 1)) { s with heap := h', toks := tk', gens := s.gens.push gs }) :
   wpAny (model prog w) A₀ (call (.ref 28) [.str x t]) Q E s := by
  refine call_gen F X N T.nolimit (by k_is) (by k_is) hroom (BindsTo.of_eq rfl) (locs rfl) (by decide) rfl rfl rfl ?_
  intro h2 C oC oG tk2 F2 N2 hlt hC0 hLC hz hG hNs
  refine ret h2 C oC oG tk2 _ F2 N2 hlt hLC hz hG ?_ rfl
  intro A' hA'
  apply gen_fresh (x := x) (t := t)
  case hN => exact hNs
  case hadd => exact rfl
  case hiter =>
    intro A'' s'' m'' Q'' hA'' F'' hm'' hq
    k_steps
    refine Hold.out (call_enumerate_str fun h' he hi hz hk => ?_)
    have e : strIterType x = "str_ascii_iterator" := by
      unfold strIterType
      rw [if_pos]
      rw [Array.all_eq_true']
      intro c hc
      exact decide_eq_true (hasc c (by simpa using hc))
    rw [e] at hi
    k_steps
    all_goals first | exact hq h' he hi hk | skip
  case hsw1 => intro _; rfl
  case hend => exact hend
  case hh => exact hA'
  case hCB => exact Nat.lt_succ_of_lt (Nat.lt_succ_self _)
  case hC0 => exact hC0
  all_goals rfl
end
section
variable {prog : Program} {w : World} {loose : List Str} {mean : ExcName → Option Value} {mg mb : Str → Option Value} {dp un : Nat} {gd : Option (List Code)} {cn : Str} {cs : Scope} {a : Addr} {ccd : Value} {cl : List (Str × Addr)} {outer : List Env} {A₀ : Around} {base h₀ : Heap} {L : Addr} {m : Str → Option Value} {news : List (Addr × Obj)} {s : Shared} {Q E : Value → Shared → Prop}
noncomputable def stripY (cps : List Nat) : List (Nat × List Nat) → Nat → Option Nat → List (List Nat) → Nat × List (List Nat)
  | [], start, _, res => (start, res)
  | (p, c) :: r, start, none, res => if c = [34] then stripY cps r start (some p) res else stripY cps r start none res
  | (p, c) :: r, start, some o, res => if c = [34] then stripY cps r (p + 1) none (if start = o then res else res ++ [(cps.drop start).take (o - start)]) else stripY cps r start (some o) res

inductive Jstrip (x : Str) (t : Tok) (news : List (Addr × Obj)) (R : Addr) (k : Nat) (m' : Str → Option Value) (news' : List (Addr × Obj)) : Prop
  | intro (start : Nat) (op : Option Nat) (res : List (List Nat)) (vs : Array Value) (nn : Nat) (ts : Tok) (h1 : m' (Str.ofString "start") = some (.int (start : Nat) ts)) (h2 : ((op = none ∧ m' (Str.ofString "open_pos") = some .none) ∨ (∃ o to, op = some o ∧ start ≤ o ∧ o < x.cps.size ∧ (∀ q ∈ (escs 0 false x.cps.toList).drop k, o < q.1) ∧ m' (Str.ofString "open_pos") = some (.int (o : Nat) to)))) (h3 : m' (Str.ofString "result") = some (.ref R)) (h4 : m' (Str.ofString "addr") = some (.str x t)) (h5 : news' = (R, listOf vs nn) :: news) (h6 : StrsAre vs.toList (res.map fun l => (⟨l.toArray⟩ : Str))) (h7 : stripY x.cps.toList ((escs 0 false x.cps.toList).drop k) start op res = stripY x.cps.toList (escs 0 false x.cps.toList) 0 none []) (h8 : start ≤ x.cps.size) (h9 : (res.map (·.length)).sum ≤ start) (h10 : res.length ≤ k) (h11 : (∀ q ∈ (escs 0 false x.cps.toList).drop k, start ≤ q.1)) : Jstrip x t news R k m' news'
noncomputable def stripS (cs : List Nat) : List Nat :=
  if 34 ∈ cs then (stripY cs (escs 0 false cs) 0 none []).2.flatten ++ cs.drop (stripY cs (escs 0 false cs) 0 none []).1 else cs

theorem slice_mid {x : Str} {i j : Nat} (h1 : i ≤ j) (h2 : j ≤ x.cps.size) : Txt.slice x (some (i : Int)) (some (j : Int)) = ⟨((x.cps.toList.drop i).take (j - i)).toArray⟩ := by
  have := eq_of_beq (slice_closesL (x := x) (i := i) (j := j) (Int.natCast_nonneg i) (Int.ofNat_le.mpr h1) (Int.ofNat_le.mpr h2))
  rw [this, Int.toNat_natCast, Int.toNat_sub]
theorem slice_end {x : Str} {i : Nat} (h1 : i ≤ x.cps.size) : Txt.slice x (some (i : Int)) none = ⟨(x.cps.toList.drop i).toArray⟩ := by
  rw [slice_from_eq (x := x) (i := i) (b := x.length) (Int.natCast_nonneg i) (Int.ofNat_le.mpr h1) rfl]
  have : ((x.length : Int) - i).toNat = x.cps.toList.length - i := by
    rw [Int.toNat_sub, Array.length_toList]; rfl
  rw [Int.toNat_natCast, this, ← List.length_drop, List.take_length]
theorem size4096 {a b : Nat} (h : a ≤ b) (h2 : b ≤ 4096) : a ≤ sizeLine := by rw [sizeLine_eq]; exact Nat.le_trans (Nat.le_trans h h2) (by decide)
theorem join_sz {a s n r : Nat} (h : a ≤ s) (h1 : s ≤ n) (hn : n ≤ 4096) (hr : r ≤ n) : a + (n - s + 0) + (r + (0 + 1)) ≤ 1048576 := Nat.le_trans (Nat.add_le_add (Nat.le_trans (Nat.add_le_add_right h _) (Nat.le_of_eq (Nat.add_sub_cancel' h1))) (Nat.succ_le_succ hr)) (Nat.le_trans (Nat.add_le_add hn (Nat.succ_le_succ hn)) (by decide))
theorem sum_take {a s o k n p : Nat} (h : a ≤ s) (h1 : s ≤ o) (h2 : o ≤ p) : a + (min (o - s) n + 0) ≤ p := Nat.le_trans (Nat.add_le_add h (Nat.min_le_left _ _)) (Nat.le_trans (Nat.le_of_eq (Nat.add_sub_cancel' h1)) h2)
theorem strsAre_snoc {vs : List Value} {ys : List Str} (h : StrsAre vs ys) (y : Str) (t : Tok) : StrsAre (vs ++ [.str y t]) (ys ++ [y]) := by
  induction h with
  | nil => exact .cons _ _ .nil
  | cons z u _ ih => exact .cons _ _ ih
theorem join_nil (ys : List Str) : Txt.join (Str.ofString "") ys = ⟨(ys.map (·.cps.toList)).flatten.toArray⟩ := by
  show (⟨(ys.drop 1).foldl (fun acc p => acc ++ (Str.ofString "").cps ++ p.cps) (ys.headD Str.empty).cps⟩ : Str) = _
  have e0 : (Str.ofString "").cps = #[] := by decide +kernel
  rw [e0]
  have key : ∀ (l : List Str) (acc : Array Nat), l.foldl (fun acc p => acc ++ #[] ++ p.cps) acc = acc ++ (l.map (·.cps.toList)).flatten.toArray := by
    intro l
    induction l with
    | nil => intro acc; simp
    | cons a r ih => 
      intro acc
      rw [List.foldl_cons, ih]
      apply Array.ext'
      simp
  cases ys with
  | nil => rfl
  | cons a r =>
    show (⟨r.foldl _ a.cps⟩ : Str) = _
    rw [key]; simp
theorem escs_len : ∀ (cs : List Nat) (i : Nat) (e : Bool), (escs i e cs).length ≤ cs.length
  | [], _, e => by cases e <;> simp [escs]
  | c :: r, i, true => by simp only [escs, List.length_cons]; have := escs_len r (i + 1) false; omega
  | c :: r, i, false => by
    simp only [escs]
    split
    · have := escs_len r (i + 1) true; simp only [List.length_cons]; omega
    · have := escs_len r (i + 1) false; simp only [List.length_cons]; omega
theorem escs_pos : ∀ (cs : List Nat) (i : Nat) (e : Bool), ∀ q ∈ escs i e cs, i ≤ q.1 ∧ q.1 < i + cs.length
  | [], _, e, q, h => by cases e <;> simp [escs] at h
  | c :: r, i, true, q, h => by
    simp only [escs, List.mem_cons] at h
    rcases h with rfl | h
    · simp
    · have := escs_pos r (i + 1) false q h; simp only [List.length_cons]; omega
  | c :: r, i, false, q, h => by
    simp only [escs] at h
    split at h
    · have := escs_pos r (i + 1) true q h; simp only [List.length_cons]; omega
    · rcases List.mem_cons.mp h with rfl | h
      · simp
      · have := escs_pos r (i + 1) false q h; simp only [List.length_cons]; omega
theorem escs_sorted : ∀ (cs : List Nat) (i : Nat) (e : Bool), (escs i e cs).Pairwise (fun a b => a.1 < b.1)
  | [], _, e => by cases e <;> simp [escs]
  | c :: r, i, true => by
    simp only [escs, List.pairwise_cons]
    exact ⟨fun q h => by have := escs_pos r (i + 1) false q h; omega, escs_sorted r (i + 1) false⟩
  | c :: r, i, false => by
    simp only [escs]
    split
    · exact escs_sorted r (i + 1) true
    · simp only [List.pairwise_cons]
      exact ⟨fun q h => by have := escs_pos r (i + 1) false q h; omega, escs_sorted r (i + 1) false⟩
theorem escs_rest {cs : List Nat} {k p : Nat} {c : List Nat} (h : (escs 0 false cs)[k]? = some (p, c)) : p < cs.length ∧ ∀ q ∈ (escs 0 false cs).drop (k + 1), p < q.1 := by
  refine ⟨?_, ?_⟩
  · have := escs_pos cs 0 false (p, c) (List.mem_of_getElem? h); simpa using this
  · have h1 := escs_sorted cs 0 false
    have h2 : ((escs 0 false cs).drop k).Pairwise (fun a b => a.1 < b.1) := h1.sublist (List.drop_sublist k _)
    obtain ⟨hk, e⟩ := List.getElem?_eq_some_iff.mp h
    rw [List.drop_eq_getElem_cons hk, e] at h2
    exact (List.pairwise_cons.mp h2).1
theorem strip_drop {all : List (Nat × List Nat)} {k p : Nat} {c : List Nat} (h : all[k]? = some (p, c)) : all.drop k = (p, c) :: all.drop (k + 1) := by
  obtain ⟨hk, e⟩ := List.getElem?_eq_some_iff.mp h
  rw [List.drop_eq_getElem_cons hk, e]

theorem strip_spec {x : Str} {t : Tok}
   (B : Below A₀ base outer h₀) (F : Fr h₀ L s.heap m) (X : (hd.heap_1 w.params).In h₀) (N : News h₀ L s.heap news) 
   (T : Top topProg loose mean mg mb h₀) (hk : cs.kind = .function)  (hdp : dp + 10 < recursionLimit) (hun : un + 100 < cLine)
   (hx : x.length ≤ 4096) (hasc : ∀ c ∈ x.cps.toList, c < 128) (hend : escEnd false x.cps.toList = false)
   (hb : AllBare s.gens)
   (ret : ∀ t' h' tk' gg, Fr h₀ L h' m → News h₀ L h' news → AllBare gg → Q (.str ⟨(stripS x.cps.toList).toArray⟩ t') { s with heap := h', toks := tk', gens := gg }) :
   wpAny (model prog w) (ktrTop dp un gd cn cs L a ccd cl outer) (call (.ref 35) [.str x t]) Q E s := by
  refine wpAny_call ?_
  k_dflt cell_enter
  k_steps
  · rename (Builtin.Str.occurrences x _ 0 x.length 1).isEmpty = true => hocc
    have h1 := StrLaws.found_one x 34
    rw [show Str.ofString "\"" = (⟨#[34]⟩ : Str) from by decide +kernel] at hocc
    rw [hocc] at h1
    have h2 : ¬ 34 ∈ x.cps.toList := of_decide_eq_false h1.symm
    have e : x = ⟨(stripS x.cps.toList).toArray⟩ := by unfold stripS; rw [if_neg h2]
    have := ret t _ tk s.gens (by k_asm) (by k_asm) hb
    rw [← e] at this
    exact this
  rename (Builtin.Str.occurrences x _ 0 x.length 1).isEmpty = false => hocc
  have hin : 34 ∈ x.cps.toList := by
    have h1 := StrLaws.found_one x 34
    rw [show Str.ofString "\"" = (⟨#[34]⟩ : Str) from by decide +kernel] at hocc
    rw [hocc] at h1
    exact of_decide_eq_true h1.symm
  refine Hold.out ?_
  refine wpAny_mono (E := fun _ _ => False) (wpAny_For ?_ (by intro _; rfl)) (fun _ _ x => x) fun _ _ x => x.elim
  k_steps
  refine Hold.out ?_
  rename Fr _ _ _ _ => F1
  rename News _ _ _ _ => N1
  rename Top _ _ _ _ _ _ => T1
  rename Frag.In _ _ => X1
  rename Below _ _ _ _ => B1
  refine iter_spec F1 X1 N1 T1 (by k_dflt ktr_room) hasc hend ?_
  intro h2 C oC oG tk2 gs F2 N2 hlt hLC hz hG hr hbg
  refine wpAny_pyIter_gen (hG _ (N2 _ (.head _)).1) ?_
  try dsimp only
  refine gen_toksC fun tkg => ?_
  refine forLoop_gen rfl (by k_dflt ktr_room) rfl rfl rfl F2 N2 T1.nolimit (Array.getElem?_push_size ..) hG (hr _ rfl) (Nat.lt_succ_self _) (Nat.lt_succ_of_lt (Nat.lt_succ_self _)) (Nat.ne_of_lt (Nat.lt_succ_self _)) (fun p hp => ?_) (Nat.lt_trans hLC (Nat.lt_succ_of_lt (Nat.lt_succ_self _))) (Nat.le_of_eq hz.symm) (hb.push hbg) (Jstrip x t news _)
    ⟨0, none, [], #[], 0, _, rfl, .inl ⟨rfl, rfl⟩, rfl, rfl, rfl, .nil, rfl, Nat.zero_le _, Nat.le_refl _, Nat.le_refl _, fun _ _ => Nat.zero_le _⟩ ?hJ ?turn ?done
  · have := hlt p hp
    exact ⟨Nat.lt_of_lt_of_le this (Nat.le_of_lt (Nat.lt_succ_of_lt (Nat.lt_succ_self _))), Nat.ne_of_lt this, Nat.ne_of_lt (Nat.lt_succ_of_lt this)⟩
  case hJ =>
    rintro k m' news' ⟨_, _, _, _, _, _, _, _, _, _, rfl, _⟩
    rfl
  case turn =>
    intro k p c m' news' own h tk gg t1 t2 hidx hJ hbg' hown F3 N3
    refine gen_Q fun Pf qf => ?_
    obtain ⟨start, op, res, vs, nn, ts, hm1, hm2, hm3, hm4, rfl, hst, hY, hle, hsum, hln, hpos⟩ := hJ
    have hRo := ne_app (a := news) (by assumption) (hown _ (.head _))
    clear F1 N1 F2 N2 
    rw [List.cons_append] at N3
    have hlen : vs.size = res.length := by have := hst.len_eq; simpa using this
    have hkl : k < x.cps.size := by
      have h1 : k < (escs 0 false x.cps.toList).length := (List.getElem?_eq_some_iff.mp hidx).1
      have h2 := escs_len x.cps.toList 0 false
      rw [Array.length_toList] at h2; exact Nat.lt_of_lt_of_le h1 h2
    have hxl : x.cps.size ≤ 4096 := hx
    have hvs : vs.size ≤ sizeLine := hlen ▸ size4096 (Nat.le_trans hln (Nat.le_of_lt hkl)) hxl
    have hd := strip_drop hidx
    obtain ⟨hp1, hp2⟩ := escs_rest hidx
    rw [Array.length_toList] at hp1
    have hp3 : start ≤ p := hpos (p, c) (by rw [hd]; exact .head _)
    have hp4 : ∀ q ∈ (escs 0 false x.cps.toList).drop (k + 1), start ≤ q.1 := fun q hq => hpos q (by rw [hd]; exact .tail _ hq)
    have hq : (⟨c.toArray⟩ == Str.ofString "\"") = decide (c = [34]) := by
      have e1 : Str.ofString "\"" = ⟨#[34]⟩ := by decide +kernel
      rw [e1]
      by_cases h : c = [34]
      · subst h; simp
      · rw [decide_eq_false h]
        refine beq_eq_false_iff_ne.mpr fun h' => h ?_
        have := congrArg (fun s : Str => s.cps.toList) h'
        simpa using this
    rw [hd] at hY
    by_cases hc : c = [34]
    · have hq1 : (⟨c.toArray⟩ == Str.ofString "\"") = true := by rw [hq, decide_eq_true hc]
      rcases hm2 with ⟨rfl, hm2⟩ | ⟨o, to, rfl, hso, hol, hop, hm2⟩
      · rw [loc4 hm1 hm2 hm3 hm4 (fun y _ _ _ _ => rfl)] at F3
        simp only [stripY, if_pos hc] at hY
        k_steps
        rename Fr _ _ _ _ => F4
        rename News _ _ _ _ => N4
        refine qf _ _ (GEnd.mk (_ :: news) F4 N4 ?_)
        exact ⟨start, some p, res, vs, nn, _, rfl, .inr ⟨p, _, rfl, hp3, hp1, hp2, rfl⟩, rfl, rfl, rfl, hst, hY, hle, hsum, Nat.le_succ_of_le hln, hp4⟩
      · have hop3 : o < p := hop (p, c) (by rw [hd]; exact .head _)
        rw [loc4 hm1 hm2 hm3 hm4 (fun y _ _ _ _ => rfl)] at F3
        simp only [stripY, if_pos hc] at hY
        by_cases hso' : start = o
        · rw [if_pos hso'] at hY
          have hbn : ((start : Int) != (o : Int)) = false := by simp [hso']
          k_steps
          rename Fr _ _ _ _ => F4
          rename News _ _ _ _ => N4
          refine qf _ _ (GEnd.mk (_ :: news) F4 N4 ?_)
          exact ⟨p + 1, none, res, vs, nn, _, rfl, .inl ⟨rfl, rfl⟩, rfl, rfl, rfl, hst, hY, hp1, Nat.le_trans hsum (Nat.le_succ_of_le hp3), Nat.le_succ_of_le hln, fun q hq => hp2 q hq⟩
        · rw [if_neg hso'] at hY
          have hbn : ((start : Int) != (o : Int)) = true := by
            rw [bne_iff_ne]; exact fun e => hso' (Int.ofNat_inj.mp e)
          k_steps
          rename Fr _ _ _ _ => F4
          rename News _ _ _ _ => N4
          refine qf _ _ (GEnd.mk (_ :: news) F4 N4 ?_)
          refine ⟨p + 1, none, res ++ [(x.cps.toList.drop start).take (o - start)], _, _, _, rfl, .inl ⟨rfl, rfl⟩, rfl, rfl, rfl, ?_, hY, hp1, ?_, ?_, fun q hq => hp2 q hq⟩
          · rw [slice_mid hso (Nat.le_of_lt hol), Array.toList_push, List.map_append]
            exact strsAre_snoc hst _ _
          · rw [List.map_append, List.sum_append]
            simp only [List.map_cons, List.map_nil, List.sum_cons, List.sum_nil, List.length_take, List.length_drop]
            exact sum_take (k := 0) hsum hso (Nat.le_succ_of_le (Nat.le_of_lt hop3))
          · rw [List.length_append]; exact Nat.succ_le_succ hln
    · have hq1 : (⟨c.toArray⟩ == Str.ofString "\"") = false := by rw [hq, decide_eq_false hc]
      have hY2 : stripY x.cps.toList ((escs 0 false x.cps.toList).drop (k + 1)) start op res = stripY x.cps.toList (escs 0 false x.cps.toList) 0 none [] := by
        cases op <;> simpa only [stripY, if_neg hc] using hY
      k_steps
      rename Fr _ _ _ _ => F4
      rename News _ _ _ _ => N4
      refine qf _ _ (GEnd.mk (_ :: news) F4 N4 ?_)
      refine ⟨start, op, res, vs, nn, ts, hm1, ?_, hm3, hm4, rfl, hst, hY2, hle, hsum, Nat.le_succ_of_le hln, hp4⟩
      rcases hm2 with ⟨rfl, hm2⟩ | ⟨o, to, rfl, hso, hol, hop, hm2⟩
      · exact .inl ⟨rfl, hm2⟩
      · exact .inr ⟨o, to, rfl, hso, hol, fun q hq => hop q (by rw [hd]; exact .tail _ hq), hm2⟩
  case done => 
    intro m' news' h tk gg hJ hbg' F3 N3
    obtain ⟨start, op, res, vs, nn, ts, hm1, hm2, hm3, hm4, rfl, hst, hY, hle, hsum, hln, hpos⟩ := hJ
    clear F1 N1 F2 N2 
    have hlen : vs.size = res.length := by have := hst.len_eq; simpa using this
    have hkl : (escs 0 false x.cps.toList).length ≤ x.cps.size := by
      have h2 := escs_len x.cps.toList 0 false
      rwa [Array.length_toList] at h2
    have hxl : x.cps.size ≤ 4096 := hx
    have hvs : vs.size ≤ sizeLine := hlen ▸ size4096 (Nat.le_trans hln hkl) hxl
    rw [List.drop_length] at hY
    have hY' : stripY x.cps.toList (escs 0 false x.cps.toList) 0 none [] = (start, res) := by rw [← hY]; cases op <;> rfl
    have hS : stripS x.cps.toList = res.flatten ++ x.cps.toList.drop start := by
      unfold stripS; rw [if_pos hin, hY']
    have hfl : ∀ l : List (List Nat), ((l.map fun l => (⟨l.toArray⟩ : Str)).map (·.cps.toList)).flatten = l.flatten := fun l => by simp [Function.comp_def]
    have hsm : ∀ l : List (List Nat), ((l.map fun l => (⟨l.toArray⟩ : Str)).map (·.length)).sum = (l.map (·.length)).sum := fun l => by
      rw [List.map_map]; rfl
    rw [loc3 hm1 hm3 hm4 (fun y _ _ _ => rfl)] at F3
    dsimp only
    k_steps
    · refine Hold.out (join_listW (ys := (res ++ [x.cps.toList.drop start]).map fun l => (⟨l.toArray⟩ : Str)) (News.isList (by k_asm) (.head _)) ?_ (by decide +kernel) ?_ fun t' tk' => ?_)
      · rw [slice_end hle, Array.toList_push, List.map_append]
        exact strsAre_snoc hst _ _
      · rw [hsm, List.map_append, List.sum_append, List.length_map, List.length_append]
        simp only [List.map_cons, List.map_nil, List.sum_cons, List.sum_nil, List.length_drop, List.length_cons, List.length_nil, Array.length_toList]
        exact join_sz hsum hle hxl (Nat.le_trans hln hkl)
      · rw [join_nil, hfl]
        k_steps
        have e : (res ++ [x.cps.toList.drop start]).flatten = stripS x.cps.toList := by rw [hS]; simp
        rw [e]
        exact ret _ _ _ _ (by k_asm) (fun p hp => ‹News h₀ L _ _› p (.tail _ hp)) hbg'
    · rename ¬ (start : Int) < (x.length : Nat) => hge
      have hge' : start = x.cps.size := by
        have : ¬ (start : Int) < (x.cps.size : Nat) := hge
        exact Nat.le_antisymm hle (Int.ofNat_le.mp (Int.not_lt.mp this))
      refine Hold.out (join_listW (ys := res.map fun l => (⟨l.toArray⟩ : Str)) (News.isList (by k_asm) (.head _)) hst (by decide +kernel) ?_ fun t' tk' => ?_)
      · rw [hsm, List.length_map]; exact Nat.le_trans (Nat.add_le_add (Nat.le_trans hsum (Nat.le_trans hle hxl)) (Nat.le_trans hln (Nat.le_trans hkl hxl))) (by decide)
      · rw [join_nil, hfl]
        k_steps
        have e : res.flatten = stripS x.cps.toList := by rw [hS, hge']; simp
        rw [e]
        exact ret _ _ _ _ (by k_asm) (fun p hp => ‹News h₀ L _ _› p (.tail _ hp)) hbg'
end
section
variable {prog : Program} {w : World} {loose : List Str} {mean : ExcName → Option Value} {mg mb : Str → Option Value} {dp un : Nat} {gd : Option (List Code)} {cn : Str} {cs : Scope} {a : Addr} {ccd : Value} {cl : List (Str × Addr)} {outer : List Env} {A₀ : Around} {base h₀ : Heap} {L : Addr} {m : Str → Option Value} {news : List (Addr × Obj)} {s : Shared} {Q E : Value → Shared → Prop}
noncomputable def chkY : Int → List (Nat × List Nat) → Bool
  | o, [] => o == 0
  | o, (_, c) :: r => if c = [40] then chkY (o + 1) r else if c = [41] then (if o - 1 < 0 then false else chkY (o - 1) r) else chkY o r

noncomputable def Jchk (y : Str) (t : Tok) (news : List (Addr × Obj)) (k : Nat) (m' : Str → Option Value) (news' : List (Addr × Obj)) : Prop :=
  ∃ (o : Int) (to : Tok), m' (Str.ofString "opens") = some (.int o to) ∧ news' = news ∧ chkY o ((escs 0 false y.cps.toList).drop k) = chkY 0 (escs 0 false y.cps.toList)

theorem check_spec {x : Str} {t : Tok}
   (B : Below A₀ base outer h₀) (F : Fr h₀ L s.heap m) (X : (hd.heap_1 w.params).In h₀) (N : News h₀ L s.heap news) 
   (T : Top topProg loose mean mg mb h₀) (hk : cs.kind = .function)  (hdp : dp + 20 < recursionLimit) (hun : un + 200 < cLine)
   (hx : x.length ≤ 4096) (hasc : ∀ c ∈ x.cps.toList, c < 128) (hend : escEnd false x.cps.toList = false)
   (hx2 : (stripS x.cps.toList).length ≤ 4096) (hasc2 : ∀ c ∈ stripS x.cps.toList, c < 128) (hend2 : escEnd false (stripS x.cps.toList) = false)
   (hb : AllBare s.gens)
   (ret : ∀ h' tk' gg, Fr h₀ L h' m → News h₀ L h' news → AllBare gg → Q (.bool (chkY 0 (escs 0 false (stripS x.cps.toList)))) { s with heap := h', toks := tk', gens := gg }) :
   wpAny (model prog w) (ktrTop dp un gd cn cs L a ccd cl outer) (call (.ref 42) [.str x t]) Q E s := by
  refine wpAny_call ?_
  k_dflt cell_enter
  refine gen_Q fun Pz pz => ?_
  k_steps
  refine Hold.out ?_
  try dsimp only
  refine gen_toks fun tkh => ?_
  k_dflt (refine' strip_spec ?B ?F ?X ?N ?T ?hk ?hdp ?hun hx hasc hend hb ?ret)
  case B => k_asm
  case F => k_asm
  case X => k_asm
  case N => k_asm
  case T => k_asm
  case hk => exact rfl
  case hdp => exact room1 (k := 1) (b := 10) hdp (Nat.le_of_ble_eq_true rfl)
  case hun => exact room1 (k := 3) (b := 100) hun (Nat.le_of_ble_eq_true rfl)
  intro t' h' tk' gg F' N' hbg
  k_steps
  refine Hold.out ?_
  try dsimp only
  refine gen_toks fun tkh => ?_
  refine wpAny_mono (E := fun _ _ => False) (wpAny_For ?_ (by intro _; rfl)) (fun _ _ x => x) fun _ _ x => x.elim
  k_steps
  refine Hold.out ?_
  try dsimp only
  refine gen_toks fun tkh => ?_
  rename Fr _ _ _ _ => F1
  rename News _ _ _ _ => N1
  rename Top _ _ _ _ _ _ => T1
  rename Frag.In _ _ => X1
  rename Below _ _ _ _ => B1
  refine iter_spec F1 X1 N1 T1 (by k_dflt ktr_room) (by simpa using hasc2) (by simpa using hend2) ?_
  intro h2 C oC oG tk2 gs F2 N2 hlt hLC hz hG hr hbg2
  refine wpAny_pyIter_gen (hG _ (N2 _ (.head _)).1) ?_
  try dsimp only
  refine gen_toksC fun tkg => ?_
  refine forLoop_gen rfl (by k_dflt ktr_room) rfl rfl rfl F2 N2 T1.nolimit (Array.getElem?_push_size ..) hG (hr _ rfl) (Nat.lt_succ_self _) (Nat.lt_succ_of_lt (Nat.lt_succ_self _)) (Nat.ne_of_lt (Nat.lt_succ_self _)) (fun p hp => ?_) (Nat.lt_trans hLC (Nat.lt_succ_of_lt (Nat.lt_succ_self _))) (Nat.le_of_eq hz.symm) (hbg.push hbg2) (Jchk ⟨(stripS x.cps.toList).toArray⟩ 0 news)
    ⟨0, _, rfl, rfl, rfl⟩ ?hJ ?turn ?done
  · have := hlt p hp
    exact ⟨Nat.lt_of_lt_of_le this (Nat.le_of_lt (Nat.lt_succ_of_lt (Nat.lt_succ_self _))), Nat.ne_of_lt this, Nat.ne_of_lt (Nat.lt_succ_of_lt this)⟩
  case hJ =>
    rintro k m' news' ⟨_, _, _, rfl, _⟩
    rfl
  case turn =>
    intro k p c m' news' own h tk gg t1 t2 hidx hJ hbg' hown F3 N3
    refine gen_Q fun Pf qf => ?_
    obtain ⟨o, to, hm1, rfl, hY⟩ := hJ
    clear F1 N1 F2 N2 
    rw [strip_drop hidx] at hY
    have hq : ∀ d : Nat, (⟨c.toArray⟩ == (⟨#[d]⟩ : Str)) = decide (c = [d]) := fun d => by
      by_cases h : c = [d]
      · subst h; simp
      · rw [decide_eq_false h]
        refine beq_eq_false_iff_ne.mpr fun h' => h ?_
        have := congrArg (fun s : Str => s.cps.toList) h'
        simpa using this
    have hqo : (⟨c.toArray⟩ == Str.ofString "(") = decide (c = [40]) := by
      rw [show Str.ofString "(" = (⟨#[40]⟩ : Str) from by decide +kernel]; exact hq 40
    have hqc : (⟨c.toArray⟩ == Str.ofString ")") = decide (c = [41]) := by
      rw [show Str.ofString ")" = (⟨#[41]⟩ : Str) from by decide +kernel]; exact hq 41
    rw [loc1 hm1 (fun y _ => rfl)] at F3
    by_cases h40 : c = [40]
    · have hq1 : (⟨c.toArray⟩ == Str.ofString "(") = true := by rw [hqo, decide_eq_true h40]
      simp only [chkY, if_pos h40] at hY
      k_steps
      rename Fr _ _ _ _ => F4
      rename News _ _ _ _ => N4
      exact qf _ _ (GEnd.mk _ F4 N4 ⟨o + 1, _, rfl, rfl, hY⟩)
    · have hq1 : (⟨c.toArray⟩ == Str.ofString "(") = false := by rw [hqo, decide_eq_false h40]
      by_cases h41 : c = [41]
      · have hq2 : (⟨c.toArray⟩ == Str.ofString ")") = true := by rw [hqc, decide_eq_true h41]
        simp only [chkY, if_neg h40, if_pos h41] at hY
        by_cases hneg : o - 1 < 0
        · rw [if_pos hneg] at hY
          k_steps
          refine qf _ _ ?_
          refine pz _ _ ?_
          k_steps
          rw [hY]
          exact ret _ _ _ (by k_asm) (fun p hp => ‹News h₀ L _ _› p (List.mem_append_left _ hp)) hbg'
        · rw [if_neg hneg] at hY
          k_steps
          rename Fr _ _ _ _ => F4
          rename News _ _ _ (_ ++ own) => N4
          exact qf _ _ (GEnd.mk _ F4 N4 ⟨o - 1, _, rfl, rfl, hY⟩)
      · have hq2 : (⟨c.toArray⟩ == Str.ofString ")") = false := by rw [hqc, decide_eq_false h41]
        simp only [chkY, if_neg h40, if_neg h41] at hY
        k_steps
        exact qf _ _ (GEnd.mk _ F3 N3 ⟨o, to, rfl, rfl, hY⟩)
  case done =>
    intro m' news' h tk gg hJ hbg' F3 N3
    obtain ⟨o, to, hm1, rfl, hY⟩ := hJ
    clear F1 N1 F2 N2 
    rw [List.drop_length] at hY
    rw [loc1 hm1 (fun y _ => rfl)] at F3
    dsimp only
    k_steps
    refine pz _ _ ?_
    k_steps
    have e : (o == 0) = chkY 0 (escs 0 false (stripS x.cps.toList)) := hY
    rw [e]
    exact ret _ _ _ (by k_asm) (by k_asm) hbg'
end
section
variable {prog : Program} {w : World} {loose : List Str} {mean : ExcName → Option Value} {mg mb : Str → Option Value} {dp un : Nat} {gd : Option (List Code)} {cn : Str} {cs : Scope} {a : Addr} {ccd : Value} {cl : List (Str × Addr)} {outer : List Env} {A₀ : Around} {base h₀ : Heap} {L : Addr} {m : Str → Option Value} {news : List (Addr × Obj)} {s : Shared} {Q E : Value → Shared → Prop}
/-- what a later call of the stream's `read` with 1 does -/
noncomputable def ReadOk (prog : Program) (w : World) (loose : List Str) (mean : ExcName → Option Value) (mg mb : Str → Option Value) (x : Str) (f l : Addr) (own : List (Addr × Obj)) : Prop :=
  ∀ {dp un : Nat} {gd : Option (List Code)} {cn : Str} {cs : Scope} {a : Addr} {ccd : Value} {cl : List (Str × Addr)} {outer : List Env} {A₀ : Around} {base h₀ : Heap} {L : Addr} {m : Str → Option Value} {news : List (Addr × Obj)} {s : Shared} {Q E : Value → Shared → Prop} {t ti : Tok} {o : Obj} {i : Nat} {g : Obj → List (Addr × Obj)},
   (B : Below A₀ base outer h₀) → (F : Fr h₀ L s.heap m) → (X : (hd.heap_1 w.params).In h₀) → (N : News h₀ L s.heap news) → (hown : ∀ p ∈ own, p ∈ news) → (U : UpdF l o news g) → (ho : o = W.listOf #[.int i ti] 0) →
   (T : Top topProg loose mean mg mb h₀) → (hk : cs.kind = .function) → (hdp : dp + 20 < recursionLimit) → (hun : un + 200 < cLine) →
   (hx : x.length ≤ 4096) → (i ≤ x.length) →
   (ret : ∀ h' tk' t' t2 (j : Int), j = ((i + ((x.cps.toList.drop i).take 1).length : Nat) : Int) → Fr h₀ L h' m → News h₀ L h' (g (W.listOf #[.int j t2] 0)) → Q (.str ⟨((x.cps.toList.drop i).take 1).toArray⟩ t') { s with heap := h', toks := tk' }) →
   wpAny (model prog w) (ktrTop dp un gd cn cs L a ccd cl outer) (call (.ref f) [.int 1 t]) Q E s

open PySem.Builtin.Str in
theorem slice_one {x : PySem.Str} {i : Nat} (h : i ≤ x.cps.size) : Txt.slice x (some (i : Int)) (some ((i : Int) + 1)) = ⟨((x.cps.toList.drop i).take 1).toArray⟩ := by
  rcases Nat.lt_or_eq_of_le h with hi | hs
  · have := slice_mid (x := x) (i := i) (j := i + 1) (Nat.le_succ i) hi
    rw [Nat.add_sub_cancel_left] at this
    exact this
  · subst hs
    have h0 : (x.cps.toList.drop x.cps.size).take 1 = [] := by rw [← Array.length_toList, List.drop_length, List.take_nil]
    rw [h0]
    unfold Txt.slice
    have h1 : strSliceIndices (some (x.cps.size : Int)) (some ((x.cps.size : Int) + 1)) 1 x.length = [] := by
      have h2 : x.length = x.cps.size := rfl
      rw [h2]
      unfold strSliceIndices sliceRange
      have n1 : ¬ (x.cps.size : Int) < 0 := Int.not_lt.mpr (Int.natCast_nonneg _)
      have n2 : ¬ (x.cps.size : Int) + 1 < 0 := Int.not_lt.mpr (Int.natCast_nonneg (x.cps.size + 1))
      have n3 : min ((x.cps.size : Int) + 1) x.cps.size = x.cps.size := Int.min_eq_right (Int.le_of_lt (Int.lt_succ _))
      simp only [show (1 : Int) > 0 by decide, if_true]
      apply List.eq_nil_of_length_eq_zero
      simp only [List.length_map, List.length_range, if_neg n1, if_neg n2, n3]
      simp
    rw [h1]
    split
    · next h =>
      simp only [beq_self_eq_true, Bool.true_and, List.length_nil, beq_iff_eq] at h
      have : x.cps.size = 0 := h.symm
      have := Array.eq_empty_of_size_eq_zero this
      cases x
      simp_all
    · rfl
theorem upd_mem {d : Addr} {o : Obj} {l : List (Addr × Obj)} {g : Obj → List (Addr × Obj)} (U : UpdF d o l g) : (d, o) ∈ l := by
  obtain ⟨pre, post, rfl, _⟩ := U.split
  exact List.mem_append_right _ (.head _)
theorem news_pull {h₀ h : Heap} {L : Addr} {a1 a2 a3 a4 a5 a6 a7 a8 a9 : Addr × Obj} {news : List (Addr × Obj)} (N : News h₀ L h (a1 :: a2 :: a3 :: a4 :: a5 :: a6 :: a7 :: a8 :: a9 :: news)) :
    News h₀ L h (a6 :: ([a1, a2, a3, a4, a5, a7, a8, a9] ++ news)) := fun p hp => N p (by
  simp only [List.mem_cons, List.mem_append, List.not_mem_nil, or_false] at hp ⊢
  rcases hp with h | (h | h | h | h | h | h | h | h) | h <;> simp [h])

theorem stream_spec {x : Str} {t : Tok}
   (B : Below A₀ base outer h₀) (F : Fr h₀ L s.heap m) (X : (hd.heap_1 w.params).In h₀) (N : News h₀ L s.heap ((110, tabObj #[]) :: news)) (hC : CodeHd base 114 110) (hne : ∀ p ∈ news, p.1 ≠ 110) 
   (T : Top topProg loose mean mg mb h₀) (hk : cs.kind = .function)  (hdp : dp + 20 < recursionLimit) (hun : un + 200 < cLine)
   (hx : x.length ≤ 4096)
   (ret : ∀ h' tk' D od f1 fd1 f2 l ti own, Fr h₀ L h' m → News h₀ L h' ((l, W.listOf #[.int 0 ti] 0) :: (own ++ news)) → FnDict od "read" (.ref f2) → (D, od) ∈ own → (f1, ({ cls := .type "function", dict := some D, data := .func fd1 } : Obj)) ∈ own →
     ReadOk prog w loose mean mg mb x f2 l own → (∃ oc od fd sl, (f2, (⟨oc, od, .func fd, sl⟩ : Obj)) ∈ own) → (∀ p ∈ own, p.1 = 110 ∨ ∀ q ∈ news, q.1 < p.1) → (∀ p ∈ own, p.1 ≠ l) → (∀ q ∈ news, q.1 < l) → (∃ ps, (110, tabObj ps) ∈ own) → Q (.ref f1) { s with heap := h', toks := tk' }) :
   wpAny (model prog w) (ktrTop dp un gd cn cs L a ccd cl outer) (call (.ref 115) [.str x t]) Q E s := by
  refine wpAny_call ?_
  k_dflt (refine' code_defC ?k1 ?k2 ?k3 ?k4 ?k5 ?kA ?kF ?kK ?k6 ?k7 ?k8 ?k9 ?kB ?kD ?_ ?c2 ?c3 ?c4; (case kA => exact rfl); (case kF => exact rfl); (case kK => assumption); (case k1 => k_asm); (case k2 => k_asm); (case k3 => k_asm); (case k4 => k_asm); (case k5 => k_asm); (case k6 => k_is); (case k7 => k_is); (case k8 => ktr_room); (case k9 => exact BindsTo.of_eq rfl); (case kB => exact rfl); (case kD => decide +kernel); (case c2 => exact rfl); (case c3 => exact rfl); (case c4 => exact rfl); k_whole; intro g' L' h' tk' cells' FG' F' N' Y' B' X' T' l1; k_cells Y'; (try simp only [List.cons_append, List.nil_append] at N'); (try dsimp only); (try k_fold))
  have l1n : ∀ p ∈ news, p.1 < L' := fun p hp => l1 p (.tail _ hp)
  k_lt l1
  k_steps
  rename Fr _ _ _ _ => F1
  rename News _ _ _ _ => N1
  refine setAttr_fn F1 N1 (UpdF.head ?_) ?_
  case refine_1 => first | k_all | done
  intro h5 D od tk5 F5 N5 hD hod
  have hfD := ltN (hD _ (.head _))
  dsimp only at hfD
  k_steps
  rename News _ _ (Shared.heap _) _ => N6
  rename Fr _ _ (Shared.heap _) _ => F6
  refine ret _ _ D od _ _ _ _ _ _ F6 (news_pull N6) hod (.head _) (.tail _ (.head _)) ?read ⟨_, _, _, _, .tail _ (.tail _ (.tail _ (.head _)))⟩ ?h1 ?h2 ?h3 ⟨_, .tail _ (.tail _ (.tail _ (.tail _ (.tail _ (.tail _ (.tail _ (.head _)))))))⟩
  case h1 =>
    intro p hp
    simp only [List.mem_cons, List.not_mem_nil, or_false] at hp
    rcases hp with rfl | rfl | rfl | rfl | rfl | rfl | rfl | rfl <;> first | exact .inl rfl | exact .inr fun q hq => Nat.lt_trans (l1n q hq) (by (try dsimp only); omega)
  case h2 => 
    intro p hp
    simp only [List.mem_cons, List.not_mem_nil, or_false] at hp
    rcases hp with rfl | rfl | rfl | rfl | rfl | rfl | rfl | rfl <;> k_ne
  case h3 => exact fun q hq => Nat.lt_trans (l1n q hq) (by (try dsimp only); omega)
  case read =>
    intro dp un gd cn cs a ccd cl outer A₀ base h₀ L m news s Q E t ti o i g B F X N hown U ho T hk hdp hun hx hi ret
    have mf := hown _ (.tail _ (.tail _ (.tail _ (.head _))))
    have mc := hown _ (.tail _ (.tail _ (.tail _ (.tail _ (.head _)))))
    have ma := hown _ (.tail _ (.tail _ (.tail _ (.tail _ (.tail _ (.head _))))))
    have mt := hown _ (.tail _ (.tail _ (.tail _ (.tail _ (.tail _ (.tail _ (.head _)))))))
    clear F6 N6 F5 N5 hod hD
    subst ho
    have ml := upd_mem U
    refine wpAny_call ?_
    k_dflt (refine' code_nest ?k1 ?k2 ?k3 ?k4 ?k5 ?kA ?kF ?kK ?k6 ?k7 ?k8 ?k9 ?kB ?_ ?c2 ?c3 ?c4 ?c5; (case kA => exact rfl); (case kF => exact rfl); (case kK => assumption); (case k1 => k_asm); (case k2 => k_asm); (case k3 => k_asm); (case k4 => k_asm); (case k5 => k_asm); (case k6 => k_mem); (case k7 => exact codeRec_news (by k_asm) (by k_mem) (by assumption) (by assumption)); (case k8 => k_room); (case k9 => exact BindsTo.of_eq rfl); (case c5 => decide); (case kB => exact locs rfl); (case c2 => exact rfl); (case c3 => exact rfl); (case c4 => exact rfl); k_whole; intro g' L' h' FG' F' N' B' X' T'; (try dsimp only); (try k_lift B'); (try k_fold))
    k_steps
    have e := slice_one (x := x) (i := i) hi
    rw [e]
    refine ret _ _ _ _ _ ?_ (by k_asm) (by assumption)
    rw [e]
    simp [Str.length]
end
section
variable {prog : Program} {w : World} {loose : List Str} {mean : ExcName → Option Value} {mg mb : Str → Option Value} {dp un : Nat} {gd : Option (List Code)} {cn : Str} {cs : Scope} {a : Addr} {ccd : Value} {cl : List (Str × Addr)} {outer : List Env} {A₀ : Around} {base h₀ : Heap} {L : Addr} {m : Str → Option Value} {news : List (Addr × Obj)} {s : Shared} {Q E : Value → Shared → Prop}
inductive LexD (w : World) (o : Obj) (ln : Int) (f1 p : Addr) : Prop
  | intro (k1 k2 k3 k4 t1 t2 : Tok) (h1 : o = dictOf [⟨PyData.keyHash w.params "lineno", .str "lineno" k1, .int ln t1⟩, ⟨PyData.keyHash w.params "instream", .str "instream" k2, .ref f1⟩, ⟨PyData.keyHash w.params "whitespace", .str "whitespace" k3, .str "\n\t\r " t2⟩, ⟨PyData.keyHash w.params "pushback", .str "pushback" k4, .ref p⟩] 4) : LexD w o ln f1 p
structure LexFix (prog : Program) (w : World) (loose : List Str) (mean : ExcName → Option Value) (mg mb : Str → Option Value) (text : Str) (x d l p f1 : Addr) (rest : List (Addr × Obj)) : Prop where
  inst : (x, instObj 87 d) ∈ rest
  strm : ∃ D oD f2 fd1 own, FnDict oD "read" (.ref f2) ∧ (D, oD) ∈ rest ∧ (f1, ({ cls := .type "function", dict := some D, data := .func fd1 } : Obj)) ∈ rest ∧ (∀ q ∈ own, q ∈ rest) ∧ ReadOk prog w loose mean mg mb text f2 l own ∧ (∃ oc od fd sl, (f2, (⟨oc, od, .func fd, sl⟩ : Obj)) ∈ rest)
  nd : ∀ q ∈ rest, q.1 ≠ d
  nl : ∀ q ∈ rest, q.1 ≠ l
  dl : l ≠ d
  len : text.length ≤ 4096

theorem news_rot3 {h₀ h : Heap} {L : Addr} {a b c : Addr × Obj} {news : List (Addr × Obj)} (N : News h₀ L h (a :: b :: c :: news)) : News h₀ L h (c :: a :: b :: news) := fun p hp => N p (by
  simp only [List.mem_cons] at hp ⊢
  rcases hp with h | h | h | h <;> simp [h])
theorem make_spec {f1 : Addr} 
   (B : Below A₀ base outer h₀) (F : Fr h₀ L s.heap m) (X : (hd.heap_1 w.params).In h₀) (N : News h₀ L s.heap news)
   (T : Top topProg loose mean mg mb h₀) (hk : cs.kind = .function)  (hdp : dp + 20 < recursionLimit) (hun : un + 200 < cLine)
   (ret : ∀ h' tk' x d p o, Fr h₀ L h' m → News h₀ L h' ((d, o) :: (p, W.listOf #[] 0) :: (x, instObj 87 d) :: news) → LexD w o 1 f1 p → (∀ q ∈ news, q.1 < d) → @LT.lt Nat _ d x → @LT.lt Nat _ x p → Q (.ref x) { s with heap := h', toks := tk' }) :
   wpAny (model prog w) (ktrTop dp un gd cn cs L a ccd cl outer) (call (.ref 87) [.ref f1]) Q E s := by
  k_dflt (refine' call_cls ?k1 ?k2 ?k3 ?k4 ?k5 ?k6 ?_; (case k1 => k_asm); (case k2 => k_asm); (case k3 => k_asm); (case k4 => k_is); (case k5 => k_is); (case k6 => k_is); k_whole; intro x' d' h' F' N' l1 l2; (try k_lt l1); (try k_lt2 l2); (try k_sweep))
  k_dflt (refine' code_def ?k1 ?k2 ?k3 ?k4 ?k5 ?kA ?kF ?kK ?k6 ?k7 ?k8 ?k9 ?kB ?_ ?c2 ?c3 ?c4 ?c5; (case kA => exact rfl); (case kF => exact rfl); (case kK => assumption); (case k1 => k_asm); (case k2 => k_asm); (case k3 => k_asm); (case k4 => k_asm); (case k5 => k_asm); (case k6 => k_is); (case k7 => k_is); (case k8 => k_room); (case k9 => first | exact BindsTo.of_eq rfl | exact binds_K (by k_in) rfl (by k_is) rfl rfl rfl); (case c5 => decide); (case kB => exact locs rfl); (case c2 => exact rfl); (case c3 => exact rfl); (case c4 => exact rfl); k_whole; intro g' L' h' FG' F' N' B' X' T'; (try dsimp only); (try k_lift B'); (try k_fold))
  k_steps
  rename News _ _ (Shared.heap _) _ => N6
  rename _ ∧ _ => hlt
  refine ret _ _ _ _ _ _ (by k_asm) (news_rot3 N6) ⟨_, _, _, _, _, _, rfl⟩ l1 (ltN l2) (ltN hlt.1)
end
section
variable {prog : Program} {w : World} {loose : List Str} {mean : ExcName → Option Value} {mg mb : Str → Option Value} {dp un : Nat} {gd : Option (List Code)} {cn : Str} {cs : Scope} {a : Addr} {ccd : Value} {cl : List (Str × Addr)} {outer : List Env} {A₀ : Around} {base h₀ : Heap} {L : Addr} {m : Str → Option Value} {news : List (Addr × Obj)} {s : Shared} {Q E : Value → Shared → Prop}
theorem rc_spec {R : Result → Shared → Prop} {text : Str} {x d l p f1 : Addr} {od ol : Obj} {rest : List (Addr × Obj)} {ln : Int} {i : Nat} {ti : Tok}
   (B : Below A₀ base outer h₀) (F : Fr h₀ L s.heap m) (X : (hd.heap_1 w.params).In h₀) (N : News h₀ L s.heap ((d, od) :: (l, ol) :: rest))
   (T : Top topProg loose mean mg mb h₀) (hk : cs.kind = .function)  (hdp : dp + 30 < recursionLimit) (hun : un + 300 < cLine)
   (Z : LexFix prog w loose mean mg mb text x d l p f1 rest) (hod : LexD w od ln f1 p) (hol : ol = W.listOf #[.int i ti] 0) (hi : i ≤ text.length)
   (ret : ∀ h' tk' t' od' ol' ln' t2, Fr h₀ L h' m → News h₀ L h' ((d, od') :: (l, ol') :: rest) → LexD w od' ln' f1 p → ol' = W.listOf #[.int ((i + ((text.cps.toList.drop i).take 1).length : Nat) : Int) t2] 0 → R (.ok (.ret (.str ⟨((text.cps.toList.drop i).take 1).toArray⟩ t'))) { s with heap := h', toks := tk' }) :
   codeAny (model prog w) (ktrTop dp un gd cn cs L a ccd cl outer) (.call (.ref 70) ⟨[.ref x], []⟩) R s := by
  obtain ⟨k1, k2, k3, k4, t1, t2, rfl⟩ := hod
  subst hol
  obtain ⟨hinst, ⟨D, oD, f2, fd1, own, hoD, mD, mf, hown, hR, oc2, od2, fd2, sl2, mf2⟩, hnd, hnl, hdl, hlen⟩ := Z
  k_dflt (refine' code_def ?k1 ?k2 ?k3 ?k4 ?k5 ?kA ?kF ?kK ?k6 ?k7 ?k8 ?k9 ?kB ?_ ?c2 ?c3 ?c4 ?c5; (case kA => exact rfl); (case kF => exact rfl); (case kK => assumption); (case k1 => k_asm); (case k2 => k_asm); (case k3 => k_asm); (case k4 => k_asm); (case k5 => k_asm); (case k6 => k_is); (case k7 => k_is); (case k8 => k_room); (case k9 => first | exact BindsTo.of_eq rfl | exact binds_K (by k_in) rfl (by k_is) rfl rfl rfl); (case c5 => decide); (case kB => exact locs rfl); (case c2 => exact rfl); (case c3 => exact rfl); (case c4 => exact rfl); k_whole; intro g' L' h' FG' F' N' B' X' T'; (try dsimp only); (try k_lift B'); (try k_fold))
  k_steps
  rename Fr _ _ _ _ => F1
  rename News _ _ _ _ => N1
  refine getMethod_fn (N1 _ (.tail _ (.tail _ mf))).1 (N1 _ (.tail _ (.tail _ mD))).1 hoD rfl ?_
  k_steps
  have hdl := neN hdl
  k_dflt (refine' hR ?B ?F ?X ?N ?own ?U ?ho ?T ?hk ?hdp ?hun hlen hi ?ret)
  case B => k_asm
  case F => k_asm
  case X => k_asm
  case N => k_asm
  case own => exact fun q hq => .tail _ (.tail _ (hown q hq))
  case ho => exact rfl
  case U => exact UpdF.tail (Ne.symm hdl) (UpdF.head hnl)
  case T => k_asm
  case hk => exact rfl
  case hdp => exact room1 (k := 1) (b := 20) hdp (Nat.le_of_ble_eq_true rfl)
  case hun => exact room1 (k := 3) (b := 200) hun (Nat.le_of_ble_eq_true rfl)
  intro h' tk' t' t2' j hj F2 N2
  clear F1 N1
  k_steps
  all_goals exact ret _ _ _ _ _ _ _ (by k_asm) (by k_asm) ⟨_, _, _, _, _, _, rfl⟩ (by rw [hj])
end
section
variable {prog : Program} {w : World} {loose : List Str} {mean : ExcName → Option Value} {mg mb : Str → Option Value} {dp un : Nat} {gd : Option (List Code)} {cn : Str} {cs : Scope} {a : Addr} {ccd : Value} {cl : List (Str × Addr)} {outer : List Env} {A₀ : Around} {base h₀ : Heap} {L : Addr} {m : Str → Option Value} {news : List (Addr × Obj)} {s : Shared} {Q E : Value → Shared → Prop}
theorem ci_slot : Slot "callable_iterator" "__next__" "callable_iterator.__next__" :=
  .of (owner := "callable_iterator") (n := "__next__") (by rw [typeLookup_type, builtinLookup_eq_fast]; kernel_rfl) (by decide +kernel) (by decide +kernel) (by decide +kernel)
    (by first | exact .inl (by decide +kernel) | exact .inr (by decide +kernel)) (by rw [isSubtype_type]; kernel_rfl)
theorem ci_entry : entryFor table "callable_iterator.__next__" = some Builtin.«callable_iterator.__next__» := entryFor_of_tree (by kernel_rfl)
theorem ci_args (a : Value) : argsOk "callable_iterator.__next__" ⟨[a], []⟩ := by unfold argsOk; kernel_rfl
theorem ci_iter_slot : Slot "callable_iterator" "__iter__" "callable_iterator.__iter__" :=
  .of (owner := "callable_iterator") (n := "__iter__") (by rw [typeLookup_type, builtinLookup_eq_fast]; kernel_rfl) (by decide +kernel) (by decide +kernel) (by decide +kernel)
    (by first | exact .inl (by decide +kernel) | exact .inr (by decide +kernel)) (by rw [isSubtype_type]; kernel_rfl)
theorem ci_iter_entry : entryFor table "callable_iterator.__iter__" = some Builtin.«dict_keyiterator.__iter__» :=
  entryFor_alias (id' := "dict_keyiterator.__iter__") (by kernel_rfl) (by first | rfl | decide +kernel | (unfold String.splitOn; simp +decide [String.splitOnAux])) (by decide +kernel) (by kernel_rfl)
theorem ci_iter_args (a : Value) : argsOk "callable_iterator.__iter__" ⟨[a], []⟩ := by unfold argsOk; kernel_rfl

noncomputable abbrev ciObj (q : Addr) (ts : Tok) : Obj := { cls := .type "callable_iterator", data := .fields #[.ref q, .str "" ts, .bool false] }
noncomputable abbrev ciEnd : Obj := { cls := .type "callable_iterator", data := .fields #[.none, .none, .bool true] }

theorem borrows_meth {A : Around} {q f x : Addr} {of : Obj} {fd : FuncData} {Q : Bool → Shared → Prop} (hq : s.heap.get? q = some (methodObj (.ref f) (.ref x))) (hf : s.heap.get? f = some of) (hfd : of.data = .func fd) (h : Q true s) :
    wpAny (model prog w) A (borrowsExactly (.ref q)) Q E s := by
  unfold borrowsExactly
  refine wpAny_bind (wpAny_load hq ?_)
  show wpAny _ _ (load f >>= _) _ _ _
  refine wpAny_bind (wpAny_load hf ?_)
  rw [hfd]
  exact wpAny_pure h

theorem callBorrowed_any {A : Around} {f : Value} {pos : List Value} {Q : Value → Shared → Prop}
    (hc : codeAny (model prog w) A (.call f ⟨pos, []⟩) (fun r s' => match r with | .ok (.ret v) => Q v s' | .ok _ => False | .error e => E e s') s) : wpAny (model prog w) A (callBorrowed f pos) Q E s := fun Γ p hΓ => by
  unfold callBorrowed
  rw [Sem.wp_call]
  refine wpCode_mono (fun r s' h => ?_) (hc _ p rfl (hΓ.enter _ none p (by intro x; cases x)))
  cases r with
  | error e => exact h
  | ok f => cases f <;> exact h

theorem ci_pyIter {A : Around} {it : Addr} {q : Addr} {ts : Tok} {Q : Value → Shared → Prop} (he : s.heap.get? it = some (ciObj q ts)) (h : Q (.ref it) s) : wpAny (model prog w) A (pyIter (.ref it)) Q E s := by
  have hT : s.TypeIs (.ref it) "callable_iterator" := ⟨_, he, rfl⟩
  refine wpAny_pyIter_slot hT ci_iter_slot (wpAny_call_entry ci_iter_slot hT ci_iter_entry ?_ (ci_iter_args _))
  show wpAny _ _ (ret (.ref it)) _ _ s
  exact wpAny_pure ⟨_, rfl, "callable_iterator", _, hT, ci_slot.lookup, h⟩

theorem ci_next_some {text : Str} {x d l p f1 it q : Addr} {od ol : Obj} {rest : List (Addr × Obj)} {ln : Int} {i c : Nat} {ti ts : Tok} {Q : Option Value → Shared → Prop}
   (B : Below A₀ base outer h₀) (F : Fr h₀ L s.heap m) (X : (hd.heap_1 w.params).In h₀) (N : News h₀ L s.heap ((d, od) :: (l, ol) :: rest))
   (T : Top topProg loose mean mg mb h₀) (hk : cs.kind = .function)  (hdp : dp + 40 < recursionLimit) (hun : un + 400 < cLine)
   (Z : LexFix prog w loose mean mg mb text x d l p f1 rest) (hod : LexD w od ln f1 p) (hol : ol = W.listOf #[.int i ti] 0) (hit : (it, ciObj q ts) ∈ rest) (hq : (q, methodObj (.ref 70) (.ref x)) ∈ rest)
   (hc : text.cps.toList[i]? = some c)
   (ret : ∀ h' tk' t' od' ol' ln' t2, Fr h₀ L h' m → News h₀ L h' ((d, od') :: (l, ol') :: rest) → LexD w od' ln' f1 p → ol' = W.listOf #[.int ((i + 1 : Nat) : Int) t2] 0 → Q (some (.str ⟨#[c]⟩ t')) { s with heap := h', toks := tk' }) :
   wpAny (model prog w) (ktrTop dp un gd cn cs L a ccd cl outer) (pyNext (.ref it)) Q E s := by
  have ho := (N _ (.tail _ (.tail _ hit))).1
  have hT : s.TypeIs (.ref it) "callable_iterator" := ⟨_, ho, rfl⟩
  have hi : i < text.cps.toList.length := by
    rcases Nat.lt_or_ge i text.cps.toList.length with h | h
    · exact h
    · rw [List.getElem?_eq_none h] at hc; cases hc
  have hone : (text.cps.toList.drop i).take 1 = [c] := by
    rw [List.drop_eq_getElem_cons hi]
    rw [List.getElem?_eq_getElem hi] at hc
    simp [Option.some.inj hc]
  unfold pyNext
  refine wpAny_bind (wpAny_attempt (wpAny_callSpecial?_slot (name := Str.ofString "__next__") hT ci_slot (wpAny_call_entry ci_slot hT ci_entry ?_ (ci_args _))))
  show wpAny _ _ (field (.ref it) 2 >>= _) _ _ _
  refine wpAny_bind (wpAny_field ho rfl (x := .bool false) rfl ?_)
  show wpAny _ _ (if (Value.bool false == Value.bool true) = true then _ else _) _ _ _
  rw [if_neg (by decide)]
  show wpAny _ _ (field (.ref it) 0 >>= _) _ _ _
  refine wpAny_bind (wpAny_field ho rfl (x := .ref q) rfl ?_)
  refine wpAny_bind (wpAny_attempt ?_)
  unfold callOutOfASlot
  refine wpAny_bind (borrows_meth (N _ (.tail _ (.tail _ hq))).1 ((X.keeps F.keep) 70 _ rfl) rfl ?_)
  refine callBorrowed_any (method_call (N _ (.tail _ (.tail _ hq))).1 ?_)
  k_dflt (refine' rc_spec B F X N T hk ?hdp ?hun Z hod hol ?hi ?_)
  case hdp => exact room0 (b := 30) hdp (Nat.le_of_ble_eq_true rfl)
  case hun => exact room1 (k := 1) (b := 300) hun (Nat.le_of_ble_eq_true rfl)
  case hi => have := Array.length_toList (xs := text.cps); show i ≤ text.cps.size; omega
  intro h' tk' t' od' ol' ln' t2 F' N' hd' hl'
  rw [hone] at hl' ⊢
  have ho' := (N' _ (.tail _ (.tail _ hit))).1
  show wpAny _ _ (field (.ref it) 2 >>= _) _ _ _
  refine wpAny_bind (wpAny_field (s := { s with heap := h', toks := tk' }) ho' rfl (x := .bool false) rfl ?_)
  show wpAny _ _ (if (Value.bool false == Value.bool true) = true then _ else _) _ _ _
  rw [if_neg (by decide)]
  show wpAny _ _ (field (.ref it) 1 >>= _) _ _ _
  refine wpAny_bind (wpAny_field (s := { s with heap := h', toks := tk' }) ho' rfl (x := .str "" ts) rfl ?_)
  refine wpAny_bind (wpAny_holding (wpAny_eqBool_str ?_))
  have hne : (!decide (Str.ofString "" = (⟨#[c]⟩ : Str))) = true := by
    rw [decide_eq_false]
    · rfl
    · intro e
      have := congrArg (fun s : Str => s.cps.size) e
      cases this
  rw [if_pos hne]
  refine wpAny_pure ⟨_, rfl, ?_⟩
  refine wpAny_pure ?_
  exact ret _ _ _ _ _ _ _ F' N' hd' (by rw [hl']; rfl)

theorem wpAny_stop {α : Type} {A : Around} {E : Value → Shared → Prop} {Q : α → Shared → Prop} (hh : A.handled = none) (h : ∀ h' e, (∀ b o, s.heap.get? b = some o → h'.get? b = some o) → (∃ o, h'.get? e = some o ∧ o.cls = .type "StopIteration") → E (.ref e) { s with heap := h' }) :
    wpAny (model prog w) A (Builtin.SmallTypes.stopIteration : Sem α) Q E s := by
  show wpAny _ _ (newExc (.type "StopIteration") [] >>= _) _ _ _
  refine wpAny_bind ?_
  simp only [newExc, newTuple]
  refine wpAny_bind (wpAny_newObj_type ?_ (by size_fits))
  refine wpAny_bind (m := firstArgMember _ _) (wpAny_of_eq (a := Value.none) (by first | rfl | (simp only [firstArgMember]; rfl)) ?_)
  refine wpAny_newObj_type ?_ (by size_fits)
  simp only [raiseNew]
  refine wpAny_bind (wpAny_handled ?_)
  rw [show A.handled = none from hh]
  refine wpAny_bind (wpAny_pure (wpAny_throw ?_))
  exact h _ _ (fun b o e => Heap.get?_push_of_some _ (Heap.get?_push_of_some _ e)) ⟨_, Heap.get?_push_size _ rfl, rfl⟩

theorem updF_again {d : Addr} {o : Obj} {l : List (Addr × Obj)} {g : Obj → List (Addr × Obj)} (U : UpdF d o l g) : ∀ o', UpdF d o' (g o') g := by
  induction U with
  | head h => exact fun _ => .head h
  | tail h _ ih => exact fun o' => .tail h (ih o')

theorem setField_N {A : Around} {E : Value → Shared → Prop} {a : Addr} {cl : Value} {vs : Array Value} {k : Nat} {x : Value} {g : Obj → List (Addr × Obj)} {Q : Unit → Shared → Prop}
    (F : Fr h₀ L s.heap m) (N : News h₀ L s.heap news) (U : UpdF a ⟨cl, none, .fields vs, #[]⟩ news g) (hk : k < vs.size)
    (h : ∀ h', Fr h₀ L h' m → News h₀ L h' (g ⟨cl, none, .fields (vs.setIfInBounds k x), #[]⟩) → Q () { s with heap := h' }) :
    wpAny (model prog w) A (setField (.ref a) k x) Q E s := by
  obtain ⟨pre, post, rfl, hg, ha, hb⟩ := U.split
  refine wpAny_setField (N _ (List.mem_append_right _ (.head _))).1 rfl hk ?_
  obtain ⟨F', N'⟩ := news_upd (f := Obj.mapFields (·.setIfInBounds k x)) (o' := ⟨cl, none, .fields (vs.setIfInBounds k x), #[]⟩) F N ha hb rfl rfl
  exact h _ F' (by rw [hg]; exact N')

theorem ci_next_ended {A : Around} {it : Addr} {Q : Option Value → Shared → Prop} (hh : A.handled = none) (F : Fr h₀ L s.heap m) (N : News h₀ L s.heap news) (hit : (it, ciEnd) ∈ news)
   (ret : ∀ h', Fr h₀ L h' m → News h₀ L h' news → Q none { s with heap := h' }) :
   wpAny (model prog w) A (pyNext (.ref it)) Q E s := by
  have ho := (N _ hit).1
  have hT : s.TypeIs (.ref it) "callable_iterator" := ⟨_, ho, rfl⟩
  unfold pyNext
  refine wpAny_bind (wpAny_attempt (wpAny_callSpecial?_slot (name := Str.ofString "__next__") hT ci_slot (wpAny_call_entry ci_slot hT ci_entry ?_ (ci_args _))))
  show wpAny _ _ (field (.ref it) 2 >>= _) _ _ _
  refine wpAny_bind (wpAny_field ho rfl (x := .bool true) rfl ?_)
  show wpAny _ _ (if (Value.bool true == Value.bool true) = true then _ else _) _ _ _
  rw [if_pos (by decide)]
  refine wpAny_bind (wpAny_rule (wpAny_bind ?_))
  refine wpAny_stop hh ?_
  rintro h' e hk ⟨oe, he, hec⟩
  refine wpAny_bind (wpAny_isInstance (s := { s with heap := h' }) (T := "StopIteration") (b := true) ⟨oe, he, hec⟩ isSubtype_stop ?_)
  exact wpAny_pure (ret _ (F.grownK hk) (N.grown hk))

theorem ci_next_none {text : Str} {x d l p f1 it q : Addr} {od ol : Obj} {rest : List (Addr × Obj)} {gr : Obj → List (Addr × Obj)} {ln : Int} {i : Nat} {ti ts : Tok} {Q : Option Value → Shared → Prop}
   (B : Below A₀ base outer h₀) (F : Fr h₀ L s.heap m) (X : (hd.heap_1 w.params).In h₀) (N : News h₀ L s.heap ((d, od) :: (l, ol) :: rest))
   (T : Top topProg loose mean mg mb h₀) (hk : cs.kind = .function)  (hdp : dp + 40 < recursionLimit) (hun : un + 400 < cLine)
   (Z : LexFix prog w loose mean mg mb text x d l p f1 rest) (hod : LexD w od ln f1 p) (hol : ol = W.listOf #[.int i ti] 0) (U : UpdF it (ciObj q ts) rest gr) (hq : (q, methodObj (.ref 70) (.ref x)) ∈ rest)
   (hi : i = text.length)
   (ret : ∀ h' tk' od' ol' ln' t2, Fr h₀ L h' m → News h₀ L h' ((d, od') :: (l, ol') :: gr ciEnd) → LexD w od' ln' f1 p → ol' = W.listOf #[.int (i : Nat) t2] 0 → Q none { s with heap := h', toks := tk' }) :
   wpAny (model prog w) (ktrTop dp un gd cn cs L a ccd cl outer) (pyNext (.ref it)) Q E s := by
  have hit := upd_mem U
  have hdi : d ≠ it := Ne.symm (Z.nd _ hit)
  have hli : l ≠ it := Ne.symm (Z.nl _ hit)
  have ho := (N _ (.tail _ (.tail _ hit))).1
  have hT : s.TypeIs (.ref it) "callable_iterator" := ⟨_, ho, rfl⟩
  have hone : (text.cps.toList.drop i).take 1 = [] := by
    have := Array.length_toList (xs := text.cps)
    rw [List.drop_of_length_le (by rw [this, hi]; exact Nat.le_refl _)]
    rfl
  unfold pyNext
  refine wpAny_bind (wpAny_attempt (wpAny_callSpecial?_slot (name := Str.ofString "__next__") hT ci_slot (wpAny_call_entry ci_slot hT ci_entry ?_ (ci_args _))))
  show wpAny _ _ (field (.ref it) 2 >>= _) _ _ _
  refine wpAny_bind (wpAny_field ho rfl (x := .bool false) rfl ?_)
  show wpAny _ _ (if (Value.bool false == Value.bool true) = true then _ else _) _ _ _
  rw [if_neg (by decide)]
  show wpAny _ _ (field (.ref it) 0 >>= _) _ _ _
  refine wpAny_bind (wpAny_field ho rfl (x := .ref q) rfl ?_)
  refine wpAny_bind (wpAny_attempt ?_)
  unfold callOutOfASlot
  refine wpAny_bind (borrows_meth (N _ (.tail _ (.tail _ hq))).1 ((X.keeps F.keep) 70 _ rfl) rfl ?_)
  refine callBorrowed_any (method_call (N _ (.tail _ (.tail _ hq))).1 ?_)
  k_dflt (refine' rc_spec B F X N T hk ?hdp ?hun Z hod hol ?hi ?_)
  case hdp => exact room0 (b := 30) hdp (Nat.le_of_ble_eq_true rfl)
  case hun => exact room1 (k := 1) (b := 300) hun (Nat.le_of_ble_eq_true rfl)
  case hi => exact Nat.le_of_eq hi
  intro h' tk' t' od' ol' ln' t2 F' N' hd' hl'
  rw [hone] at hl' ⊢
  have ho' := (N' _ (.tail _ (.tail _ hit))).1
  show wpAny _ _ (field (.ref it) 2 >>= _) _ _ _
  refine wpAny_bind (wpAny_field (s := { s with heap := h', toks := tk' }) ho' rfl (x := .bool false) rfl ?_)
  show wpAny _ _ (if (Value.bool false == Value.bool true) = true then _ else _) _ _ _
  rw [if_neg (by decide)]
  show wpAny _ _ (field (.ref it) 1 >>= _) _ _ _
  refine wpAny_bind (wpAny_field (s := { s with heap := h', toks := tk' }) ho' rfl (x := .str "" ts) rfl ?_)
  refine wpAny_bind (wpAny_holding (wpAny_eqBool_str ?_))
  have hne : (!decide (Str.ofString "" = (⟨[].toArray⟩ : Str))) = false := rfl
  rw [if_neg (by rw [hne]; exact Bool.false_ne_true)]
  refine wpAny_bind (wpAny_rule (wpAny_bind ?_))
  show wpAny _ _ (field (.ref it) 0 >>= _) _ _ _
  refine wpAny_bind (wpAny_field (s := { s with heap := h', toks := tk' }) ho' rfl (x := .ref q) rfl ?_)
  refine wpAny_bind ?_
  unfold slotLetsGo
  refine wpAny_bind (borrows_meth (s := { s with heap := h', toks := tk' }) (N' _ (.tail _ (.tail _ hq))).1 ((X.keeps F'.keep) 70 _ rfl) rfl ?_)
  rw [if_pos rfl]
  refine wpAny_pure ?_
  have U0 : UpdF it (ciObj q ts) ((d, od') :: (l, ol') :: rest) (fun o => (d, od') :: (l, ol') :: gr o) := .tail hdi (.tail hli U)
  refine wpAny_bind (setField_N F' N' U0 (by simp) fun h1 F1 N1 => ?_)
  refine wpAny_bind (setField_N (s := { s with heap := h1, toks := tk' }) F1 N1 (updF_again U0 _) (by simp) fun h2 F2 N2 => ?_)
  refine setField_N (s := { s with heap := h2, toks := tk' }) F2 N2 (updF_again U0 _) (by simp) fun h3 F3 N3 => ?_
  refine wpAny_stop (s := { s with heap := h3, toks := tk' }) rfl ?_
  rintro h4 e hk4 ⟨oe, he, hec⟩
  refine wpAny_bind (wpAny_isInstance (s := { s with heap := h4, toks := tk' }) (T := "StopIteration") (b := true) ⟨oe, he, hec⟩ isSubtype_stop ?_)
  exact wpAny_pure (ret _ _ _ _ _ _ (F3.grownK hk4) (N3.grown hk4) hd' (by rw [hl']; rfl))
end
section
variable {prog : Program} {w : World} {loose : List Str} {mean : ExcName → Option Value} {mg mb : Str → Option Value} {dp un : Nat} {gd : Option (List Code)} {cn : Str} {cs : Scope} {a : Addr} {ccd : Value} {cl : List (Str × Addr)} {outer : List Env} {A₀ : Around} {base h₀ : Heap} {L : Addr} {m : Str → Option Value} {news : List (Addr × Obj)} {s : Shared} {Q E : Value → Shared → Prop}
theorem iter_entry : entryFor table "iter" = some Builtin.«iter» := entryFor_of_tree (by kernel_rfl)
theorem iter2_args (a b : Value) : argsOk "iter" ⟨[a, b], []⟩ := by unfold argsOk; kernel_rfl
theorem meth_call_look : typeLookup (.type "method") "__call__" = pure (some (.builtin "method.__call__")) := by rw [typeLookup_type, builtinLookup_eq_fast]; kernel_rfl
theorem call_iter2 {A : Around} {q x : Addr} {t : Tok} (F : Fr h₀ L s.heap m) (N : News h₀ L s.heap news) (hq : (q, methodObj (.ref 70) (.ref x)) ∈ news)
   (h : ∀ h' it, Fr h₀ L h' m → News h₀ L h' ((it, ciObj q t) :: news) → (∀ p ∈ news, p.1 < it) → Q (.ref it) { s with heap := h' }) :
   wpAny (model prog w) A (call (.builtin "iter") [.ref q, .str "" t]) Q E s := by
  have ho := (N _ hq).1
  have hT : s.TypeIs (.ref q) "method" := ⟨_, ho, rfl⟩
  refine call_function_entry (by decide +kernel) (by decide +kernel) iter_entry (iter2_args _ _) ?_
  unfold Builtin.«iter»
  refine wpAny_bind (m := someArgs "iter" 1 2 _) (wpAny_of_eq (a := [Value.ref q, .str "" t]) (by first | rfl | kernel_rfl!) ?_)
  dsimp only
  refine wpAny_bind (wpAny_specialOf (name := Str.ofString "__call__") hT meth_call_look ?_)
  rw [if_neg (by decide)]
  refine wpAny_bind (wpAny_rule (wpAny_bind ?_))
  show wpAny _ _ (newObj (.type "callable_iterator") (.fields #[.ref q, .str "" t, .bool false]) none) _ _ _
  refine wpAny_newObj_type ?_ (by size_fits)
  refine wpAny_pure ⟨_, rfl, ?_⟩
  exact h _ _ (F.push _) (N.push F _) (fun p hp => Heap.lt_size (N p hp).1)
theorem truthy_nil {A : Around} {E : Value → Shared → Prop} {l : Addr} {n : Nat} {Q : Bool → Shared → Prop} (hl : s.heap.get? l = some (W.listOf #[] n)) (h : Q false { s with toks := s.toks + 1 + 1 }) : wpAny (model prog w) A (truthy (.ref l)) Q E s :=
  wpAny_truthy_list (PySem.IsL.isList (n := n) hl) (by decide) h
theorem truthy_cons {A : Around} {E : Value → Shared → Prop} {l : Addr} {n : Nat} {v : Value} {vs : List Value} {Q : Bool → Shared → Prop} (hl : s.heap.get? l = some (W.listOf (v :: vs).toArray n)) (hf : vs.length < 2 ^ 62) (h : Q true { s with toks := s.toks + 1 + 1 }) : wpAny (model prog w) A (truthy (.ref l)) Q E s :=
  wpAny_truthy_list (PySem.IsL.isList (n := n) hl) (by simp only [List.size_toArray, List.length_cons]; omega) h

noncomputable def CEnd (w : World) (h₀ : Heap) (L : Addr) (text : Str) (d l f1 p : Addr) (rest : List (Addr × Obj)) (J : Nat → (Str → Option Value) → Prop) (i : Nat) (s s₃ : Shared) : Prop :=
  ∃ h' tk' m'' od' ol' ln' t2 i', i < i' ∧ i' ≤ text.length ∧ s₃ = { s with heap := h', toks := tk' } ∧ Fr h₀ L h' m'' ∧ News h₀ L h' ((d, od') :: (l, ol') :: rest) ∧ LexD w od' ln' f1 p ∧ ol' = W.listOf #[.int (i' : Nat) t2] 0 ∧ J i' m''

theorem for_ci {R : Result → Shared → Prop} {env : Env} {text : Str} {x d l p f1 it q : Addr} {od ol : Obj} {rest : List (Addr × Obj)} {gr : Obj → List (Addr × Obj)} {ln : Int} {i : Nat} {ti ts : Tok} {xv : Str} {pv : Pos} {body : List Stmt}
   (hxv : env.kindOf xv = some .local) (hpp : (env.scope.kind == .class || (env.scope.kind == .module && env.locals != env.globals)) = false) (hL : env.locals = L)
   (B : Below A₀ base outer h₀) (F : Fr h₀ L s.heap m) (X : (hd.heap_1 w.params).In h₀) (N : News h₀ L s.heap ((d, od) :: (l, ol) :: rest))
   (T : Top topProg loose mean mg mb h₀) (hk : cs.kind = .function)  (hdp : dp + 40 < recursionLimit) (hun : un + 400 < cLine)
   (Z : LexFix prog w loose mean mg mb text x d l p f1 rest) (hod : LexD w od ln f1 p) (hol : ol = W.listOf #[.int i ti] 0) (U : UpdF it (ciObj q ts) rest gr) (hq : (q, methodObj (.ref 70) (.ref x)) ∈ rest)
   (hi : i ≤ text.length) (J : Nat → (Str → Option Value) → Prop) (h0 : J i m)
   (turn : ∀ i m' od ol c h tk ln ti t1, text.cps.toList[i]? = some c → i < text.length → J i m' → Fr h₀ L h (fun y => if y = xv then some (.str ⟨#[c]⟩ t1) else m' y) → News h₀ L h ((d, od) :: (l, ol) :: rest) → LexD w od ln f1 p → ol = W.listOf #[.int ((i + 1 : Nat) : Int) ti] 0 →
      wpAny (model prog w) (ktrTop dp un gd cn cs L a ccd cl outer) (execs body env) (fun f s₃ => match f with
        | .next | .cont => CEnd w h₀ L text d l f1 p rest J i s s₃
        | .brk => R (.ok .next) s₃
        | .ret v => R (.ok (.ret v)) s₃) (fun _ _ => False) { s with heap := h, toks := tk })
   (done : ∀ m' od ol h tk ln ti, J text.length m' → Fr h₀ L h m' → News h₀ L h ((d, od) :: (l, ol) :: gr ciEnd) → LexD w od ln f1 p → ol = W.listOf #[.int (text.length : Nat) ti] 0 → R (.ok .next) { s with heap := h, toks := tk }) :
   codeAny (model prog w) (ktrTop dp un gd cn cs L a ccd cl outer) (.forLoop (.Name xv pv) (.ref it) body [] env) R s := by
  subst hL
  refine codeAny_forLoop_any (fun n s' => ∃ h' tk' m'' od' ol' ln' t2 i', n = text.length - i' ∧ i' ≤ text.length ∧ s' = { s with heap := h', toks := tk' } ∧ Fr h₀ env.locals h' m'' ∧ News h₀ env.locals h' ((d, od') :: (l, ol') :: rest) ∧ LexD w od' ln' f1 p ∧ ol' = W.listOf #[.int (i' : Nat) t2] 0 ∧ J i' m'') ?_ (text.length - i)
    ⟨_, _, _, _, _, _, _, _, rfl, hi, rfl, F, N, hod, hol, h0⟩
  rintro n s' ⟨h', tk', m'', od', ol', ln', t2, i', rfl, hi', rfl, F', N', hd', hl', hJ⟩
  have hlen : text.cps.toList.length = text.length := Array.length_toList
  rcases Nat.lt_or_ge i' text.length with hlt | hge
  · obtain ⟨c, hc⟩ : ∃ c, text.cps.toList[i']? = some c := ⟨_, List.getElem?_eq_getElem (by omega)⟩
    refine ci_next_some (s := { s with heap := h', toks := tk' }) B F' X N' T hk hdp hun Z hd' hl' (upd_mem U) hq hc ?_
    intro h2 tk2 t' od2 ol2 ln2 t3 F2 N2 hd2 hl2
    refine wpAny_of_eq (a := ()) rfl ?_
    refine wpAny_assign_Name (wpAny_storeName_local (s := { s with heap := h2, toks := tk2 }) hxv F2.ns (fun h₄ hn₄ hs₄ => ?_) hpp)
    replace hs₄ : Heap.SameBut env.locals h2 h₄ := hs₄
    have ht := (turn i' m'' od2 ol2 c h₄ (tk2 + 1) ln2 t3 t' hc hlt hJ (F2.set hn₄ hs₄) (N2.set hs₄) hd2 hl2)
    refine wpAny_mono (E := fun _ _ => False) ht (fun f s₃ h₃ => ?_) fun _ _ x => x.elim
    have key : CEnd w h₀ env.locals text d l f1 p rest J i' s s₃ → ∃ m, m < text.length - i' ∧ ∃ h' tk' m'' od' ol' ln' t2 i', m = text.length - i' ∧ i' ≤ text.length ∧ s₃ = { s with heap := h', toks := tk' } ∧ Fr h₀ env.locals h' m'' ∧ News h₀ env.locals h' ((d, od') :: (l, ol') :: rest) ∧ LexD w od' ln' f1 p ∧ ol' = W.listOf #[.int (i' : Nat) t2] 0 ∧ J i' m'' := by
      rintro ⟨h5, tk5, m5, od5, ol5, ln5, t5, i5, hlt5, hle5, e5, F5, N5, hd5, hl5, hJ5⟩
      exact ⟨text.length - i5, by omega, h5, tk5, m5, od5, ol5, ln5, t5, i5, rfl, hle5, e5, F5, N5, hd5, hl5, hJ5⟩
    cases f with
    | next => exact key h₃
    | cont => exact key h₃
    | brk => exact h₃
    | ret v => exact h₃
  · have hie : i' = text.length := Nat.le_antisymm hi' hge
    refine ci_next_none (s := { s with heap := h', toks := tk' }) B F' X N' T hk hdp hun Z hd' hl' U hq hie ?_
    intro h2 tk2 od2 ol2 ln2 t3 F2 N2 hd2 hl2
    subst hie
    exact wpAny_execs_nil (done m'' od2 ol2 h2 tk2 ln2 t3 hJ F2 N2 hd2 hl2)
end
local macro_rules | `(tactic| walk_at "exec For Name Name") => `(tactic| refine Hold.mk ?_)
section
variable {prog : Program} {w : World} {loose : List Str} {mean : ExcName → Option Value} {mg mb : Str → Option Value} {dp un : Nat} {gd : Option (List Code)} {cn : Str} {cs : Scope} {a : Addr} {ccd : Value} {cl : List (Str × Addr)} {outer : List Env} {A₀ : Around} {base h₀ : Heap} {L : Addr} {m : Str → Option Value} {news : List (Addr × Obj)} {s : Shared} {Q E : Value → Shared → Prop}
local macro_rules | `(tactic| walk_at "exec Continue") => `(tactic| refine Hold.mk ?_)

theorem LexFix.cons {text : Str} {x d l p f1 : Addr} {rest : List (Addr × Obj)} {e : Addr × Obj} (Z : LexFix prog w loose mean mg mb text x d l p f1 rest) (h1 : e.1 ≠ d) (h2 : e.1 ≠ l) : LexFix prog w loose mean mg mb text x d l p f1 (e :: rest) := by
  obtain ⟨hinst, ⟨D, oD, f2, fd1, own, hoD, mD, mf, hown, hR, oc2, od2, fd2, sl2, mf2⟩, hnd, hnl, hdl, hlen⟩ := Z
  exact ⟨.tail _ hinst, ⟨D, oD, f2, fd1, own, hoD, .tail _ mD, .tail _ mf, fun q hq => .tail _ (hown q hq), hR, oc2, od2, fd2, sl2, .tail _ mf2⟩, List.forall_mem_cons.mpr ⟨h1, hnd⟩, List.forall_mem_cons.mpr ⟨h2, hnl⟩, hdl, hlen⟩
theorem news_sub2 {h0 h : Heap} {L : Addr} {a b : Addr × Obj} {r1 r2 : List (Addr × Obj)} (hs : ∀ p ∈ r2, p ∈ r1) (N : News h0 L h (a :: b :: r1)) : News h0 L h (a :: b :: r2) := fun p hp => N p (by
  rcases List.mem_cons.mp hp with h | hp
  · rw [h]; exact .head _
  rcases List.mem_cons.mp hp with h | hp
  · rw [h]; exact .tail _ (.head _)
  exact .tail _ (.tail _ (hs p hp)))
theorem lex_fix2 {h0 h : Heap} {L : Addr} {text : Str} {x d l p f1 it q : Addr} {ts : Tok} {od ol : Obj} {rest : List (Addr × Obj)} (Z : LexFix prog w loose mean mg mb text x d l p f1 rest)
    (N : News h0 L h ((it, ciObj q ts) :: (q, methodObj (.ref 70) (.ref x)) :: (d, od) :: (l, ol) :: rest)) (hit : ∀ p ∈ (q, methodObj (.ref 70) (.ref x)) :: (d, od) :: (l, ol) :: rest, p.1 < it) (hq : @LT.lt Nat _ d q ∧ @LT.lt Nat _ l q ∧ AllLt q rest) :
    ∃ rest1 gr, LexFix prog w loose mean mg mb text x d l p f1 rest1 ∧ News h0 L h ((d, od) :: (l, ol) :: rest1) ∧ UpdF it (ciObj q ts) rest1 gr ∧ (q, methodObj (.ref 70) (.ref x)) ∈ rest1 ∧ (∀ p ∈ rest, p ∈ rest1) ∧ (∀ p ∈ rest, p ∈ gr ciEnd) ∧ (∀ p ∈ gr ciEnd, p.1 ≠ d) := by
  have a1 := Ne.symm (Nat.ne_of_lt (hit _ (.tail _ (.head _))))
  have a2 := Ne.symm (Nat.ne_of_lt (hit _ (.tail _ (.tail _ (.head _)))))
  have a3 := Nat.ne_of_lt (hit _ (.head _))
  refine ⟨(it, ciObj q ts) :: (q, methodObj (.ref 70) (.ref x)) :: rest, fun o => (it, o) :: (q, methodObj (.ref 70) (.ref x)) :: rest, LexFix.cons (LexFix.cons Z (Ne.symm (Nat.ne_of_lt hq.1)) (Ne.symm (Nat.ne_of_lt hq.2.1))) a1 a2, ?_, .head ?_, .tail _ (.head _), fun p hp => .tail _ (.tail _ hp), fun p hp => .tail _ (.tail _ hp), ?_⟩
  · exact fun p hp => N p (by
      simp only [List.mem_cons] at hp ⊢
      rcases hp with h | h | h | h | h <;> simp [h])
  · exact List.forall_mem_cons.mpr ⟨a3, fun p hp => Nat.ne_of_lt (hit p (.tail _ (.tail _ (.tail _ hp))))⟩
  · exact List.forall_mem_cons.mpr ⟨a1, List.forall_mem_cons.mpr ⟨Ne.symm (Nat.ne_of_lt hq.1), Z.nd⟩⟩

noncomputable def qrun : List Nat → List Nat → Option (List Nat × List Nat)
  | _, [] => none
  | acc, c :: r => if c = 34 then some (acc, r) else if c = 92 then (match r with | [] => none | c2 :: r2 => qrun (acc ++ [c2]) r2) else qrun (acc ++ [c]) r
noncomputable def isWhite (c : Nat) : Bool := c == 10 || (c == 9 || (c == 13 || c == 32))
theorem white_occ (c : Nat) : (Builtin.Str.occurrences (PySem.Str.ofString "\n\t\x0d ") (⟨#[c]⟩ : PySem.Str) 0 (PySem.Str.ofString "\n\t\x0d ").length 1).isEmpty = !(decide (isWhite c)) := by
  have h1 := StrLaws.found_one (PySem.Str.ofString "\n\t\x0d ") c
  have : decide (c ∈ (PySem.Str.ofString "\n\t\x0d ").cps.toList) = decide (isWhite c) := by
    have : (PySem.Str.ofString "\n\t\x0d ").cps.toList = [10, 9, 13, 32] := rfl
    rw [this]
    exact decide_eq_decide.mpr (by simp [isWhite])
  rw [this] at h1
  rw [← h1]; simp
theorem qrun_at {text : List Nat} {i c : Nat} {acc : List Nat} (h : text[i]? = some c) : qrun acc (text.drop i) = if c = 34 then some (acc, text.drop (i + 1)) else if c = 92 then (match text.drop (i + 1) with | [] => none | c2 :: r2 => qrun (acc ++ [c2]) r2) else qrun (acc ++ [c]) (text.drop (i + 1)) := by
  have hi : i < text.length := by
    rcases Nat.lt_or_ge i text.length with h1 | h1
    · exact h1
    · rw [List.getElem?_eq_none h1] at h; cases h
  rw [List.drop_eq_getElem_cons hi]
  rw [List.getElem?_eq_getElem hi] at h
  rw [Option.some.inj h]
  rw [qrun.eq_def]
theorem qrun_esc {text : List Nat} {i : Nat} {acc : List Nat} {z} (h : (match text.drop (i + 1) with | [] => none | c2 :: r2 => qrun (acc ++ [c2]) r2) = some z) : ∃ c2, text[i + 1]? = some c2 ∧ (text.drop (i + 1)).take 1 = [c2] ∧ i + 1 < text.length ∧ qrun (acc ++ [c2]) (text.drop (i + 2)) = some z := by
  have hi : i + 1 < text.length := by
    rcases Nat.lt_or_ge (i + 1) text.length with h1 | h1
    · exact h1
    · rw [List.drop_of_length_le h1] at h; cases h
  rw [List.drop_eq_getElem_cons hi] at h ⊢
  exact ⟨_, List.getElem?_eq_getElem hi, rfl, hi, h⟩
theorem str_app (a b : List Nat) : (⟨a.toArray⟩ : Str) ++ (⟨b.toArray⟩ : Str) = ⟨(a ++ b).toArray⟩ := by
  show (⟨a.toArray ++ b.toArray⟩ : Str) = _
  simp
theorem tok_eq (x y : List Nat) (t : Tok) : some (Value.str ((⟨x.toArray⟩ : Str) ++ (⟨y.toArray⟩ : Str)) t) = some (.str ⟨(x ++ y).toArray⟩ t) := by rw [str_app]
theorem CEnd.mk {w : World} {h₀ : Heap} {L : Addr} {text : Str} {d l f1 p : Addr} {rest : List (Addr × Obj)} {J : Nat → (Str → Option Value) → Prop} {i : Nat} {s : Shared} {h' : Heap} {tk' : Nat} {m'' : Str → Option Value} {od' ol' : Obj} {ln' : Int} {t2 : Tok} (i' : Nat) (h1 : i < i') (h2 : i' ≤ text.length)
   (F : Fr h₀ L h' m'') (N : News h₀ L h' ((d, od') :: (l, ol') :: rest)) (hd : LexD w od' ln' f1 p) (hl : ol' = W.listOf #[.int (i' : Nat) t2] 0) (hJ : J i' m'') : CEnd w h₀ L text d l f1 p rest J i s { s with heap := h', toks := tk' } :=
  ⟨h', tk', m'', od', ol', ln', t2, i', h1, h2, rfl, F, N, hd, hl, hJ⟩
theorem one_ne {c d : Nat} (h : c ≠ d) : ((⟨#[c]⟩ : Str) == (⟨#[d]⟩ : Str)) = false := beq_eq_false_iff_ne.mpr fun e => h (by
  have := congrArg (fun s : Str => s.cps.toList) e
  simpa using this)
theorem one_eq2 {c : Nat} (h : c = 92) : ((⟨#[c]⟩ : Str) == Str.ofString "\\") = true := by subst h; decide +kernel
theorem white_no {c : Nat} (h : ¬ isWhite c) : (Builtin.Str.occurrences (PySem.Str.ofString "\n\t\x0d ") (⟨#[c]⟩ : PySem.Str) 0 (PySem.Str.ofString "\n\t\x0d ").length 1).isEmpty = true := by rw [white_occ, decide_eq_false h]; rfl
theorem one_ne1 {c : Nat} (h : c ≠ 34) : ((⟨#[c]⟩ : Str) == Str.ofString "\"") = false := one_ne h
theorem one_ne2 {c : Nat} (h : c ≠ 92) : ((⟨#[c]⟩ : Str) == Str.ofString "\\") = false := one_ne h
noncomputable def brun : List Nat → List Nat → Option (List Nat)
  | acc, [] => some acc
  | acc, c :: r => if isWhite c then none else if c = 92 then (match r with | [] => none | c2 :: r2 => brun (acc ++ [c2]) r2) else brun (acc ++ [c]) r
theorem brun_at {text : List Nat} {i c : Nat} {acc : List Nat} (h : text[i]? = some c) : brun acc (text.drop i) = if isWhite c then none else if c = 92 then (match text.drop (i + 1) with | [] => none | c2 :: r2 => brun (acc ++ [c2]) r2) else brun (acc ++ [c]) (text.drop (i + 1)) := by
  have hi : i < text.length := by
    rcases Nat.lt_or_ge i text.length with h1 | h1
    · exact h1
    · rw [List.getElem?_eq_none h1] at h; cases h
  rw [List.drop_eq_getElem_cons hi]
  rw [List.getElem?_eq_getElem hi] at h
  rw [Option.some.inj h]
  rw [brun.eq_def]
theorem brun_esc {text : List Nat} {i : Nat} {acc : List Nat} {z} (h : (match text.drop (i + 1) with | [] => none | c2 :: r2 => brun (acc ++ [c2]) r2) = some z) : ∃ c2, text[i + 1]? = some c2 ∧ (text.drop (i + 1)).take 1 = [c2] ∧ i + 1 < text.length ∧ brun (acc ++ [c2]) (text.drop (i + 2)) = some z := by
  have hi : i + 1 < text.length := by
    rcases Nat.lt_or_ge (i + 1) text.length with h1 | h1
    · exact h1
    · rw [List.drop_of_length_le h1] at h; cases h
  rw [List.drop_eq_getElem_cons hi] at h ⊢
  exact ⟨_, List.getElem?_eq_getElem hi, rfl, hi, h⟩
noncomputable def tokAt (text : List Nat) (i : Nat) (res : List Nat) : Prop :=
  (i = text.length ∧ res = []) ∨ (text[i]? = some 34 ∧ qrun [] (text.drop (i + 1)) = some (res, [])) ∨ (∃ c, text[i]? = some c ∧ c ≠ 34 ∧ brun [] (text.drop i) = some res)

inductive TokJ (w : World) (g : Heap) (L : Addr) (text : Str) (d l f1 p : Addr) (gr : List (Addr × Obj)) (res : List Nat) (s : Shared) : Nat → Shared → Prop
  | mk (h' : Heap) (tk' : Nat) (m'' : Str → Option Value) (od' ol' : Obj) (ln' : Int) (t2 tt : Tok) : Fr g L h' m'' → News g L h' ((d, od') :: (l, ol') :: gr) → LexD w od' ln' f1 p → ol' = W.listOf #[.int (text.length : Nat) t2] 0 → m'' (Str.ofString "token") = some (.str ⟨res.toArray⟩ tt) → TokJ w g L text d l f1 p gr res s 0 { s with heap := h', toks := tk' }
theorem tok_spec {R : Result → Shared → Prop} {text : Str} {x d l p f1 : Addr} {od ol : Obj} {rest : List (Addr × Obj)} {ln : Int} {i : Nat} {ti : Tok}
   (B : Below A₀ base outer h₀) (F : Fr h₀ L s.heap m) (X : (hd.heap_1 w.params).In h₀) (N : News h₀ L s.heap ((d, od) :: (l, ol) :: rest))
   (T : Top topProg loose mean mg mb h₀) (hk : cs.kind = .function)  (hdp : dp + 60 < recursionLimit) (hun : un + 600 < cLine)
   (Z : LexFix prog w loose mean mg mb text x d l p f1 rest) (hod : LexD w od ln f1 p) (hol : ol = W.listOf #[.int i ti] 0) (hi : i ≤ text.length)
   {n : Nat} (hp : (p, W.listOf #[] n) ∈ rest)
   {res : List Nat} (hres : tokAt text.cps.toList i res)
   (ret : ∀ h' tk' t' od' ol' ln' t2, Fr h₀ L h' m → News h₀ L h' ((d, od') :: (l, ol') :: rest) → LexD w od' ln' f1 p → ol' = W.listOf #[.int (text.length : Nat) t2] 0 → R (.ok (.ret (.str ⟨res.toArray⟩ t'))) { s with heap := h', toks := tk' }) :
   codeAny (model prog w) (ktrTop dp un gd cn cs L a ccd cl outer) (.call (.ref 77) ⟨[.ref x], []⟩) R s := by
  obtain ⟨k1, k2, k3, k4, t1, t2, rfl⟩ := hod
  have hinst := Z.inst
  k_dflt (refine' code_def ?k1 ?k2 ?k3 ?k4 ?k5 ?kA ?kF ?kK ?k6 ?k7 ?k8 ?k9 ?kB ?_ ?c2 ?c3 ?c4 ?c5; (case kA => exact rfl); (case kF => exact rfl); (case kK => assumption); (case k1 => k_asm); (case k2 => k_asm); (case k3 => k_asm); (case k4 => k_asm); (case k5 => k_asm); (case k6 => k_is); (case k7 => k_is); (case k8 => k_room); (case k9 => first | exact BindsTo.of_eq rfl | exact binds_K (by k_in) rfl (by k_is) rfl rfl rfl); (case c5 => decide); (case kB => exact locs rfl); (case c2 => exact rfl); (case c3 => exact rfl); (case c4 => exact rfl); k_whole; intro g' L' h' FG' F' N' B' X' T'; (try dsimp only); (try k_lift B'); (try k_fold))
  try dsimp only
  refine gen_toks fun tk0 => ?_
  k_steps
  rename Fr _ _ _ _ => F1
  rename News _ _ _ _ => N1
  refine truthy_nil (N1 _ (.tail _ (.tail _ hp))).1 ?_
  k_steps
  rename Fr _ _ _ _ => F3
  rename News _ _ _ _ => N3
  refine call_iter2 F3 N3 (.head _) ?_
  intro h2 it F2 N2 hit
  k_steps
  refine Hold.out ?_
  refine wpAny_mono (E := fun _ _ => False) (wpAny_For ?_ (by intro _; rfl)) (fun _ _ x => x) fun _ _ x => x.elim
  k_steps
  rename Fr _ _ _ _ => F4
  rename News _ _ _ _ => N4
  rename _ ∧ _ => hq1
  refine ci_pyIter (N4 _ (.head _)).1 ?_
  obtain ⟨rest1, gr, Z1, N5, U1, hqm, hs1, hs2, hs3⟩ := lex_fix2 Z N4 hit hq1
  have hlen : text.cps.toList.length = text.length := Array.length_toList
  clear N4 hit hq1
  try dsimp only
  refine gen_toksC fun tk1 => ?_
  obtain ⟨I, hI, hI1⟩ : ∃ I : Nat → Shared → Prop, (∀ {n s'}, TokJ w g' L' text d l f1 p (gr ciEnd) res s n s' → I n s') ∧ (∀ n s', I n s' → (n = 1 ∧ s' = _) ∨ TokJ w g' L' text d l f1 p (gr ciEnd) res s n s') ∧ I 1 _ := ⟨fun n s' => (n = 1 ∧ s' = _) ∨ TokJ w g' L' text d l f1 p (gr ciEnd) res s n s', .inr, fun _ _ h => h, .inl ⟨rfl, rfl⟩⟩
  refine gen_R fun Pr qr => ?_
  refine codeAny_forLoop_any I ?_ 1 hI1.2
  intro n1 s1 hI2
  replace hI2 := hI1.1 n1 s1 hI2
  clear hI1
  rcases hI2 with ⟨rfl, rfl⟩ | ⟨h', tk', m'', od', ol', ln', t2, tt, F6, N6, hd6, hl6, hm1⟩
  · rcases hres with ⟨hie, rfl⟩ | ⟨hc, hrun⟩ | ⟨c, hc, hc34, hrun⟩
    · k_dflt (refine' ci_next_none ?B F4 ?X N5 ?T ?hk ?hdp ?hun Z1 ⟨k1, k2, k3, k4, t1, t2, rfl⟩ hol U1 hqm ?hi ?_)
      case B => k_asm
      case X => k_asm
      case T => k_asm
      case hk => exact rfl
      case hdp => exact room1 (k := 1) (b := 40) hdp (Nat.le_of_ble_eq_true rfl)
      case hun => exact room1 (k := 3) (b := 400) hun (Nat.le_of_ble_eq_true rfl)
      case hi => omega
      intro h2 tk2 od2 ol2 ln2 t3 F6 N6 hd6 hl6
      clear F4 N5
      k_steps
      refine qr _ _ ?_
      k_steps
      rename Fr _ _ (Shared.heap _) _ => F8
      rename News _ _ (Shared.heap _) _ => N8
      exact ret _ _ _ _ _ _ _ F8 (news_sub2 hs2 N8) hd6 (by rw [hl6, hie, hlen])
    · k_dflt (refine' ci_next_some ?B F4 ?X N5 ?T ?hk ?hdp ?hun Z1 ⟨k1, k2, k3, k4, t1, t2, rfl⟩ hol (upd_mem U1) hqm hc ?_)
      case B => k_asm
      case X => k_asm
      case T => k_asm
      case hk => exact rfl
      case hdp => exact room1 (k := 1) (b := 40) hdp (Nat.le_of_ble_eq_true rfl)
      case hun => exact room1 (k := 3) (b := 400) hun (Nat.le_of_ble_eq_true rfl)
      intro h2 tk2 t' od2 ol2 ln2 t3 F6 N6 hd6 hl6
      clear F4 N5
      obtain ⟨k1, k2, k3, k4, t1, t2, rfl⟩ := hd6
      have hinst1 := Z1.inst
      have hW := (white_occ 34).trans (show (!decide (isWhite 34)) = true from rfl)
      rw [show (⟨#[34]⟩ : Str) = Str.ofString "\"" from by decide +kernel] at hW
      refine wpAny_of_eq (a := ()) rfl ?_
      k_steps
      rotate_left
      · rename (Builtin.Str.occurrences _ _ 0 _ 1).isEmpty = false => hz
        exact absurd (hW.symm.trans hz) (by decide)
      refine Hold.out ?_
      refine wpAny_mono (E := fun _ _ => False) (wpAny_For ?_ (by intro _; rfl)) (fun _ _ x => x) fun _ _ x => x.elim
      k_steps
      rename Fr g' L' _ _ => F7
      rename News g' L' _ _ => N7
      refine ci_pyIter (N7 _ (.tail _ (.tail _ (upd_mem U1)))).1 ?_
      k_dflt (refine' for_ci ?h1 ?h2 ?h3 ?B F7 ?X N7 ?T ?hk ?hdp ?hun Z1 ⟨k1, k2, k3, k4, t1, t2, rfl⟩ hl6 U1 hqm ?hi (fun i m' => ∃ acc tt, m' (Str.ofString "token") = some (.str ⟨acc.toArray⟩ tt) ∧ m' (Str.ofString "self") = some (.ref x) ∧ m' (Str.ofString "fiter") = some (.ref it) ∧ acc.length ≤ i ∧ qrun acc (text.cps.toList.drop i) = some (res, [])) ⟨[], _, rfl, rfl, rfl, Nat.zero_le _, hrun⟩ ?turn ?done)
      case h1 => exact rfl
      case h2 => exact rfl
      case h3 => exact rfl
      case B => k_asm
      case X => k_asm
      case T => k_asm
      case hk => exact rfl
      case hdp => exact room1 (k := 1) (b := 40) hdp (Nat.le_of_ble_eq_true rfl)
      case hun => exact room1 (k := 3) (b := 400) hun (Nat.le_of_ble_eq_true rfl)
      case hi => 
        rcases Nat.lt_or_ge i text.length with h | h
        · exact h
        · rw [List.getElem?_eq_none (by omega)] at hc; cases hc
      case done =>
        rintro m' od ol h tk ln ti ⟨acc, tt, _, _, _, _, hq⟩
        rw [List.drop_of_length_le (by omega)] at hq
        cases hq
      case turn =>
        clear F7 N7
        rintro i2 m' od ol c h tk ln ti tc hc2 hi2 ⟨acc, tt, hm1, hm2, hm3, hacc, hq⟩ F6 N6 ⟨k1, k2, k3, k4, t1, t2, rfl⟩ hol2
        refine gen_Q fun Pf qf => ?_
        rw [loc3 hm1 hm2 hm3 (fun y _ _ _ => rfl)] at F6
        rw [qrun_at hc2] at hq
        have hinst1 := Z1.inst
        by_cases h34 : c = 34
        · subst h34
          simp only [if_true, Option.some.injEq, Prod.mk.injEq] at hq
          obtain ⟨rfl, hq2⟩ := hq
          have hl2 : i2 + 1 = text.length := by
            have := List.drop_eq_nil_iff.mp hq2
            omega
          k_steps
          refine qf _ _ ?_
          refine qr _ _ ?_
          k_steps
          rename Fr _ _ (Shared.heap _) _ => F8
          rename News _ _ (Shared.heap _) _ => N8
          exact ret _ _ _ _ _ _ _ F8 (news_sub2 hs1 N8) ⟨_, _, _, _, _, _, rfl⟩ (by rw [hol2, hl2])
        · rw [if_neg h34] at hq
          have hlen4 := Z1.len
          by_cases h92 : c = 92
          · subst h92
            rw [if_pos rfl] at hq
            obtain ⟨c2, hc3, htk, hlt3, hq⟩ := qrun_esc hq
            k_steps
            refine Hold.out ?_
            refine wpAny_call ?_
            k_dflt (refine' rc_spec ?B F6 ?X N6 ?T ?hk ?hdp ?hun Z1 ⟨k1, k2, k3, k4, t1, t2, rfl⟩ hol2 ?hi ?_)
            case B => k_asm
            case X => k_asm
            case T => k_asm
            case hk => exact rfl
            case hdp => exact room1 (k := 1) (b := 30) hdp (Nat.le_of_ble_eq_true rfl)
            case hun => exact room1 (k := 3) (b := 300) hun (Nat.le_of_ble_eq_true rfl)
            case hi => omega
            intro h9 tk9 t9 od9 ol9 ln9 t10 F9 N9 hd9 hl9
            rw [htk] at hl9 ⊢
            k_steps
            rename Fr g' L' _ _ => F10
            rename News g' L' _ _ => N10
            exact qf _ _ (CEnd.mk (i2 + 2) (by omega) (by omega) F10 N10 hd9 (by rw [hl9]; rfl) ⟨acc ++ [c2], _, tok_eq acc [c2] _, rfl, rfl, by simp only [List.length_append, List.length_cons, List.length_nil]; omega, hq⟩)
          · rw [if_neg h92] at hq
            have e1 := one_ne1 h34
            have e2 := one_ne2 h92
            k_steps
            rename Fr g' L' _ _ => F10
            rename News g' L' _ _ => N10
            exact qf _ _ (CEnd.mk (i2 + 1) (by omega) (by omega) F10 N10 ⟨_, _, _, _, _, _, rfl⟩ hol2 ⟨acc ++ [c], _, tok_eq acc [c] _, rfl, rfl, by simp only [List.length_append, List.length_cons, List.length_nil]; omega, hq⟩)
    · have hci : i < text.length := by
        rcases Nat.lt_or_ge i text.length with h | h
        · exact h
        · rw [List.getElem?_eq_none (by omega)] at hc; cases hc
      k_dflt (refine' ci_next_some ?B F4 ?X N5 ?T ?hk ?hdp ?hun Z1 ⟨k1, k2, k3, k4, t1, t2, rfl⟩ hol (upd_mem U1) hqm hc ?_)
      case B => k_asm
      case X => k_asm
      case T => k_asm
      case hk => exact rfl
      case hdp => exact room1 (k := 1) (b := 40) hdp (Nat.le_of_ble_eq_true rfl)
      case hun => exact room1 (k := 3) (b := 400) hun (Nat.le_of_ble_eq_true rfl)
      intro h2 tk2 t' od2 ol2 ln2 t3 F6 N6 hd6 hl6
      clear F4 N5
      obtain ⟨k1, k2, k3, k4, t1, t2, rfl⟩ := hd6
      have hinst1 := Z1.inst
      have hlen4 := Z1.len
      have hrun0 := hrun
      rw [brun_at hc] at hrun
      by_cases hwc : isWhite c
      · rw [if_pos hwc] at hrun; cases hrun
      rw [if_neg hwc] at hrun
      have hW := white_no hwc
      have e1 := one_ne1 hc34
      refine wpAny_of_eq (a := ()) rfl ?_
      by_cases h92 : c = 92
      · rw [if_pos h92] at hrun
        have e2 := one_eq2 h92
        obtain ⟨c2, hc3, htk, hlt3, hrun⟩ := brun_esc hrun
        k_steps
        refine Hold.out ?_
        refine wpAny_call ?_
        rename Fr g' L' _ _ => F7
        rename News g' L' _ _ => N7
        k_dflt (refine' rc_spec ?B F7 ?X N7 ?T ?hk ?hdp ?hun Z1 ⟨k1, k2, k3, k4, t1, t2, rfl⟩ hl6 ?hi ?_)
        case B => k_asm
        case X => k_asm
        case T => k_asm
        case hk => exact rfl
        case hdp => exact room1 (k := 1) (b := 30) hdp (Nat.le_of_ble_eq_true rfl)
        case hun => exact room1 (k := 3) (b := 300) hun (Nat.le_of_ble_eq_true rfl)
        case hi => omega
        intro h9 tk9 t9 od9 ol9 ln9 t10 F9 N9 hd9 hl9
        rw [htk] at hl9 ⊢
        clear F7 N7
        have hl9' := hl9.trans (show _ = W.listOf #[.int ((i + 2 : Nat) : Int) t10] 0 from rfl)
        obtain ⟨k1, k2, k3, k4, t1, t2, rfl⟩ := hd9
        k_steps
        refine Hold.out ?_
        refine wpAny_mono (E := fun _ _ => False) (wpAny_For ?_ (by intro _; rfl)) (fun _ _ x => x) fun _ _ x => x.elim
        k_steps
        rename Fr g' L' _ _ => F11
        rename News g' L' _ _ => N11
        refine ci_pyIter (N11 _ (.tail _ (.tail _ (upd_mem U1)))).1 ?_
        k_dflt (refine' for_ci ?h1 ?h2 ?h3 ?B F11 ?X N11 ?T ?hk ?hdp ?hun Z1 ⟨k1, k2, k3, k4, t1, t2, rfl⟩ hl9' U1 hqm ?hi (fun i m' => ∃ acc tt, m' (Str.ofString "token") = some (.str ⟨acc.toArray⟩ tt) ∧ m' (Str.ofString "self") = some (.ref x) ∧ m' (Str.ofString "fiter") = some (.ref it) ∧ acc.length ≤ i ∧ brun acc (text.cps.toList.drop i) = some res) ⟨[] ++ [c2], _, tok_eq [] [c2] _, rfl, rfl, Nat.le_trans (Nat.le_refl 1) (by omega), hrun⟩ ?turn ?done)
        case h1 => exact rfl
        case h2 => exact rfl
        case h3 => exact rfl
        case B => k_asm
        case X => k_asm
        case T => k_asm
        case hk => exact rfl
        case hdp => exact room1 (k := 1) (b := 40) hdp (Nat.le_of_ble_eq_true rfl)
        case hun => exact room1 (k := 3) (b := 400) hun (Nat.le_of_ble_eq_true rfl)
        case hi => omega
        case done =>
          clear F11 N11
          rintro m' od ol h tk ln ti ⟨acc, tt, hm1, _, _, _, hq⟩ F12 N12 hd12 hl12
          rw [List.drop_of_length_le (by omega)] at hq
          cases hq
          k_steps
          rotate_right
          exact 0
          exact Nat.lt_succ_self 0
          exact hI (.mk _ _ _ _ _ _ _ _ (by k_asm) (by k_asm) hd12 hl12 hm1)
        case turn =>
          clear F11 N11
          rintro i2 m' od ol c h tk ln ti tc hc2 hi2 ⟨acc, tt, hm1, hm2, hm3, hacc, hq⟩ F6 N6 ⟨k1, k2, k3, k4, t1, t2, rfl⟩ hol2
          refine gen_Q fun Pf qf => ?_
          rw [loc3 hm1 hm2 hm3 (fun y _ _ _ => rfl)] at F6
          rw [brun_at hc2] at hq
          by_cases hwc : isWhite c
          · rw [if_pos hwc] at hq; cases hq
          rw [if_neg hwc] at hq
          have hW := white_no hwc
          by_cases h92 : c = 92
          · rw [if_pos h92] at hq
            have e2 := one_eq2 h92
            obtain ⟨c2, hc3, htk, hlt3, hq⟩ := brun_esc hq
            k_steps
            refine Hold.out ?_
            refine wpAny_call ?_
            k_dflt (refine' rc_spec ?B F6 ?X N6 ?T ?hk ?hdp ?hun Z1 ⟨k1, k2, k3, k4, t1, t2, rfl⟩ hol2 ?hi ?_)
            case B => k_asm
            case X => k_asm
            case T => k_asm
            case hk => exact rfl
            case hdp => exact room1 (k := 1) (b := 30) hdp (Nat.le_of_ble_eq_true rfl)
            case hun => exact room1 (k := 3) (b := 300) hun (Nat.le_of_ble_eq_true rfl)
            case hi => omega
            intro h9 tk9 t9 od9 ol9 ln9 t10 F9 N9 hd9 hl9
            rw [htk] at hl9 ⊢
            k_steps
            rename Fr g' L' _ _ => F10
            rename News g' L' _ _ => N10
            exact qf _ _ (CEnd.mk (i2 + 2) (by omega) (by omega) F10 N10 hd9 (by rw [hl9]; rfl) ⟨acc ++ [c2], _, tok_eq acc [c2] _, rfl, rfl, by simp only [List.length_append, List.length_cons, List.length_nil]; omega, hq⟩)
          · rw [if_neg h92] at hq
            have e2 := one_ne2 h92
            k_steps
            rename Fr g' L' _ _ => F10
            rename News g' L' _ _ => N10
            exact qf _ _ (CEnd.mk (i2 + 1) (by omega) (by omega) F10 N10 ⟨_, _, _, _, _, _, rfl⟩ hol2 ⟨acc ++ [c], _, tok_eq acc [c] _, rfl, rfl, by simp only [List.length_append, List.length_cons, List.length_nil]; omega, hq⟩)
      · rw [if_neg h92] at hrun
        have e2 := one_ne2 h92
        k_steps
        refine Hold.out ?_
        refine wpAny_mono (E := fun _ _ => False) (wpAny_For ?_ (by intro _; rfl)) (fun _ _ x => x) fun _ _ x => x.elim
        k_steps
        rename Fr g' L' _ _ => F11
        rename News g' L' _ _ => N11
        refine ci_pyIter (N11 _ (.tail _ (.tail _ (upd_mem U1)))).1 ?_
        k_dflt (refine' for_ci ?h1 ?h2 ?h3 ?B F11 ?X N11 ?T ?hk ?hdp ?hun Z1 ⟨k1, k2, k3, k4, t1, t2, rfl⟩ hl6 U1 hqm ?hi (fun i m' => ∃ acc tt, m' (Str.ofString "token") = some (.str ⟨acc.toArray⟩ tt) ∧ m' (Str.ofString "self") = some (.ref x) ∧ m' (Str.ofString "fiter") = some (.ref it) ∧ acc.length ≤ i ∧ brun acc (text.cps.toList.drop i) = some res) ⟨[] ++ [c], _, tok_eq [] [c] _, rfl, rfl, Nat.le_trans (Nat.le_refl 1) (by omega), hrun⟩ ?turn ?done)
        case h1 => exact rfl
        case h2 => exact rfl
        case h3 => exact rfl
        case B => k_asm
        case X => k_asm
        case T => k_asm
        case hk => exact rfl
        case hdp => exact room1 (k := 1) (b := 40) hdp (Nat.le_of_ble_eq_true rfl)
        case hun => exact room1 (k := 3) (b := 400) hun (Nat.le_of_ble_eq_true rfl)
        case hi => omega
        case done =>
          clear F11 N11
          rintro m' od ol h tk ln ti ⟨acc, tt, hm1, _, _, _, hq⟩ F12 N12 hd12 hl12
          rw [List.drop_of_length_le (by omega)] at hq
          cases hq
          k_steps
          rotate_right
          exact 0
          exact Nat.lt_succ_self 0
          exact hI (.mk _ _ _ _ _ _ _ _ (by k_asm) (by k_asm) hd12 hl12 hm1)
        case turn =>
          clear F11 N11
          rintro i2 m' od ol c h tk ln ti tc hc2 hi2 ⟨acc, tt, hm1, hm2, hm3, hacc, hq⟩ F6 N6 ⟨k1, k2, k3, k4, t1, t2, rfl⟩ hol2
          refine gen_Q fun Pf qf => ?_
          rw [loc3 hm1 hm2 hm3 (fun y _ _ _ => rfl)] at F6
          rw [brun_at hc2] at hq
          by_cases hwc : isWhite c
          · rw [if_pos hwc] at hq; cases hq
          rw [if_neg hwc] at hq
          have hW := white_no hwc
          by_cases h92 : c = 92
          · rw [if_pos h92] at hq
            have e2 := one_eq2 h92
            obtain ⟨c2, hc3, htk, hlt3, hq⟩ := brun_esc hq
            k_steps
            refine Hold.out ?_
            refine wpAny_call ?_
            k_dflt (refine' rc_spec ?B F6 ?X N6 ?T ?hk ?hdp ?hun Z1 ⟨k1, k2, k3, k4, t1, t2, rfl⟩ hol2 ?hi ?_)
            case B => k_asm
            case X => k_asm
            case T => k_asm
            case hk => exact rfl
            case hdp => exact room1 (k := 1) (b := 30) hdp (Nat.le_of_ble_eq_true rfl)
            case hun => exact room1 (k := 3) (b := 300) hun (Nat.le_of_ble_eq_true rfl)
            case hi => omega
            intro h9 tk9 t9 od9 ol9 ln9 t10 F9 N9 hd9 hl9
            rw [htk] at hl9 ⊢
            k_steps
            rename Fr g' L' _ _ => F10
            rename News g' L' _ _ => N10
            exact qf _ _ (CEnd.mk (i2 + 2) (by omega) (by omega) F10 N10 hd9 (by rw [hl9]; rfl) ⟨acc ++ [c2], _, tok_eq acc [c2] _, rfl, rfl, by simp only [List.length_append, List.length_cons, List.length_nil]; omega, hq⟩)
          · rw [if_neg h92] at hq
            have e2 := one_ne2 h92
            k_steps
            rename Fr g' L' _ _ => F10
            rename News g' L' _ _ => N10
            exact qf _ _ (CEnd.mk (i2 + 1) (by omega) (by omega) F10 N10 ⟨_, _, _, _, _, _, rfl⟩ hol2 ⟨acc ++ [c], _, tok_eq acc [c] _, rfl, rfl, by simp only [List.length_append, List.length_cons, List.length_nil]; omega, hq⟩)
  · k_dflt (refine' ci_next_ended (s := { s with heap := h', toks := tk' }) ?hh F6 N6 (.tail _ (.tail _ (upd_mem (updF_again U1 _)))) ?_)
    case hh => exact rfl
    intro h2 F7 N7
    clear F6 N6
    rw [loc1 hm1 (fun y _ => rfl)] at F7
    k_steps
    refine qr _ _ ?_
    k_steps
    rename Fr _ _ (Shared.heap _) _ => F8
    rename News _ _ (Shared.heap _) _ => N8
    exact ret _ _ _ _ _ _ _ F8 (news_sub2 hs2 N8) hd6 hl6
end
section
variable {prog : Program} {w : World} {loose : List Str} {mean : ExcName → Option Value} {mg mb : Str → Option Value} {dp un : Nat} {gd : Option (List Code)} {cn : Str} {cs : Scope} {a : Addr} {ccd : Value} {cl : List (Str × Addr)} {outer : List Env} {A₀ : Around} {base h₀ : Heap} {L : Addr} {m : Str → Option Value} {news : List (Addr × Obj)} {s : Shared} {Q E : Value → Shared → Prop}
theorem updF_upd {d : Addr} {o o' : Obj} {l : List (Addr × Obj)} {g : Obj → List (Addr × Obj)} (U : UpdF d o l g) : Upd d o o' l (g o') := by
  induction U with
  | head h => exact .head h
  | tail h _ ih => exact .tail h ih
theorem pop0_N {A : Around} {E : Value → Shared → Prop} {D : Addr} {t : Tok} {v : Value} {vs : List Value} {n : Nat} {g : Obj → List (Addr × Obj)} (F : Fr h₀ L s.heap m) (N : News h₀ L s.heap news) (U : UpdF D (W.listOf (v :: vs).toArray n) news g) (hf : vs.length < 10000)
    (h : ∀ h', Fr h₀ L h' m → News h₀ L h' (g (W.listOf vs.toArray (n + 1))) → Q v { s with heap := h' }) : wpAny (model prog w) A (call (.builtin "list.pop") [.ref D, .int 0 t]) Q E s :=
  kl_popAt (p := []) (q := vs) (k := 0) F N rfl (by simp [seqIndex?]) rfl (updF_upd U) (by rw [sizeLine_eq]; simp only [List.length_cons]; omega) h
theorem append_N {A : Around} {E : Value → Shared → Prop} {D : Addr} {v : Value} {vs : List Value} {n : Nat} {g : Obj → List (Addr × Obj)} (F : Fr h₀ L s.heap m) (N : News h₀ L s.heap news) (U : UpdF D (W.listOf vs.toArray n) news g) (hf : vs.length < 10000)
    (h : ∀ h', Fr h₀ L h' m → News h₀ L h' (g (W.listOf (vs ++ [v]).toArray (n + 1))) → Q .none { s with heap := h' }) : wpAny (model prog w) A (call (.builtin "list.append") [.ref D, v]) Q E s :=
  append_K (its := vs.toArray) F N (updF_upd U) (fun h' F' N' => h h' F' (by rw [List.push_toArray] at N'; exact N')) (by rw [sizeLine_eq, List.size_toArray]; omega)
theorem pop_spec {R : Result → Shared → Prop} {x d p f1 : Addr} {od : Obj} {ln : Int} {g : Obj → List (Addr × Obj)} {v : Value} {vs : List Value} {n : Nat}
   (B : Below A₀ base outer h₀) (F : Fr h₀ L s.heap m) (X : (hd.heap_1 w.params).In h₀) (N : News h₀ L s.heap news)
   (T : Top topProg loose mean mg mb h₀) (hk : cs.kind = .function)  (hdp : dp + 60 < recursionLimit) (hun : un + 600 < cLine)
   (hinst : (x, instObj 87 d) ∈ news) (hdm : (d, od) ∈ news) (hod : LexD w od ln f1 p) (U : UpdF p (W.listOf (v :: vs).toArray n) news g) (hf : vs.length < 10000)
   (ret : ∀ h' tk', Fr h₀ L h' m → News h₀ L h' (g (W.listOf vs.toArray (n + 1))) → R (.ok (.ret v)) { s with heap := h', toks := tk' }) :
   codeAny (model prog w) (ktrTop dp un gd cn cs L a ccd cl outer) (.call (.ref 77) ⟨[.ref x], []⟩) R s := by
  obtain ⟨k1, k2, k3, k4, t1, t2, rfl⟩ := hod
  have hpm := upd_mem U
  have hsz : vs.toArray.size ≤ sizeLine := by rw [sizeLine_eq, List.size_toArray]; omega
  k_dflt (refine' code_def ?k1 ?k2 ?k3 ?k4 ?k5 ?kA ?kF ?kK ?k6 ?k7 ?k8 ?k9 ?kB ?_ ?c2 ?c3 ?c4 ?c5; (case kA => exact rfl); (case kF => exact rfl); (case kK => assumption); (case k1 => k_asm); (case k2 => k_asm); (case k3 => k_asm); (case k4 => k_asm); (case k5 => k_asm); (case k6 => k_is); (case k7 => k_is); (case k8 => k_room); (case k9 => first | exact BindsTo.of_eq rfl | exact binds_K (by k_in) rfl (by k_is) rfl rfl rfl); (case c5 => decide); (case kB => exact locs rfl); (case c2 => exact rfl); (case c3 => exact rfl); (case c4 => exact rfl); k_whole; intro g' L' h' FG' F' N' B' X' T'; (try dsimp only); (try k_lift B'); (try k_fold))
  k_steps
  rename Fr g' L' _ _ => F1
  rename News g' L' _ _ => N1
  refine truthy_cons (N1 _ (upd_mem U)).1 (by omega) ?_
  k_steps
  refine pop0_N F1 N1 U hf ?_
  intro h2 F2 N2
  k_steps
  exact ret _ _ (by k_asm) (by k_asm)
theorem push_spec {R : Result → Shared → Prop} {x d p f1 : Addr} {od : Obj} {ln : Int} {g : Obj → List (Addr × Obj)} {v : Value} {vs : List Value} {n : Nat}
   (B : Below A₀ base outer h₀) (F : Fr h₀ L s.heap m) (X : (hd.heap_1 w.params).In h₀) (N : News h₀ L s.heap news)
   (T : Top topProg loose mean mg mb h₀) (hk : cs.kind = .function)  (hdp : dp + 60 < recursionLimit) (hun : un + 600 < cLine)
   (hinst : (x, instObj 87 d) ∈ news) (hdm : (d, od) ∈ news) (hod : LexD w od ln f1 p) (U : UpdF p (W.listOf vs.toArray n) news g) (hf : vs.length < 10000)
   (ret : ∀ h' tk', Fr h₀ L h' m → News h₀ L h' (g (W.listOf (vs ++ [v]).toArray (n + 1))) → R (.ok (.ret .none)) { s with heap := h', toks := tk' }) :
   codeAny (model prog w) (ktrTop dp un gd cn cs L a ccd cl outer) (.call (.ref 84) ⟨[.ref x, v], []⟩) R s := by
  obtain ⟨k1, k2, k3, k4, t1, t2, rfl⟩ := hod
  have hpm := upd_mem U
  have hsz : vs.toArray.size ≤ sizeLine := by rw [sizeLine_eq, List.size_toArray]; omega
  k_dflt (refine' code_def ?k1 ?k2 ?k3 ?k4 ?k5 ?kA ?kF ?kK ?k6 ?k7 ?k8 ?k9 ?kB ?_ ?c2 ?c3 ?c4 ?c5; (case kA => exact rfl); (case kF => exact rfl); (case kK => assumption); (case k1 => k_asm); (case k2 => k_asm); (case k3 => k_asm); (case k4 => k_asm); (case k5 => k_asm); (case k6 => k_is); (case k7 => k_is); (case k8 => k_room); (case k9 => first | exact BindsTo.of_eq rfl | exact binds_K (by k_in) rfl (by k_is) rfl rfl rfl); (case c5 => decide); (case kB => exact locs rfl); (case c2 => exact rfl); (case c3 => exact rfl); (case c4 => exact rfl); k_whole; intro g' L' h' FG' F' N' B' X' T'; (try dsimp only); (try k_lift B'); (try k_fold))
  k_steps
  rename Fr g' L' _ _ => F1
  rename News g' L' _ _ => N1
  refine append_N F1 N1 U hf ?_
  intro h2 F2 N2
  k_steps
  exact ret _ _ (by k_asm) (by k_asm)
end
section
open PySem PySem.W PyProof.Rows PySem.Calls PySem.Spec
section
variable {prog : Program} {w : World} {A : Around} {E : Value → Shared → Prop} {s : Shared} {env : Env} {h₀ : Heap} {m : Str → Option Value} {news : List (Addr × Obj)}

/-- a turn's end -/
noncomputable def LEnd (h₀ : Heap) (L : Addr) (own : List (Addr × Obj)) (J : (Str → Option Value) → List (Addr × Obj) → Prop) (s s₃ : Shared) : Prop :=
  ∃ h' tk' m'' news'', s₃ = { s with heap := h', toks := tk' } ∧ Fr h₀ L h' m'' ∧ News h₀ L h' (news'' ++ own) ∧ (∀ p ∈ news'', ∀ q ∈ own, p.1 = q.1 → p = q) ∧ J m'' news''

theorem LEnd.mk {h₀ : Heap} {L : Addr} {own : List (Addr × Obj)} {J : (Str → Option Value) → List (Addr × Obj) → Prop} {s : Shared} {h' : Heap} {tk' : Nat} {m'' : Str → Option Value} (news'' : List (Addr × Obj))
    (F : Fr h₀ L h' m'') (N : News h₀ L h' (news'' ++ own)) (hJ : J m'' news'') : LEnd h₀ L own J s { s with heap := h', toks := tk' } :=
  ⟨_, _, _, news'', rfl, F, N, fun p hp q hq e => by
    have h1 := (N p (List.mem_append_left _ hp)).1
    have h2 := (N q (List.mem_append_right _ hq)).1
    rw [e, h2] at h1
    cases p; cases q
    cases Option.some.inj h1
    dsimp only at e
    subst e
    rfl, hJ⟩
theorem LEnd.mkS {h₀ : Heap} {L : Addr} {own news1 : List (Addr × Obj)} {J : (Str → Option Value) → List (Addr × Obj) → Prop} {s : Shared} {h' : Heap} {tk' : Nat} {m'' : Str → Option Value} (news'' : List (Addr × Obj))
    (F : Fr h₀ L h' m'') (N : News h₀ L h' news1) (hs : ∀ p ∈ news'', p ∈ news1) (ho : ∀ p ∈ own, p ∈ news1) (hJ : J m'' news'') : LEnd h₀ L own J s { s with heap := h', toks := tk' } :=
  LEnd.mk news'' F (fun p hp => N p ((List.mem_append.mp hp).elim (hs p) (ho p))) hJ

theorem for_name {R : Result → Shared → Prop} {xv : Str} {pv : Pos} {body : List Stmt} {I : Addr} {fp wr : List Addr} {n : Nat} {P : Nat → Value → Prop} {St : Nat → Heap → Prop}
    (W : Walks prog w A I fp wr n P St) (hxv : env.kindOf xv = some .local) (hpp : (env.scope.kind == .class || (env.scope.kind == .module && env.locals != env.globals)) = false)
    (hLf : env.locals ∉ fp) (hwr : ∀ b ∈ wr, h₀.get? b = none) (hnw : ∀ p ∈ news, p.1 ∉ wr) (hst : St 0 s.heap) (F : Fr h₀ env.locals s.heap m) (N : News h₀ env.locals s.heap news)
    (J : Nat → (Str → Option Value) → List (Addr × Obj) → Prop) (h0 : J 0 m news) (hJw : ∀ k m' news', J k m' news' → ∀ p ∈ news', p.1 ∉ wr) (hex : ∀ k h, St k h → ∀ b ∈ wr, ∃ o, h.get? b = some o)
    (turn : ∀ k v m' news' own h tk, k < n → P k v → J k m' news' → (∀ p ∈ own, p.1 ∈ fp) → (∀ b ∈ wr, ∃ o, (b, o) ∈ own) → Fr h₀ env.locals h (fun y => if y = xv then some v else m' y) → News h₀ env.locals h (news' ++ own) →
      wpAny (model prog w) A (execs body env) (fun f s₃ => match f with
        | .next | .cont => LEnd h₀ env.locals own (J (k + 1)) s s₃
        | .brk => R (.ok .next) s₃
        | .ret v => R (.ok (.ret v)) s₃) (fun _ _ => False) { s with heap := h, toks := tk })
    (done : ∀ m' news' h tk, J n m' news' → Fr h₀ env.locals h m' → News h₀ env.locals h news' → R (.ok .next) { s with heap := h, toks := tk }) :
    codeAny (model prog w) A (.forLoop (.Name xv pv) (.ref I) body [] env) R s := by
  refine ktu_loop (KTurns.ofWalks W fun i v s' Q' E' _ hq => wpAny_of_eq (a := ()) rfl hq) hLf hwr hnw hst F N J h0 ?_ (fun h' tk m' news' F' N' _ hJ => done m' news' h' tk hJ F' N')
  intro i v m₁ news₁ h₁ tk₁ own hi hP hJ hnw₁ hown1 hown2 hown3 hst₁ F₁ N₁
  have hown4 : ∀ b ∈ wr, ∃ o, (b, o) ∈ own := fun b hb => let ⟨o, ho⟩ := hex _ _ hst₁ b hb; ⟨o, hown3 b (W.sub b hb) (hwr b hb) o ho⟩
  refine wpAny_assign_Name (wpAny_storeName_local (s := { s with heap := h₁, toks := tk₁ }) hxv F₁.ns (fun h₄ hn₄ hs₄ => ?_) hpp)
  replace hs₄ : Heap.SameBut env.locals h₁ h₄ := hs₄
  have N₂ : News h₀ env.locals h₁ (news₁ ++ own) := fun p hp => N₁ p (List.mem_append.mpr ((List.mem_append.mp hp).symm))
  have ht := turn i v m₁ news₁ own h₄ (tk₁ + 1) hi hP hJ hown1 hown4 (F₁.set hn₄ hs₄) (N₂.set hs₄)
  refine wpAny_mono (E := fun _ _ => False) ht (fun f s₃ h₃ => ?_) fun _ _ x => x.elim
  have key : LEnd h₀ env.locals own (J (i + 1)) s s₃ → LoopStepU h₀ env.locals wr own (J (i + 1)) { s with heap := h₁, toks := tk₁ } .next s₃ := by
    rintro ⟨h', tk', m'', news'', rfl, F', N', _, hJ'⟩
    exact ⟨rfl, h', tk', m'', news'', rfl, F', fun p hp => N' p (List.mem_append.mpr ((List.mem_append.mp hp).symm)), hJw _ _ _ hJ', hJ'⟩
  cases f with
  | next => exact key h₃
  | cont => exact key h₃
  | brk => exact h₃
  | ret v => exact h₃

theorem for_two {R : Result → Shared → Prop} {xa xb : Str} {pa pb pt : Pos} {k1 : Nat} {body : List Stmt} {I : Addr} {fp wr : List Addr} {n : Nat} {Pt : Nat → Array Value → Prop} {St : Nat → Heap → Prop} {Mid : Nat → Addr → Heap → Prop}
    (hh : A.handled = none) (W : WalksU prog w A I fp wr n Pt St Mid) (hxa : env.kindOf xa = some .local) (hxb : env.kindOf xb = some .local) (hpp : (env.scope.kind == .class || (env.scope.kind == .module && env.locals != env.globals)) = false)
    (hLf : env.locals ∉ fp) (hwr : ∀ b ∈ wr, h₀.get? b = none) (hnw : ∀ p ∈ news, p.1 ∉ wr) (hst : St 0 s.heap) (F : Fr h₀ env.locals s.heap m) (N : News h₀ env.locals s.heap news)
    (J : Nat → (Str → Option Value) → List (Addr × Obj) → Prop) (h0 : J 0 m news) (hJw : ∀ k m' news', J k m' news' → ∀ p ∈ news', p.1 ∉ wr) (hex : ∀ k h, St k h → ∀ b ∈ wr, ∃ o, h.get? b = some o) (hPt : ∀ i vals, Pt i vals → ∃ a b, vals = #[a, b])
    (turn : ∀ k a b m' news' own h tk, k < n → Pt k #[a, b] → J k m' news' → (∀ p ∈ own, p.1 ∈ fp) → (∀ b ∈ wr, ∃ o, (b, o) ∈ own) → Fr h₀ env.locals h (fun y => if y = xb then some b else if y = xa then some a else m' y) → News h₀ env.locals h (news' ++ own) →
      wpAny (model prog w) A (execs body env) (fun f s₃ => match f with
        | .next | .cont => LEnd h₀ env.locals own (J (k + 1)) s s₃
        | .brk => R (.ok .next) s₃
        | .ret v => R (.ok (.ret v)) s₃) (fun _ _ => False) { s with heap := h, toks := tk })
    (done : ∀ m' news' h tk, J n m' news' → Fr h₀ env.locals h m' → News h₀ env.locals h news' → R (.ok .next) { s with heap := h, toks := tk }) :
    codeAny (model prog w) A (.forLoop (.Tuple [.Name xa pa, .Name xb pb] k1 pt) (.ref I) body [] env) R s := by
  refine ktu_loop (KTurns.ofWalksU W) hLf hwr hnw hst F N J h0 ?_ (fun h' tk m' news' F' N' _ hJ => done m' news' h' tk hJ F' N')
  intro i v m₁ news₁ h₁ tk₁ own hi hP hJ hnw₁ hown1 hown2 hown3 hst₁ F₁ N₁
  have hown4 : ∀ b ∈ wr, ∃ o, (b, o) ∈ own := fun b hb => let ⟨o, ho⟩ := hex _ _ hst₁ b hb; ⟨o, hown3 b (W.sub b hb) (hwr b hb) o ho⟩
  obtain ⟨T, vals, rfl, hvals, hT⟩ := hP
  obtain ⟨va, vb, rfl⟩ := hPt _ _ hvals
  refine wpAny_assign_Tuple (s := { s with heap := h₁, toks := tk₁ }) hh hT rfl rfl fun h₃ hx₃ => ?_
  replace hx₃ : Heap.ExtBut h₁.objs.size h₁ h₃ := hx₃
  have old₃ : ∀ b o, h₁.get? b = some o → h₃.get? b = some o := fun b o x => hx₃ b o (Nat.ne_of_lt (Heap.lt_size x)) x
  have F₃ := F₁.grownK old₃
  have N₃ := N₁.grown old₃
  show wpAny _ A (do holding [_] (assign (.Name xa pa) env va); do holding [] (assign (.Name xb pb) env vb); pure ()) _ _ _
  refine wpAny_bind (wpAny_holding (wpAny_assign_Name (wpAny_storeName_local hxa F₃.ns (fun h₄ hn₄ hs₄ => ?_) hpp)))
  replace hs₄ : Heap.SameBut env.locals h₃ h₄ := hs₄
  refine wpAny_bind (wpAny_holding (wpAny_assign_Name (wpAny_storeName_local hxb hn₄ (fun h₅ hn₅ hs₅ => wpAny_pure ?_) hpp)))
  replace hs₅ : Heap.SameBut env.locals h₄ h₅ := hs₅
  have F₅ := (F₃.set hn₄ hs₄).set hn₅ hs₅
  have N₅ : News h₀ env.locals h₅ (news₁ ++ own) := fun p hp => ((N₃.set hs₄).set hs₅) p (List.mem_append.mpr ((List.mem_append.mp hp).symm))
  have ht := turn i va vb m₁ news₁ own h₅ (tk₁ + 1 + 1) hi hvals hJ hown1 hown4 F₅ N₅
  refine wpAny_mono (E := fun _ _ => False) ht (fun f s₃ h₃ => ?_) fun _ _ x => x.elim
  have key : LEnd h₀ env.locals own (J (i + 1)) s s₃ → LoopStepU h₀ env.locals wr own (J (i + 1)) { s with heap := h₁, toks := tk₁ } .next s₃ := by
    rintro ⟨h', tk', m'', news'', rfl, F', N', _, hJ'⟩
    exact ⟨rfl, h', tk', m'', news'', rfl, F', fun p hp => N' p (List.mem_append.mpr ((List.mem_append.mp hp).symm)), hJw _ _ _ hJ', hJ'⟩
  cases f with
  | next => exact key h₃
  | cont => exact key h₃
  | brk => exact h₃
  | ret v => exact h₃

theorem no_old {h₀ h : Heap} {L b : Addr} {m : Str → Option Value} (F : Fr h₀ L h m) (hb : L ≤ b) : h₀.get? b = none := by
  cases e : h₀.get? b with
  | none => rfl
  | some o => exact absurd (Heap.lt_size e) (Nat.not_lt.mpr (Nat.le_trans F.above hb))
theorem L_lt {h₀ h : Heap} {L : Addr} {m : Str → Option Value} (F : Fr h₀ L h m) : L < h.objs.size := by
  obtain ⟨o, _, _, ho, _⟩ := F.ns
  exact Heap.lt_size ho

theorem for_enum {R : Result → Shared → Prop} {xa xb : Str} {pa pb pt : Pos} {k1 : Nat} {body : List Stmt} {sh : Heap} {D : Addr} {vs : List Value} {nn : Nat}
    (hh : A.handled = none) (hxa : env.kindOf xa = some .local) (hxb : env.kindOf xb = some .local) (hpp : (env.scope.kind == .class || (env.scope.kind == .module && env.locals != env.globals)) = false)
    (F : Fr h₀ env.locals sh m) (N : News h₀ env.locals sh news) (hD : (D, W.listOf vs.toArray nn) ∈ news) (hk : ∀ b o, sh.get? b = some o → s.heap.get? b = some o)
    (he : IsEnum s.heap (sh.objs.size + 1) sh.objs.size 0 .none) (hit : s.heap.IsListIter sh.objs.size D 0)
    (J : Nat → (Str → Option Value) → List (Addr × Obj) → Prop) (h0 : J 0 m news) (hJw : ∀ k m' news', J k m' news' → ∀ p ∈ news', p.1 ≠ sh.objs.size ∧ p.1 ≠ sh.objs.size + 1)
    (turn : ∀ k t v m' news' own h tk, vs[k]? = some v → J k m' news' → (∀ p ∈ own, p.1 = D ∨ p.1 = sh.objs.size ∨ p.1 = sh.objs.size + 1) → (∃ o1 o2, (sh.objs.size, o1) ∈ own ∧ (sh.objs.size + 1, o2) ∈ own) → Fr h₀ env.locals h (fun y => if y = xb then some v else if y = xa then some (.int (k : Nat) t) else m' y) → News h₀ env.locals h (news' ++ own) →
      wpAny (model prog w) A (execs body env) (fun f s₃ => match f with
        | .next | .cont => LEnd h₀ env.locals own (J (k + 1)) s s₃
        | .brk => R (.ok .next) s₃
        | .ret v => R (.ok (.ret v)) s₃) (fun _ _ => False) { s with heap := h, toks := tk })
    (done : ∀ m' news' h tk, J vs.length m' news' → Fr h₀ env.locals h m' → News h₀ env.locals h news' → R (.ok .next) { s with heap := h, toks := tk }) :
    codeAny (model prog w) A (.forLoop (.Tuple [.Name xa pa, .Name xb pb] k1 pt) (.ref (sh.objs.size + 1)) body [] env) R s := by
  have hDs : D < sh.objs.size := Heap.lt_size (N _ hD).1
  have hLs := L_lt F
  have F1 := F.grownK hk
  have N1 := N.grown hk
  have hl : s.heap.IsList D vs.toArray := PySem.IsL.isList (n := nn) (N1 _ hD).1
  refine for_two (news := news) (m := m) hh (WalksT.enumerate hh (sh.objs.size + 1) sh.objs.size D (Nat.succ_ne_self _) (Nat.ne_of_lt (Nat.lt_succ_of_lt hDs)) (Nat.ne_of_lt hDs) vs.toArray).toU hxa hxb hpp ?_ ?_ ?_ ⟨⟨_, he⟩, hit, hl⟩ F1 N1 J h0 ?_ ?_ ?_ ?_ ?_
  · intro h
    simp only [List.mem_cons, List.not_mem_nil, or_false] at h
    rcases h with h | h | h
    · rw [h] at hLs; exact absurd hLs (Nat.not_lt.mpr (Nat.le_succ _))
    · rw [h] at hLs; exact absurd hLs (Nat.lt_irrefl _)
    · exact (N _ hD).2.1 h.symm
  · intro b hb
    simp only [List.mem_cons, List.not_mem_nil, or_false] at hb
    rcases hb with rfl | rfl
    · exact no_old F (Nat.le_succ_of_le (Nat.le_of_lt hLs))
    · exact no_old F (Nat.le_of_lt hLs)
  · intro p hp h
    simp only [List.mem_cons, List.not_mem_nil, or_false] at h
    have := Heap.lt_size (N p hp).1
    rcases h with h | h
    · rw [h] at this; exact absurd this (Nat.not_lt.mpr (Nat.le_succ _))
    · rw [h] at this; exact absurd this (Nat.lt_irrefl _)
  · intro k m' news' hJ p hp h
    simp only [List.mem_cons, List.not_mem_nil, or_false] at h
    rcases h with h | h
    · exact (hJw k m' news' hJ p hp).2 h
    · exact (hJw k m' news' hJ p hp).1 h
  · intro k h st b hb
    simp only [List.mem_cons, List.not_mem_nil, or_false] at hb
    obtain ⟨⟨old, h1⟩, ⟨o2, h2, _⟩, _⟩ := st
    rcases hb with rfl | rfl
    · exact ⟨_, h1⟩
    · exact ⟨_, h2⟩
  · rintro i vals ⟨t, x, _, rfl⟩
    exact ⟨_, _, rfl⟩
  · rintro k a b m' news' own h tk hk' ⟨t, x, hx, hab⟩ hJ hown hex F' N'
    cases hab
    refine turn k _ _ m' news' own h tk (by simpa using hx) hJ (fun p hp => ?_) ?_ F' N'
    · have := hown p hp
      simp only [List.mem_cons, List.not_mem_nil, or_false] at this
      rcases this with h | h | h
      · exact .inr (.inr h)
      · exact .inr (.inl h)
      · exact .inl h
    · obtain ⟨o1, h1⟩ := hex sh.objs.size (by simp)
      obtain ⟨o2, h2⟩ := hex (sh.objs.size + 1) (by simp)
      exact ⟨o1, o2, h1, h2⟩
  · intro m' news' h tk hJ F' N'
    simp only [List.size_toArray] at hJ
    exact done m' news' h tk hJ F' N'

theorem for_list {R : Result → Shared → Prop} {xv : Str} {pv : Pos} {body : List Stmt} {sh : Heap} {D : Addr} {vs : List Value} {nn : Nat}
    (hh : A.handled = none) (hxv : env.kindOf xv = some .local) (hpp : (env.scope.kind == .class || (env.scope.kind == .module && env.locals != env.globals)) = false)
    (F : Fr h₀ env.locals sh m) (N : News h₀ env.locals sh news) (hD : (D, W.listOf vs.toArray nn) ∈ news) (hsh : s.heap = sh.push { cls := .type "list_iterator", data := .fields #[.ref D, .int 0 0] })
    (J : Nat → (Str → Option Value) → List (Addr × Obj) → Prop) (h0 : J 0 m news) (hJw : ∀ k m' news', J k m' news' → ∀ p ∈ news', p.1 ≠ sh.objs.size)
    (turn : ∀ k v m' news' own h tk, vs[k]? = some v → J k m' news' → (∀ p ∈ own, p.1 = D ∨ p.1 = sh.objs.size) → (∃ o1, (sh.objs.size, o1) ∈ own) → Fr h₀ env.locals h (fun y => if y = xv then some v else m' y) → News h₀ env.locals h (news' ++ own) →
      wpAny (model prog w) A (execs body env) (fun f s₃ => match f with
        | .next | .cont => LEnd h₀ env.locals own (J (k + 1)) s s₃
        | .brk => R (.ok .next) s₃
        | .ret v => R (.ok (.ret v)) s₃) (fun _ _ => False) { s with heap := h, toks := tk })
    (done : ∀ m' news' h tk, J vs.length m' news' → Fr h₀ env.locals h m' → News h₀ env.locals h news' → R (.ok .next) { s with heap := h, toks := tk }) :
    codeAny (model prog w) A (.forLoop (.Name xv pv) (.ref sh.objs.size) body [] env) R s := by
  have hDs : D < sh.objs.size := Heap.lt_size (N _ hD).1
  have hLs := L_lt F
  have hk : ∀ b o, sh.get? b = some o → s.heap.get? b = some o := fun b o e => by rw [hsh]; exact Heap.get?_push_of_some _ e
  have F1 := F.grownK hk
  have N1 := N.grown hk
  have hl : s.heap.IsList D vs.toArray := PySem.IsL.isList (n := nn) (N1 _ hD).1
  have hit : s.heap.IsListIter sh.objs.size D 0 := by rw [hsh]; exact ⟨_, Heap.get?_push_size _ rfl, rfl, rfl⟩
  refine for_name (news := news) (m := m) (Walks.list hh sh.objs.size D (Nat.ne_of_lt hDs) vs.toArray) hxv hpp ?_ ?_ ?_ ⟨hit, hl⟩ F1 N1 J h0 ?_ ?_ ?_ ?_
  · intro h
    simp only [List.mem_cons, List.not_mem_nil, or_false] at h
    rcases h with h | h
    · rw [h] at hLs; exact absurd hLs (Nat.lt_irrefl _)
    · exact (N _ hD).2.1 h.symm
  · intro b hb
    simp only [List.mem_cons, List.not_mem_nil, or_false] at hb
    subst hb
    exact no_old F (Nat.le_of_lt hLs)
  · intro p hp h
    simp only [List.mem_cons, List.not_mem_nil, or_false] at h
    have := Heap.lt_size (N p hp).1
    rw [h] at this; exact absurd this (Nat.lt_irrefl _)
  · intro k m' news' hJ p hp h
    simp only [List.mem_cons, List.not_mem_nil, or_false] at h
    exact hJw k m' news' hJ p hp h
  · intro k h st b hb
    simp only [List.mem_cons, List.not_mem_nil, or_false] at hb
    obtain ⟨⟨o2, h2, _⟩, _⟩ := st
    subst hb
    exact ⟨_, h2⟩
  · intro k v m' news' own h tk hk' hx hJ hown hex F' N'
    refine turn k v m' news' own h tk (by simpa using hx) hJ (fun p hp => ?_) (hex _ (by simp)) F' N'
    have := hown p hp
    simp only [List.mem_cons, List.not_mem_nil, or_false] at this
    exact this.symm
  · intro m' news' h tk hJ F' N'
    simp only [List.size_toArray] at hJ
    exact done m' news' h tk hJ F' N'
end
end
section
variable {prog : Program} {w : World} {loose : List Str} {mean : ExcName → Option Value} {mg mb : Str → Option Value} {dp un : Nat} {gd : Option (List Code)} {cn : Str} {cs : Scope} {a : Addr} {ccd : Value} {cl : List (Str × Addr)} {outer : List Env} {A₀ : Around} {base h₀ : Heap} {L : Addr} {m : Str → Option Value} {news : List (Addr × Obj)} {s : Shared} {Q E : Value → Shared → Prop}
local macro_rules | `(tactic| walk_at "call type:enumerate") => `(tactic| (k_here; (with_reducible show wpAny _ _ (call (Value.type "enumerate") [Value.ref _]) _ _ _); refine Hold.mk ?_))
/-- the three sums -/
noncomputable def addAt (cs : List Int) (k : Nat) (x : Int) : List Int := cs.set (k % 3) (cs.getD (k % 3) 0 + Int.fmod x 1000000)
noncomputable def cellsR : List Int → Nat → List Int → List Int
  | cs, _, [] => cs
  | cs, k, x :: r => cellsR (addAt cs k x) (k + 1) r
theorem cellsR_drop {cs : List Int} {ns : List Int} {k : Nat} {x : Int} (h : ns[k]? = some x) : cellsR cs k (ns.drop k) = cellsR (addAt cs k x) (k + 1) (ns.drop (k + 1)) := by
  have hi : k < ns.length := by
    rcases Nat.lt_or_ge k ns.length with h1 | h1
    · exact h1
    · rw [List.getElem?_eq_none h1] at h; cases h
  rw [List.drop_eq_getElem_cons hi]
  rw [List.getElem?_eq_getElem hi] at h
  rw [← Option.some.inj h]
  rfl
theorem news_swap {h₀ h : Heap} {L : Addr} {a b : Addr × Obj} {news : List (Addr × Obj)} (N : News h₀ L h (a :: b :: news)) : News h₀ L h (b :: a :: news) := fun p hp => N p (by
  simp only [List.mem_cons] at hp ⊢
  rcases hp with h | h | h <;> simp [h])
noncomputable def Jcells (C : Addr) (news0 : List (Addr × Obj)) (n : Nat) (ns : List Int) (k : Nat) (m' : Str → Option Value) (news' : List (Addr × Obj)) : Prop :=
  ∃ cvs cs, m' (Str.ofString "cells") = some (.ref C) ∧ news' = (C, W.listOf cvs.toArray n) :: news0 ∧ IntsAre cvs cs ∧ cs.length = 3 ∧ cellsR cs k (ns.drop k) = cellsR [27691, 9739503, 143379] 0 ns
theorem fm3 (k : Nat) : Int.fmod (k : Int) 3 = ((k % 3 : Nat) : Int) := by
  rw [Int.fmod_eq_emod_of_nonneg _ (by omega)]; omega
theorem news_drop2 {h₀ h : Heap} {L : Addr} {a b : Addr × Obj} {news : List (Addr × Obj)} (N : News h₀ L h (a :: b :: news)) : News h₀ L h (a :: news) := fun p hp => N p (by
  simp only [List.mem_cons] at hp ⊢
  rcases hp with h | h <;> simp [h])
theorem ints_at {vs : List Value} {ns : List Int} (h : IntsAre vs ns) {k : Nat} {v : Value} (hv : vs[k]? = some v) : ∃ x t, ns[k]? = some x ∧ v = .int x t := by
  have hk : k < vs.length := by
    rcases Nat.lt_or_ge k vs.length with h1 | h1
    · exact h1
    · rw [List.getElem?_eq_none h1] at hv; cases hv
  have hk2 : k < ns.length := by rw [← h.length]; exact hk
  obtain ⟨t, ht⟩ := h.get k ns[k] (List.getElem?_eq_getElem hk2)
  rw [hv] at ht
  exact ⟨_, t, List.getElem?_eq_getElem hk2, Option.some.inj ht⟩
theorem upd_first {h₀ hh : Heap} {L C : Addr} {o : Obj} {r own : List (Addr × Obj)} (N : News h₀ L hh ((C, o) :: r ++ own)) (h1 : ∀ p ∈ r, p.1 ≠ C) (h2 : ∀ p ∈ own, p.1 ≠ C) :
    News h₀ L hh ((C, o) :: (r ++ own)) ∧ UpdF C o ((C, o) :: (r ++ own)) (fun o' => (C, o') :: (r ++ own)) :=
  ⟨N, .head fun p hp => (List.mem_append.mp hp).elim (h1 p) (h2 p)⟩
theorem news_lt {h₀ h : Heap} {L : Addr} {news : List (Addr × Obj)} (N : News h₀ L h news) : ∀ p ∈ news, p.1 < h.objs.size := fun p hp => Heap.lt_size (N p hp).1
theorem news_lt1 {h₀ h : Heap} {L C : Addr} {o o' : Obj} {r : List (Addr × Obj)} (N : News h₀ L h ((C, o) :: r)) : ∀ p ∈ (C, o') :: r, p.1 < h.objs.size :=
  List.forall_mem_cons.mpr ⟨news_lt N (C, o) (.head _), fun p hp => news_lt N p (.tail _ hp)⟩
theorem cells_spec {l0 : Addr} {vs : List Value} {ns : List Int}
   (B : Below A₀ base outer h₀) (F : Fr h₀ L s.heap m) (X : (hd.heap_1 w.params).In h₀) (N : News h₀ L s.heap news)
   (T : Top topProg loose mean mg mb h₀) (hk : cs.kind = .function)  (hdp : dp + 20 < recursionLimit) (hun : un + 200 < cLine)
   (hl : base.IsList l0 vs.toArray) (hi : IntsAre vs ns) (hlen : ns.length ≤ 63)
   (ret : ∀ h' tk' C vs3, Fr h₀ L h' m → News h₀ L h' ((C, W.listOf vs3.toArray 0) :: news) → (∀ p ∈ news, p.1 < C) → IntsAre vs3 (cellsR [27691, 9739503, 143379] 0 (ns.take 60)) → vs3.length = 3 → Q (.ref C) { s with heap := h', toks := tk' }) :
   wpAny (model prog w) (ktrTop dp un gd cn cs L a ccd cl outer) (call (.ref 122) [.ref l0]) Q E s := by
  refine wpAny_call ?_
  k_dflt cell_enter
  refine gen_Q fun Pz pz => ?_
  k_steps
  refine Hold.out ?_
  refine wpAny_mono (E := fun _ _ => False) (wpAny_For ?_ (by intro _; rfl)) (fun _ _ x => x) fun _ _ x => x.elim
  k_steps
  rename Fr _ _ _ _ => F1
  rename News _ _ _ _ => N1
  rename IntsAre _ (List.take _ _) => hws
  rename _ ∧ _ => hl1
  refine Hold.out ?_
  refine call_enumerate_1 (N1 _ (.head _)).1 ?_
  intro h3 he hit hz hkeep
  refine wpAny_pyIter_enum he ?_
  have N2 := news_swap N1
  k_dflt (refine' for_enum ?hh ?h1 ?h2 ?h3 F1 N2 (List.Mem.tail _ (List.Mem.head _)) hkeep he hit (Jcells _ _ 0 (ns.take 60)) ⟨_, _, rfl, rfl, ?hints, rfl, rfl⟩ ?hJw ?turn ?done)
  case hh => exact rfl
  case h1 => exact rfl
  case h2 => exact rfl
  case h3 => exact rfl
  case hints => exact .cons _ _ (.cons _ _ (.cons _ _ .nil))
  case hJw =>
    rintro k m' news' ⟨cvs, cs, _, rfl, _⟩ p hp
    have := news_lt1 N2 p hp
    exact ⟨Nat.ne_of_lt this, Nat.ne_of_lt (Nat.lt_succ_of_lt this)⟩
  case done =>
    rintro m' news' h tk ⟨cvs, cs, hm1, rfl, hi3, hl3, hcs⟩ F3 N3
    k_steps
    refine pz _ _ ?_
    k_steps
    rename Fr _ _ (Shared.heap _) _ => F8
    rename News _ _ (Shared.heap _) _ => N8
    refine ret _ _ _ _ F8 (news_drop2 N8) ?_ ?_ (by rw [hi3.length, hl3])
    · assumption
    · have e : cellsR cs (vs.length) [] = cs := rfl
      rw [List.drop_of_length_le (by rw [← hws.length]; exact Nat.le_refl _)] at hcs
      rw [← hcs]; exact hi3
  case turn =>
    rintro k t v m' news' own h tk hv ⟨cvs, cs, hm1, rfl, hi3, hl3, hcs⟩ hown _ F3 N3
    refine gen_Q fun Pf qf => ?_
    rw [loc1 hm1 (fun y _ => rfl)] at F3
    obtain ⟨x, tx, hx, rfl⟩ := ints_at hws hv
    have hlt : k % 3 < 3 := Nat.mod_lt _ (by omega)
    have hf := fm3 k
    have hk0 : 0 ≤ Int.fmod (k : Int) 3 := by rw [hf]; omega
    have hk3 : Int.fmod (k : Int) 3 < 3 := by rw [hf]; omega
    obtain ⟨tc, htc⟩ := hi3.get (k % 3) (cs.getD (k % 3) 0) (by rw [List.getD_eq_getElem?_getD, List.getElem?_eq_getElem (by omega)]; rfl)
    have hxx : cvs[(Int.fmod (k : Int) 3).toNat]? = some (.int (cs.getD (k % 3) 0) tc) := by rw [hf, Int.toNat_natCast]; exact htc
    have hcl : cvs.length = 3 := by rw [hi3.length, hl3]
    obtain ⟨N4, hU⟩ := upd_first N3 (by first | k_all | done) (fun p hp => by
      have hs := Heap.lt_size (N2 _ (.head _)).1
      rcases hown p hp with h | h | h <;> rw [h]
      · exact Ne.symm (Nat.ne_of_lt hl1.1)
      · exact Ne.symm (Nat.ne_of_lt hs)
      · exact Ne.symm (Nat.ne_of_lt (Nat.lt_succ_of_lt hs)))
    clear N3
    have hm := upd_mem hU
    k_steps
    rename Fr _ _ _ _ => F5
    rename News _ _ _ _ => N5
    have hj : (Int.fmod (k : Int) 3).toNat = k % 3 := by rw [hf]; rfl
    rw [hj] at N5
    exact qf _ _ (LEnd.mk ((_, _) :: (_, _) :: news) F5 N5 ⟨_, addAt cs k x, rfl, rfl, ints_set hi3 (k % 3), by rw [addAt, List.length_set]; exact hl3, by rw [← cellsR_drop hx]; exact hcs⟩)
end
section
open PySem PySem.W PyProof.Rows PyProof.Rows.LCg PySem.Calls PySem.Spec
section
variable {prog : Program} {w : World} {A : Around} {E : Value → Shared → Prop} {s : Shared} {h₀ : Heap} {L : Addr} {m : Str → Option Value} {env : Env}
theorem compRest_inv {elt : Expr} {x : Str} {scope : Scope} {cl : List (Str × Addr)} {S : List (Addr × Obj) → Prop} {P : Nat → Value → Prop} {Fin : List Value → List (Addr × Obj) → Prop} (n : Nat)
    (J : Nat → List Value → List (Addr × Obj) → Prop)
    (turn : ∀ i v ys news I oI C oC D m₂ h tk (E' : Value → Shared → Prop), i < n → P i v → J i ys news → NsObj oC m₂ → m₂ x = some v → Fr h₀ L h m → News h₀ L h ((I, oI) :: (C, oC) :: (D, lst ys) :: news) → Off3 I C D news → ((@Ne Nat I C) ∧ (@Ne Nat I D) ∧ (@Ne Nat C D)) →
      wpAny (model prog w) A (eval elt (compEnvC scope cl C env)) (CompEnd h₀ L m { s with heap := h, toks := tk } I oI C oC D (lst ys) S (fun y news' => J (i + 1) (ys ++ [y]) news')) E' { s with heap := h, toks := tk })
    (fin : ∀ ys news, J n ys news → Fin ys news) : ∀ k i ys news, i + k = n → J i ys news → CompRest prog w A h₀ L m env elt x scope cl s S P Fin k i ys news
  | 0, i, ys, news, e, hJ => CompRest.zero (fin ys news (by rw [← e]; exact hJ))
  | k + 1, i, ys, news, e, hJ => CompRest.succ (fun v I oI C oC D m₂ h tk E' hP hn hm F N off hne =>
      wpAny_mono (turn i v ys news I oI C oC D m₂ h tk E' (by omega) hP hJ hn hm F N off hne) (fun y s₂ ⟨h', tk', news', es, F', N', o', hS, hJ'⟩ =>
        ⟨h', tk', news', es, F', N', o', hS, compRest_inv n J turn fin k (i + 1) (ys ++ [y]) news' (by omega) hJ'⟩) fun _ _ z => z)
end
end
local macro_rules | `(tactic| walk_at "eval ListComp") => `(tactic| refine Hold.mk ?_)
section
variable {prog : Program} {w : World} {loose : List Str} {mean : ExcName → Option Value} {mg mb : Str → Option Value} {dp un : Nat} {gd : Option (List Code)} {cn : Str} {cs : Scope} {a : Addr} {ccd : Value} {cl : List (Str × Addr)} {outer : List Env} {A₀ : Around} {base h₀ : Heap} {L : Addr} {m : Str → Option Value} {news : List (Addr × Obj)} {s : Shared} {Q E : Value → Shared → Prop}
theorem six_ne (k : Int) : (6 : Int) ^ k.toNat ≠ 0 := Int.pow_ne_zero (by decide)
theorem fdiv4 {n : Int} (h0 : 0 ≤ n) (h1 : n < 864) : 0 ≤ Int.fdiv n 4 ∧ Int.fdiv n 4 < 216 := by
  rw [Int.fdiv_eq_ediv_of_nonneg _ (by decide)]; exact ⟨Int.ediv_nonneg h0 (by decide), Int.ediv_lt_of_lt_mul (by decide) h1⟩
theorem noPy {x y : Int} (h : x.natAbs < 1073741824) : Builtin.divisionGoesByPylong x y = false := by
  unfold Builtin.divisionGoesByPylong
  have hd : (if x == 0 then 0 else x.natAbs.log2 / 30 + 1) ≤ 1 := by
    by_cases hx : x.natAbs = 0
    · have : x = 0 := by omega
      subst this; decide
    · have h30 : x.natAbs.log2 < 30 := (Nat.log2_lt hx).mpr h
      split <;> omega
  simp only [Bool.and_eq_false_iff, decide_eq_false_iff_not, gt_iff_lt, Nat.not_lt]
  omega
theorem klt {n k : Int} (h : k < 0 + ((n - 0).toNat : Int)) (h0 : 0 ≤ n) (h1 : n < 4) : k ≤ 1000000 := by
  rw [Int.sub_zero, Int.zero_add, Int.toNat_of_nonneg h0] at h
  exact Int.le_trans (Int.le_of_lt (Int.lt_trans h h1)) (by decide)
theorem news_drop1 {h₀ h : Heap} {L : Addr} {a b c : Addr × Obj} {news : List (Addr × Obj)} (N : News h₀ L h (a :: b :: c :: news)) : News h₀ L h (a :: news) := fun p hp => N p (by
  simp only [List.mem_cons] at hp ⊢
  rcases hp with h | h <;> simp [h])
theorem off1_mem {D : Addr} : ∀ {l : List (Addr × Obj)}, LCg.Off1 D l → ∀ p ∈ l, p.1 ≠ D
  | [], _, _, h => nomatch h
  | _ :: _, x, p, h => by
    rcases List.mem_cons.mp h with rfl | h
    · exact x.1
    · exact off1_mem x.2 p h
theorem rule_spec {K : Addr} {kv : List Value} {kinds : List Int} {nk : Nat} {number : Int} {t : Tok}
   (B : Below A₀ base outer h₀) (F : Fr h₀ L s.heap m) (X : (hd.heap_1 w.params).In h₀) (N : News h₀ L s.heap news)
   (T : Top topProg loose mean mg mb h₀) (hk : cs.kind = .function)  (hdp : dp + 20 < recursionLimit) (hun : un + 200 < cLine)
   (hK : (K, W.listOf kv.toArray nk) ∈ news) (hkv : IntsAre kv kinds) (hlen : kinds.length = 6) (h0 : 0 ≤ number) (h1 : number < 864)
   (ret : ∀ h' tk' D ys nn, Fr h₀ L h' m → News h₀ L h' ((D, W.listOf ys.toArray nn) :: news) → (∀ p ∈ news, p.1 ≠ D) → IntsAre ys ((rangeKs 0 (Int.fmod number 4 - 0).toNat).map fun k => kinds.getD (Int.toNat (Int.fmod (Int.fdiv (Int.fdiv number 4) (6 ^ k.toNat)) 6)) 0) → Q (.ref D) { s with heap := h', toks := tk' }) :
   wpAny (model prog w) (ktrTop dp un gd cn cs L a ccd cl outer) (call (.ref 127) [.int number t, .ref K]) Q E s := by
  refine wpAny_call ?_
  k_dflt (refine' code_defC ?k1 ?k2 ?k3 ?k4 ?k5 ?kA ?kF ?kK ?k6 ?k7 ?k8 ?k9 ?kB ?kD ?_ ?c2 ?c3 ?c4; (case kA => exact rfl); (case kF => exact rfl); (case kK => assumption); (case k1 => k_asm); (case k2 => k_asm); (case k3 => k_asm); (case k4 => k_asm); (case k5 => k_asm); (case k6 => k_is); (case k7 => k_is); (case k8 => ktr_room); (case k9 => exact BindsTo.of_eq rfl); (case kB => exact rfl); (case kD => decide +kernel); (case c2 => exact rfl); (case c3 => exact rfl); (case c4 => exact rfl); k_whole; intro g' L' h' tk' cells' FG' F' N' Y' B' X' T' l1; k_cells Y'; (try simp only [List.cons_append, List.nil_append] at N'); (try dsimp only); (try k_lift B'); (try k_fold))
  k_steps
  refine Hold.out ?_
  k_dflt (refine LCg.ListComp_U (F₀ := by k_asm) (by with_unfolding_all rfl) (by decide) (by rfl) (by decide) (by rfl) ?_)
  k_dflt lcg_toSrc
  rotate_right
  exact fun k => kinds.getD (Int.toNat (Int.fmod (Int.fdiv (Int.fdiv number 4) (6 ^ k.toNat)) 6)) 0
  · rename _ < (0 : Int) + _ => hkr
    have hk6 := klt hkr (by assumption) (by assumption)
    k_steps
    refine floordiv_int (six_ne _) ?_ (.inl (noPy (by have := fdiv4 h0 h1; omega)))
    k_steps
  · k_steps
    rename IntsAre _ _ => hys
    rename Fr h₀ L _ _ => F9
    rename News h₀ L _ _ => N9
    rename _ ∧ _ => ho1
    exact ret _ _ _ _ _ F9 (news_drop1 N9) (off1_mem ho1.2.2) hys
end
section
variable {prog : Program} {w : World} {loose : List Str} {mean : ExcName → Option Value} {mg mb : Str → Option Value} {dp un : Nat} {gd : Option (List Code)} {cn : Str} {cs : Scope} {a : Addr} {ccd : Value} {cl : List (Str × Addr)} {outer : List Env} {A₀ : Around} {base h₀ : Heap} {L : Addr} {m : Str → Option Value} {news : List (Addr × Obj)} {s : Shared} {Q E : Value → Shared → Prop}
local macro_rules | `(tactic| walk_at "call builtin:list.append") => `(tactic| (k_here; k_dflt (refine' append_N ?F ?N ?U ?z ?_; (case F => k_asm); (case N => k_asm); (case U => assumption); (case z => assumption); k_whole); intro h' F' N'; (try dsimp only at N'); (try k_sweep)))
local macro_rules | `(tactic| walk_at "exec While") => `(tactic| refine Hold.mk ?_)
local macro_rules | `(tactic| walk_at "call type:enumerate") => `(tactic| (k_here; (with_reducible show wpAny _ _ (call (Value.type "enumerate") [Value.ref _]) _ _ _); refine Hold.mk ?_))
noncomputable def loopF : Nat → Int → List Int → List Int
  | 0, _, f => f
  | k + 1, y, f => if y > 63 then loopF k (Int.fdiv y 64) ((Int.fmod (Int.fdiv y 64) 64 + 64) :: f) else f
noncomputable def figs (x : Int) : List Int := loopF 3 x [Int.fmod x 64]
noncomputable def Jsp (news0 : List (Addr × Obj)) (I : Addr) (row : List Int) (bits : Int) (t : Tok) (k : Nat) (m' : Str → Option Value) (news' : List (Addr × Obj)) : Prop :=
  ∃ O ovs oct nO, m' (Str.ofString "octets") = some (.ref O) ∧ m' (Str.ofString "bits") = some (.int bits t) ∧ news' = (O, W.listOf ovs.toArray nO) :: news0 ∧ (∀ p ∈ news0, p.1 ≠ O) ∧ O ≠ I ∧ IntsAre ovs oct ∧ oct.length ≤ 4 * k ∧ oct ++ (row.drop k).flatMap figs = row.flatMap figs
theorem news_d14 {h₀ h : Heap} {L : Addr} {a b c d : Addr × Obj} {r : List (Addr × Obj)} (N : News h₀ L h (a :: b :: c :: d :: r)) : News h₀ L h (a :: d :: r) := fun p hp => N p (by
  simp only [List.mem_cons] at hp ⊢
  rcases hp with h | h | h <;> simp [h])
theorem LEnd.mk3 {h₀ : Heap} {L : Addr} {a b c : Addr × Obj} {own news0 : List (Addr × Obj)} {J : (Str → Option Value) → List (Addr × Obj) → Prop} {s : Shared} {h' : Heap} {tk' : Nat} {m'' : Str → Option Value}
    (F : Fr h₀ L h' m'') (N : News h₀ L h' (a :: b :: c :: (news0 ++ own))) (hJ : J m'' (a :: news0)) : LEnd h₀ L own J s { s with heap := h', toks := tk' } :=
  LEnd.mk (a :: news0) F (fun p hp => N p (by
    simp only [List.cons_append, List.mem_cons] at hp ⊢
    rcases hp with h | h <;> simp [h])) hJ
theorem drop_at {α : Type} {l : List α} {k : Nat} {x : α} (h : l[k]? = some x) : l.drop k = x :: l.drop (k + 1) := by
  have hi : k < l.length := by
    rcases Nat.lt_or_ge k l.length with h1 | h1
    · exact h1
    · rw [List.getElem?_eq_none h1] at h; cases h
  rw [List.drop_eq_getElem_cons hi]
  rw [List.getElem?_eq_getElem hi] at h
  rw [Option.some.inj h]
/-- the sign written for one octet -/
noncomputable def signC (bits : Int) (k : Nat) (o : Int) : Nat := (if o = 39 ∨ Int.fmod (Int.fdiv bits (2 ^ (k % 8))) 2 = 1 then o + 128 else o).toNat
noncomputable def signsF (bits : Int) : Nat → List Int → List Nat
  | _, [] => []
  | k, o :: r => signC bits k o :: signsF bits (k + 1) r
noncomputable def Jsg (S O : Addr) (oO : Obj) (news0 : List (Addr × Obj)) (bits : Int) (t : Tok) (all : List Int) (k : Nat) (m' : Str → Option Value) (news' : List (Addr × Obj)) : Prop :=
  ∃ svs sg nS, m' (Str.ofString "signs") = some (.ref S) ∧ m' (Str.ofString "bits") = some (.int bits t) ∧ news' = (S, W.listOf svs.toArray nS) :: (O, oO) :: news0 ∧ StrsAre svs (sg.map fun c => (⟨#[c]⟩ : Str)) ∧ sg.length = k ∧ sg ++ signsF bits k (all.drop k) = signsF bits 0 all
theorem ones_sum : ∀ l : List Nat, ((l.map fun c => (⟨#[c]⟩ : Str)).map (·.length)).sum = l.length
  | [] => rfl
  | a :: r => by
    have := ones_sum r
    show 1 + ((r.map fun c => (⟨#[c]⟩ : Str)).map (·.length)).sum = r.length + 1
    omega
theorem ones_flat : ∀ l : List Nat, ((l.map fun c => (⟨#[c]⟩ : Str)).map (·.cps.toList)).flatten = l
  | [] => rfl
  | a :: r => by
    show a :: ((r.map fun c => (⟨#[c]⟩ : Str)).map (·.cps.toList)).flatten = a :: r
    rw [ones_flat r]
theorem signC_1 {bits o : Int} {k : Nat} (h : o = 39) : signC bits k o = (o + 128).toNat := by unfold signC; rw [if_pos (Or.inl h)]
theorem signC_2 {bits o : Int} {k : Nat} (h : Int.fmod (Int.fdiv bits (2 ^ (k % 8))) 2 = 1) : signC bits k o = (o + 128).toNat := by unfold signC; rw [if_pos (Or.inr h)]
theorem signC_3 {bits o : Int} {k : Nat} (h1 : o ≠ 39) (h : ¬ Int.fmod (Int.fdiv bits (2 ^ (k % 8))) 2 = 1) : signC bits k o = o.toNat := by unfold signC; rw [if_neg (fun z => z.elim h1 h)]
theorem fm8 (k : Nat) : (Int.fmod (k : Int) 8).toNat = k % 8 := by
  rw [Int.fmod_eq_emod_of_nonneg _ (by omega)]; omega
theorem Jsg_next {S O : Addr} {oO : Obj} {news0 : List (Addr × Obj)} {bits : Int} {t tv : Tok} {all : List Int} {k : Nat} {m' : Str → Option Value} {svs : List Value} {sg : List Nat} {nS n : Nat} {o : Int}
   (hm1 : m' (Str.ofString "signs") = some (.ref S)) (hm2 : m' (Str.ofString "bits") = some (.int bits t)) (hss : StrsAre svs (sg.map fun c => (⟨#[c]⟩ : Str))) (hsl : sg.length = k) (hsg : sg ++ signsF bits k (all.drop k) = signsF bits 0 all) (ho : all[k]? = some o) (hn : n = signC bits k o) :
   Jsg S O oO news0 bits t all (k + 1) m' ((S, W.listOf (svs ++ [Value.str ⟨#[n]⟩ tv]).toArray nS) :: (O, oO) :: news0) := by
  refine ⟨_, sg ++ [n], _, hm1, hm2, rfl, ?_, by simp [hsl], ?_⟩
  · rw [List.map_append]; exact strsAre_snoc hss _ _
  · rw [← hsg, drop_at ho, hn, List.append_assoc]; rfl
theorem fm64 (a : Int) : 0 ≤ Int.fmod a 64 ∧ Int.fmod a 64 < 64 := ⟨Int.fmod_nonneg_of_pos _ (by omega), Int.fmod_lt_of_pos _ (by omega)⟩
theorem loopF_range : ∀ (j : Nat) (y : Int) (f : List Int), (∀ o ∈ f, 0 ≤ o ∧ o < 128) → ∀ o ∈ loopF j y f, 0 ≤ o ∧ o < 128
  | 0, _, _, h => h
  | j + 1, y, f, h => by
    intro o ho
    unfold loopF at ho
    split at ho
    · refine loopF_range j _ _ (fun o ho => ?_) o ho
      rcases List.mem_cons.mp ho with rfl | ho
      · have := fm64 (Int.fdiv y 64); omega
      · exact h o ho
    · exact h o ho
theorem figs_range {x o : Int} (h : o ∈ figs x) : 0 ≤ o ∧ o < 128 := loopF_range 3 x _ (fun o ho => by
  rw [List.mem_singleton.mp ho]
  have := fm64 x; omega) o h
theorem spelled_spec {K : Addr} {kv : List Value} {row : List Int} {nk : Nat} {bits : Int} {t : Tok}
   (B : Below A₀ base outer h₀) (F : Fr h₀ L s.heap m) (X : (hd.heap_1 w.params).In h₀) (N : News h₀ L s.heap news)
   (T : Top topProg loose mean mg mb h₀) (hk : cs.kind = .function)  (hdp : dp + 20 < recursionLimit) (hun : un + 200 < cLine)
   (hK : (K, W.listOf kv.toArray nk) ∈ news) (hkv : IntsAre kv row) (hlen : row.length ≤ 8) (hrow : ∀ x ∈ row, 0 ≤ x ∧ x < 262144) (h0 : 0 ≤ bits) (h1 : bits < 256)
   (ret : ∀ h' tk' t', Fr h₀ L h' m → News h₀ L h' news → Q (.str ⟨(signsF bits 0 (row.flatMap figs)).toArray⟩ t') { s with heap := h', toks := tk' }) :
   wpAny (model prog w) (ktrTop dp un gd cn cs L a ccd cl outer) (call (.ref 134) [.ref K, .int bits t]) Q E s := by
  refine wpAny_call ?_
  k_dflt cell_enter
  refine gen_Q fun Pz pz => ?_
  k_steps
  refine Hold.out ?_
  try dsimp only
  refine gen_toks fun tkh => ?_
  refine wpAny_mono (E := fun _ _ => False) (wpAny_For ?_ (by intro _; rfl)) (fun _ _ x => x) fun _ _ x => x.elim
  k_steps
  rename Heap => hp
  rename Fr _ _ _ _ => F1
  rename News _ _ _ _ => N1
  rename ∀ p ∈ news, p.1 < _ => l1
  have hkm := N1 _ (.tail _ hK)
  refine wpAny_pyIter_list (items := kv.toArray) (PySem.IsL.isList (n := nk) hkm.1) ?_
  k_dflt (refine' for_list ?hh ?h1 ?h2 F1 N1 (List.Mem.tail _ hK) ?hsh (Jsp news hp.objs.size row bits t) ⟨_, [], [], 0, rfl, rfl, rfl, ?n1, ?n2, .nil, Nat.zero_le _, rfl⟩ ?hJw ?turn ?done)
  case hh => exact rfl
  case h1 => exact rfl
  case h2 => exact rfl
  case hsh => exact rfl
  case n1 => exact fun p hp => Nat.ne_of_lt (l1 p hp)
  case n2 => exact Nat.ne_of_lt (news_lt N1 _ (.head _))
  case hJw =>
    rintro k m' news' ⟨O, ovs, oct, nO, _, _, rfl, _, h, _⟩ p hp
    rcases List.mem_cons.mp hp with rfl | hp
    · exact h
    · exact Nat.ne_of_lt (news_lt N1 _ (.tail _ hp))
  case done =>
    rintro m' news' h tk ⟨O, ovs, oct, nO, hm1, hm2, rfl, hO, hOI, hio, hol, hoc⟩ F3 N3
    rw [loc2 hm1 hm2 (fun y _ _ => rfl)] at F3
    k_steps
    refine Hold.out ?_
    try dsimp only
    refine gen_toks fun tkh => ?_
    rw [hkv.length, List.drop_length] at hoc
    rw [hkv.length] at hol
    simp only [List.flatMap_nil, List.append_nil] at hoc
    refine wpAny_mono (E := fun _ _ => False) (wpAny_For ?_ (by intro _; rfl)) (fun _ _ x => x) fun _ _ x => x.elim
    k_steps
    refine Hold.out ?_
    try dsimp only
    refine gen_toks fun tkh => ?_
    rename Heap => hq
    rename Fr _ _ _ _ => F4
    rename News _ _ _ _ => N4
    rename _ ∧ _ => l9
    refine call_enumerate_1 (N4 _ (.tail _ (.head _))).1 ?_
    intro h3 he hit hz hkeep
    refine wpAny_pyIter_enum he ?_
    k_dflt (refine' for_enum ?hh2 ?g1 ?g2 ?g3 F4 N4 (List.Mem.tail _ (List.Mem.head _)) hkeep he hit (Jsg _ O _ news bits t oct) ⟨[], [], 0, rfl, rfl, rfl, ?hst2, rfl, rfl⟩ ?hJw2 ?turn2 ?done2)
    case hh2 => exact rfl
    case g1 => exact rfl
    case g2 => exact rfl
    case g3 => exact rfl
    case hst2 => exact .nil
    case hJw2 =>
      rintro k m' news' ⟨svs, sg, nS, _, _, rfl, _⟩ p hp
      have := news_lt1 N4 p hp
      exact ⟨Nat.ne_of_lt this, Nat.ne_of_lt (Nat.lt_succ_of_lt this)⟩
    case done2 =>
      rintro m' news' h tk ⟨svs, sg, nS, hn1, hn2, rfl, hss, hsl, hsg⟩ F5 N5
      rw [loc2 hn1 hn2 (fun y _ _ => rfl)] at F5
      have hall : sg = signsF bits 0 oct := by
        have h1 := hss.length
        rw [hio.length, List.drop_length] at hsg
        simpa [signsF] using hsg
      k_steps
      refine Hold.out (join_listW (ys := sg.map fun c => (⟨#[c]⟩ : Str)) (News.isList (by k_asm) (.head _)) hss (by decide +kernel) ?_ fun t' tk' => ?_)
      · have hsm := ones_sum sg
        rw [hsm, List.length_map, hsl, hio.length]; omega
      · have hfl := ones_flat sg
        rw [join_nil, hfl]
        k_steps
        refine pz _ _ ?_
        k_steps
        rw [hall, hoc]
        exact ret _ _ _ (by k_asm) (fun p hp => ‹News h₀ L _ _› p (.tail _ (.tail _ hp)))
    case turn2 =>
      rintro k tk0 v m' news' own h tk hv ⟨svs, sg, nS, hn1, hn2, rfl, hss, hsl, hsg⟩ hown _ F5 N5
      refine gen_Q fun Pf qf => ?_
      rw [loc2 hn1 hn2 (fun y _ _ => rfl)] at F5
      obtain ⟨o, to, ho, rfl⟩ := ints_at hio hv
      have hor : 0 ≤ o ∧ o < 128 := by
        have hm : o ∈ row.flatMap figs := by rw [← hoc]; exact List.mem_of_getElem? ho
        obtain ⟨x, _, hx⟩ := List.mem_flatMap.mp hm
        exact figs_range hx
      obtain ⟨N6, hU⟩ := upd_first N5 (by first | k_all | done) (fun p hp => by
        have hs := Heap.lt_size (N4 _ (.head _)).1
        rcases hown p hp with h | h | h <;> rw [h]
        · exact Nat.ne_of_lt l9.1
        · exact Ne.symm (Nat.ne_of_lt hs)
        · exact Ne.symm (Nat.ne_of_lt (Nat.lt_succ_of_lt hs)))
      clear N5
      have hsv : svs.length < 10000 := by
        have h1 := hss.length
        rw [List.length_map, hsl] at h1
        have h2 : k < oct.length := by
          rcases Nat.lt_or_ge k oct.length with h1 | h1
          · exact h1
          · rw [List.getElem?_eq_none h1] at ho; cases ho
        omega
      k_steps
      · rename o = 39 => h39
        rename Fr _ _ _ _ => F7
        rename News _ _ _ _ => N7
        refine qf _ _ (LEnd.mk ((_, _) :: (O, _) :: news) F7 N7 (Jsg_next rfl rfl hss hsl hsg ho ?_))
        rw [signC_1 h39]
        simp [h39]
      · rename o ≠ 39 => h39
        rename Fr _ _ _ _ => F7
        rename News _ _ _ _ => N7
        refine qf _ _ (LEnd.mk ((_, _) :: (O, _) :: news) F7 N7 (Jsg_next rfl rfl hss hsl hsg ho ?_))
        rw [fm8]
        by_cases hb1 : Int.fmod (Int.fdiv bits (2 ^ (k % 8))) 2 = 1
        · rw [signC_2 hb1, hb1]
          first | done | rfl | (simp; done)
        · rw [signC_3 h39 hb1, if_neg (by simpa using hb1)]
          first | done | rfl | (simp; done)
  case turn =>
    rintro k v m' news' own h tk hv ⟨O, ovs, oct, nO, hm1, hm2, rfl, hO, hOI, hio, hol, hoc⟩ hown ⟨oI, hoI⟩ F3 N3
    refine gen_Q fun Pf qf => ?_
    rw [loc2 hm1 hm2 (fun y _ _ => rfl)] at F3
    obtain ⟨x, tx, hx, rfl⟩ := ints_at hkv hv
    k_steps
    refine Hold.out ?_
    try dsimp only
    refine gen_toks fun tkh => ?_
    rename Fr _ _ _ _ => F4
    rename News _ _ _ _ => N4
    have hx0 := hrow x (List.mem_of_getElem? hx)
    have hk8 : k < row.length := by
      rcases Nat.lt_or_ge k row.length with h1 | h1
      · exact h1
      · rw [List.getElem?_eq_none h1] at hx; cases hx
    have hol' : oct.length ≤ 32 := by omega
    try dsimp only
    refine gen_toks fun tkw => ?_
    refine while_K (fun n m'' news'' => ∃ y ty j Fg fvs fl nF, n = y.toNat ∧ 0 ≤ y ∧ y < 64 ^ (j + 1) ∧ j ≤ 3 ∧ m'' (Str.ofString "number") = some (.int y ty) ∧ m'' (Str.ofString "figures") = some (.ref Fg) ∧ m'' (Str.ofString "octets") = some (.ref O) ∧ m'' (Str.ofString "bits") = some (.int bits t) ∧
      news'' = (Fg, W.listOf fvs.toArray nF) :: (O, W.listOf ovs.toArray nO) :: (news ++ own) ∧ IntsAre fvs fl ∧ fl.length + j ≤ 4 ∧ loopF j y fl = figs x) x.toNat F4 N4 ⟨x, _, 3, _, _, [Int.fmod x 64], 0, rfl, hx0.1, by omega, by omega, rfl, rfl, rfl, rfl, rfl, .cons _ _ .nil, by simp, rfl⟩ ?_
    clear F4 N4
    rintro n m5 news5 h5 tk5 Pw qw ⟨y, ty, j, Fg, fvs, fl, nF, rfl, hy0, hy1, hj, hn1, hn2, hn3, hn4, rfl, hif, hfl, hlp⟩ F5 N5
    rw [loc4 hn1 hn2 hn3 hn4 (fun y _ _ _ _ => rfl)] at F5
    k_steps
    · rename Fr _ _ _ _ => F6
      rename News _ _ _ _ => N6
      rename IntsAre _ (_ ++ fl) => hi6
      rename 63 < y => hgt
      cases j with
      | zero => exfalso; omega
      | succ j =>
        have hd : Int.fdiv y 64 = y / 64 := Int.fdiv_eq_ediv_of_nonneg _ (by omega)
        have hpow : (64 : Int) ^ (j + 1 + 1) = 64 * 64 ^ (j + 1) := by rw [Int.pow_succ, Int.mul_comm]
        refine qw _ _ (TurnEnd.mk (Int.fdiv y 64).toNat F6 (news_d14 N6) ?_ ⟨Int.fdiv y 64, _, j, _, _, _, _, rfl, ?_, ?_, by omega, rfl, rfl, rfl, rfl, rfl, hi6, ?_, ?_⟩)
        · rw [hd]; omega
        · rw [hd]; omega
        · rw [hd]; omega
        · simp only [List.length_append, List.length_cons, List.length_nil]; omega
        · rw [← hlp]
          show _ = if y > 63 then _ else _
          rw [if_pos hgt]
          rfl
    · rename Fr _ _ _ _ => F6
      rename News _ _ _ _ => N6
      rename IntsAre _ (oct ++ fl) => hi6
      rename ¬ 63 < y => hng
      have hfx : fl = figs x := by
        rw [← hlp]
        cases j with
        | zero => rfl
        | succ j => show _ = if y > 63 then _ else _; rw [if_neg hng]
      refine qf _ _ (LEnd.mk3 F6 N6 ⟨_, _, oct ++ fl, _, rfl, rfl, rfl, ?_, ?_, hi6, ?_, ?_⟩)
      · rename _ ∧ _ => l9
        exact fun p hp => Nat.ne_of_lt (allLt_back l9.2.2 p (List.mem_append_left _ hp))
      · rename _ ∧ _ => l9
        exact Ne.symm (Nat.ne_of_lt (allLt_back l9.2.2 _ (List.mem_append_right _ hoI)))
      · simp only [List.length_append]; omega
      · rw [hfx, ← hoc, drop_at hx, List.flatMap_cons, List.append_assoc]
end
section
open PySem PySem.W PyProof.Rows PySem.Calls PySem.Spec PySem.Builtin PySem.Builtin.Str
/-- each `c` of a text written as `z` -/
noncomputable def rep (c : Nat) (z : List Nat) (l : List Nat) : List Nat := l.flatMap fun d => if d = c then z else [d]
theorem rep_append (c : Nat) (z a b : List Nat) : rep c z (a ++ b) = rep c z a ++ rep c z b := List.flatMap_append ..
theorem rep_free (c : Nat) (z : List Nat) : ∀ l : List Nat, c ∉ l → rep c z l = l
  | [], _ => rfl
  | k :: r, h => by
    have h1 : ¬ k = c := fun e => h (e ▸ List.mem_cons_self ..)
    have h2 : c ∉ r := fun m => h (List.mem_cons_of_mem _ m)
    show (if k = c then z else [k]) ++ rep c z r = _
    rw [if_neg h1, rep_free c z r h2]; rfl
theorem rep_join (c : Nat) (z : List Nat) : ∀ parts : List PySem.Str, (∀ p ∈ parts, c ∉ p.cps.toList) → rep c z (Str.join ⟨#[c]⟩ parts).cps.toList = (Str.join ⟨z.toArray⟩ parts).cps.toList
  | [], _ => rfl
  | [p], h => rep_free c z _ (h p (List.mem_singleton.mpr rfl))
  | p :: q :: r, h => by
    have ih := rep_join c z (q :: r) fun a ha => h a (List.mem_cons_of_mem _ ha)
    show rep c z (p ++ ⟨#[c]⟩ ++ Str.join ⟨#[c]⟩ (q :: r)).cps.toList = (p ++ ⟨z.toArray⟩ ++ Str.join ⟨z.toArray⟩ (q :: r)).cps.toList
    simp only [Str.cps_append, Array.toList_append]
    rw [rep_append, rep_append, ih, rep_free c z _ (h p (List.mem_cons_self ..))]
    have : rep c z [c] = z := by show (if c = c then z else [c]) ++ [] = z; rw [if_pos rfl, List.append_nil]
    show p.cps.toList ++ rep c z [c] ++ _ = _
    rw [this]
theorem replace_rep (x : PySem.Str) (c : Nat) (z : List Nat) : Txt.replace x ⟨#[c]⟩ ⟨z.toArray⟩ = ⟨(rep c z x.cps.toList).toArray⟩ := by
  have h1 : (Txt.replace x ⟨#[c]⟩ ⟨z.toArray⟩).cps.toList = rep c z x.cps.toList := by
    rw [StrLaws.replace_one, ← rep_join c z _ (StrLaws.split_free x c), StrLaws.join_split]
  have h2 : Txt.replace x ⟨#[c]⟩ ⟨z.toArray⟩ = ⟨(Txt.replace x ⟨#[c]⟩ ⟨z.toArray⟩).cps.toList.toArray⟩ := by simp
  rw [h2, h1]
section
variable {prog : Program} {w : World} {A : Around} {E : Value → Shared → Prop} {s : Shared} {x y z : PySem.Str} {t u v : Tok} {Q : Value → Shared → Prop}
theorem replace_K (hu : u ≠ 0) (hv : v ≠ 0) (huv : u ≠ v) (hyz : (y == z) = false) (hb : x.length + (x.length + 1) * z.length ≤ 16777216)
    (hq : ∀ t' k, s.toks ≤ k → Q (.str (Txt.replace x y z) t') { s with toks := k }) : wpAny (model prog w) A (call (.builtin "str.replace") [.str x t, .str y u, .str z v]) Q E s := by
  have e : (2 : Nat) ^ 24 = 16777216 := by decide
  have hl : tooLong (x.length + (occurrences x y 0 x.length (x.length + 1)).length * z.length) = false := by
    have h1 := StrLaws.occ_length_le x y 0 x.length (x.length + 1)
    have h2 : (occurrences x y 0 x.length (x.length + 1)).length * z.length ≤ (x.length + 1) * z.length := Nat.mul_le_mul_right _ h1
    unfold tooLong sizeLine
    exact decide_eq_false (by omega)
  refine call_gives F.slot_str_replace (typeIs_str _ _ _) F.entry_str_replace (F.args_str_replace_3 _ _ _)
    (gives_str_replace x y z t u v fun _ => ⟨by simp [hu, hv], by simp [huv], hyz, hl⟩) ?_
  have hq' := hq
  unfold Txt.replace at hq'
  cases hc : ((occurrences x y 0 x.length (x.length + 1)).isEmpty || (y.length == 0 && z.length == 0))
  · rw [hc] at hq'
    simp only [Bool.false_eq_true, if_false] at hq' ⊢
    exact ⟨fits_replaced y hb, hq' _ _ (Nat.le_succ _)⟩
  · rw [hc] at hq'
    simp only [if_true] at hq' ⊢
    exact hq' t s.toks (Nat.le_refl _)
end
end
section
variable {prog : Program} {w : World} {loose : List Str} {mean : ExcName → Option Value} {mg mb : Str → Option Value} {dp un : Nat} {gd : Option (List Code)} {cn : Str} {cs : Scope} {a : Addr} {ccd : Value} {cl : List (Str × Addr)} {outer : List Env} {A₀ : Around} {base h₀ : Heap} {L : Addr} {m : Str → Option Value} {news : List (Addr × Obj)} {s : Shared} {Q E : Value → Shared → Prop}
local macro_rules | `(tactic| walk_at "binaryOp Add str str") => `(tactic| ((with_reducible show wpAny _ _ (binaryOp Operator.Add (Value.str (PySem.Str.ofString "\\") _) (Value.str (PySem.Str.mk _) _)) _ _ _); refine Hold.mk ?_))
local macro_rules | `(tactic| walk_at "exec For Name Constant") => `(tactic| refine Hold.mk ?_)
local macro_rules | `(tactic| walk_at "call builtin:str.replace") => `(tactic| refine Hold.mk ?_)
theorem rep_len {c : Nat} {a b : Nat} : ∀ l : List Nat, (rep c [a, b] l).length ≤ 2 * l.length
  | [] => Nat.le_refl _
  | k :: r => by
    have ih := rep_len (c := c) (a := a) (b := b) r
    show ((if k = c then [a, b] else [k]) ++ rep c [a, b] r).length ≤ _
    split <;> simp only [List.length_append, List.length_cons, List.length_nil] <;> omega
noncomputable def whites : List Nat := [10, 9, 13, 32]
noncomputable def shw : Nat → List Nat → List Nat
  | 0, l => l
  | i + 1, l => rep (whites.getD i 0) [92, whites.getD i 0] (shw i l)
theorem shw_len (l : List Nat) : ∀ i, (shw i l).length ≤ 2 ^ i * l.length
  | 0 => by simp [shw]
  | i + 1 => by
    have h1 := shw_len l i
    have h2 := rep_len (c := whites.getD i 0) (a := 92) (b := whites.getD i 0) (shw i l)
    show (rep _ _ (shw i l)).length ≤ _
    rw [Nat.pow_succ]
    have : 2 ^ i * 2 * l.length = 2 * (2 ^ i * l.length) := by rw [Nat.mul_comm (2 ^ i) 2, Nat.mul_assoc]
    omega
theorem add_esc {A : Around} {E : Value → Shared → Prop} {c : Nat} {t u : Tok} {Q : Value → Shared → Prop} (h : Q (.str ⟨#[92, c]⟩ s.toks) { s with toks := s.toks + 1 }) :
    wpAny (model prog w) A (binaryOp .Add (.str (Str.ofString "\\") t) (.str ⟨#[c]⟩ u)) Q E s := by
  refine PySem.P.add_str ?_
  show (Made.str _).post Q s
  exact ⟨by rw [sizeLine_eq]; show 2 ≤ _; decide, h⟩
noncomputable def shownL (x : Str) : List Nat := rep 34 [92, 34] (rep 92 [92, 92] x.cps.toList)
noncomputable def writtenS (x : Str) (bare : Bool) : Str := if bare then ⟨(shw 4 (shownL x)).toArray⟩ else ⟨(34 :: shownL x ++ [34]).toArray⟩
theorem written_spec {x : Str} {t : Tok} {bare : Bool}
   (B : Below A₀ base outer h₀) (F : Fr h₀ L s.heap m) (X : (hd.heap_1 w.params).In h₀) (N : News h₀ L s.heap news)
   (T : Top topProg loose mean mg mb h₀) (hk : cs.kind = .function)  (hdp : dp + 20 < recursionLimit) (hun : un + 200 < cLine)
   (hlen : x.length ≤ 200)
   (ret : ∀ h' tk' y ty, Fr h₀ L h' m → News h₀ L h' news → y = writtenS x bare → Q (.str y ty) { s with heap := h', toks := tk' }) :
   wpAny (model prog w) (ktrTop dp un gd cn cs L a ccd cl outer) (call (.ref 141) [.str x t, .bool bare]) Q E s := by
  refine wpAny_call ?_
  k_dflt cell_enter
  k_dflt (show wpAny (model prog w) _ _ _ _ ⟨_, s.gens, s.drawn, s.toks + 2, s.os⟩)
  have htk : 0 < s.toks + 2 := Nat.succ_pos _
  generalize s.toks + 2 = tk0 at htk ⊢
  k_steps
  refine Hold.out ?_
  refine replace_K (Nat.ne_of_gt htk) (Nat.succ_ne_zero _) (Nat.ne_of_lt (Nat.lt_succ_self _)) (by decide +kernel) ?sz ?_
  case sz =>
    show x.length + (x.length + 1) * 2 ≤ _
    omega
  intro t1 k1 hk1
  have hk1' : 0 < k1 := Nat.lt_of_lt_of_le (Nat.succ_pos _) hk1
  clear hk1
  rw [show Txt.replace x (Str.ofString "\\") (Str.ofString "\\\\") = ⟨(rep 92 [92, 92] x.cps.toList).toArray⟩ from replace_rep x 92 [92, 92]]
  k_steps
  refine Hold.out ?_
  refine replace_K (Nat.ne_of_gt hk1') (Nat.succ_ne_zero _) (Nat.ne_of_lt (Nat.lt_succ_self _)) (by decide +kernel) ?sz ?_
  case sz =>
    have h1 := rep_len (c := 92) (a := 92) (b := 92) x.cps.toList
    have h2 : x.cps.toList.length = x.length := Array.length_toList
    show (rep 92 [92, 92] x.cps.toList).toArray.size + ((rep 92 [92, 92] x.cps.toList).toArray.size + 1) * 2 ≤ _
    simp only [List.size_toArray]
    omega
  intro t2 k2 hk2
  have hk2' : 0 < k2 := Nat.lt_of_lt_of_le (Nat.succ_pos _) hk2
  clear hk2
  rw [show Txt.replace ⟨(rep 92 [92, 92] x.cps.toList).toArray⟩ (Str.ofString "\"") (Str.ofString "\\\"") = ⟨(rep 34 [92, 34] (rep 92 [92, 92] x.cps.toList)).toArray⟩ from replace_rep _ 34 [92, 34]]
  have hshl : (⟨(rep 34 [92, 34] (rep 92 [92, 92] x.cps.toList)).toArray⟩ : Str).length ≤ 800 := by
    have h1 := rep_len (c := 92) (a := 92) (b := 92) x.cps.toList
    have h3 := rep_len (c := 34) (a := 92) (b := 34) (rep 92 [92, 92] x.cps.toList)
    have h2 : x.cps.toList.length = x.length := Array.length_toList
    show (rep 34 [92, 34] (rep 92 [92, 92] x.cps.toList)).toArray.size ≤ _
    simp only [List.size_toArray]
    omega
  generalize hsh : rep 34 [92, 34] (rep 92 [92, 92] x.cps.toList) = sh at hshl ⊢
  k_steps
  rotate_left
  · rename Fr h₀ L _ _ => F9
    rename News h₀ L _ _ => N9
    refine ret _ _ _ _ F9 N9 ?_
    rename bare = false => hbf
    rw [hbf, show Str.ofString "\"" = (⟨[34].toArray⟩ : Str) from by decide +kernel, str_app, str_app, ← hsh]
    rfl
  refine Hold.out ?_
  refine wpAny_mono (E := fun _ _ => False) (wpAny_For ?_ (by intro _; rfl)) (fun _ _ x => x) fun _ _ x => x.elim
  k_steps
  refine wpAny_pyIter_strU ?_
  rename Heap => hp
  rename Fr _ _ _ _ => F1
  rename News _ _ _ _ => N1
  have hLs := L_lt F1
  have hN1 := news_lt N1
  have hty : strIterType (Str.ofString "\n\t\x0d ") = "str_ascii_iterator" := by decide +kernel
  rw [hty]
  have hit0 : ∀ tw,  Heap.IsStrIter (hp.push { cls := .type "str_ascii_iterator", data := .fields #[.str (Str.ofString "\n\t\x0d ") tw, .int 0 0] }) hp.objs.size "str_ascii_iterator" (Str.ofString "\n\t\x0d ") tw 0 := fun tw => ⟨_, Heap.get?_push_size _ rfl, rfl, rfl⟩
  clear hit0
  refine codeAny_forLoop_any (fun n s' => ∃ i h tk m' t' tw, n = 4 - i ∧ i ≤ 4 ∧ s' = { s with heap := h, toks := tk } ∧ 0 < tk ∧ Fr _ _ h m' ∧ News _ _ h news ∧ h.IsStrIter hp.objs.size "str_ascii_iterator" (Str.ofString "\n\t\x0d ") tw i ∧ m' (Str.ofString "shown") = some (.str ⟨(shw i sh).toArray⟩ t')) ?_ 4
    ⟨0, _, _, _, _, _, rfl, Nat.zero_le _, rfl, Nat.succ_pos _, F1.push _, N1.grown (fun b o e => Heap.get?_push_of_some _ e), ⟨_, Heap.get?_push_size _ rfl, rfl, rfl⟩, rfl⟩
  rintro n s' ⟨i, h, tk, m', t', tw, rfl, hi, rfl, htk1, F2, N2, hit, hm1⟩
  have hLi := Nat.ne_of_lt hLs
  have hI0 := no_old F1 (Nat.le_of_lt hLs)
  have hoff : ∀ p ∈ news, p.1 ≠ hp.objs.size := fun p hp' => Nat.ne_of_lt (hN1 p hp')
  rcases Nat.lt_or_ge i 4 with hi4 | hi4
  · have hx : (Str.ofString "\n\t\x0d ").cps[i]? = some (whites.getD i 0) := by
      have : ∀ j < 4, (Str.ofString "\n\t\x0d ").cps[j]? = some (whites.getD j 0) := by decide +kernel
      exact this i hi4
    have hcb : whites.getD i 0 ≠ 92 := by
      have : ∀ j < 4, whites.getD j 0 ≠ 92 := by decide
      exact this i hi4
    generalize hc : whites.getD i 0 = c at hx hcb
    refine wpAny_pyNext_ascii_item (s := { s with heap := h, toks := tk }) hit hx fun h2 hit2 hs2 => ?_
    have hk2 : ∀ b o, b ∉ [hp.objs.size] → h.get? b = some o → h2.get? b = some o := fun b o hb e => hs2.extBut b o (fun z => hb (by simp [z])) e
    have F3 := LCg.fr_but F2 hk2 hLi hI0
    have N3 := LCg.news_but N2 hk2 hoff
    clear F2 N2
    refine wpAny_of_eq (a := ()) rfl ?_
    refine wpAny_assign_Name (wpAny_storeName_local (s := { s with heap := h2, toks := tk + 1 }) rfl F3.ns (fun h₄ hn₄ hs₄ => ?_) rfl)
    have F4 := F3.set hn₄ hs₄
    have N4 := N3.set hs₄
    have hit4 := hit2.extBut hs₄.extBut (Ne.symm hLi)
    clear F3 N3
    rw [loc1 hm1 (fun y _ => rfl)] at F4
    have hsl := shw_len sh i
    have hpw : 2 ^ i ≤ 16 := by
      have : ∀ j < 4, 2 ^ j ≤ 16 := by decide
      exact this i hi4
    have hsh8 : sh.length ≤ 800 := by
      have h8 := hshl
      change sh.toArray.size ≤ 800 at h8
      simpa using h8
    have hsl2 : (shw i sh).length ≤ 12800 := Nat.le_trans hsl (Nat.mul_le_mul hpw hsh8)
    k_steps
    refine Hold.out ?_
    refine add_esc ?_
    k_steps
    refine Hold.out ?_
    refine replace_K (Nat.ne_of_gt htk1) (Nat.succ_ne_zero _) (by first | (show tk ≠ tk + 1 + 1 + 1; omega) | (show tk + 1 ≠ tk + 1 + 1 + 1; omega) | (show tk + 1 + 1 ≠ tk + 1 + 1 + 1; omega)) (beq_eq_false_iff_ne.mpr fun e => by have := congrArg (fun s : Str => s.cps.size) e; cases this) ?sz ?_
    case sz =>
      show (shw i sh).toArray.size + ((shw i sh).toArray.size + 1) * 2 ≤ _
      simp only [List.size_toArray]
      omega
    intro t5 k5 hk5
    have hk5' : 0 < k5 := Nat.lt_of_lt_of_le (Nat.succ_pos _) hk5
    rw [show Txt.replace ⟨(shw i sh).toArray⟩ ⟨#[c]⟩ ⟨#[92, c]⟩ = ⟨(shw (i + 1) sh).toArray⟩ from (replace_rep _ c [92, c]).trans (by rw [← hc]; rfl)]
    refine wpAny_storeName_local rfl F4.ns (fun h₆ hn₆ hs₆ => ?_) rfl
    refine wpAny_execs_nil ?_
    exact ⟨4 - (i + 1), by omega, i + 1, h₆, _, _, _, tw, rfl, hi4, rfl, Nat.succ_pos _, F4.set hn₆ hs₆, N4.set hs₆, hit4.extBut hs₆.extBut (Ne.symm hLi), rfl⟩
  · have : i = 4 := Nat.le_antisymm hi hi4
    subst this
    refine wpAny_pyNext_ascii_end (s := { s with heap := h, toks := tk }) rfl hit rfl fun h2 hx2 => ?_
    have hk2 : ∀ b o, b ∉ [hp.objs.size] → h.get? b = some o → h2.get? b = some o := fun b o hb e => hx2 b o (fun z => hb (by simp [z])) e
    have F3 := LCg.fr_but F2 hk2 hLi hI0
    have N3 := LCg.news_but N2 hk2 hoff
    clear F2 N2
    rw [loc1 hm1 (fun y _ => rfl)] at F3
    refine wpAny_execs_nil ?_
    k_steps
    rename Fr h₀ L _ _ => F9
    rename News h₀ L _ _ => N9
    refine ret _ _ _ _ F9 N9 ?_
    rename bare = true => hbt
    rw [hbt, ← hsh]
    rfl
end
section
variable {prog : Program} {w : World} {loose : List Str} {mean : ExcName → Option Value} {mg mb : Str → Option Value} {dp un : Nat} {gd : Option (List Code)} {cn : Str} {cs : Scope} {a : Addr} {ccd : Value} {cl : List (Str × Addr)} {outer : List Env} {A₀ : Around} {base h₀ : Heap} {L : Addr} {m : Str → Option Value} {news : List (Addr × Obj)} {s : Shared} {Q E : Value → Shared → Prop}
local macro_rules | `(tactic| walk_at "exec While") => `(tactic| refine Hold.mk ?_)
/-- the octets of one number, as `parse_spec` reads them -/
noncomputable def Group (v : Int) (g : List Int) : Prop := ∃ b0 cs, g = b0 :: cs ∧ 0 ≤ b0 ∧ cs.length ≤ 4 ∧ vrun b0 (b0 % 64) cs = some (v, cs.length) ∧ ∀ c ∈ cs, 0 ≤ c
theorem group_at {ov : List Value} {L : List Int} (hi : IntsAre ov L) {i : Nat} {b0 : Int} {cs rest : List Int} (e : L.drop i = (b0 :: cs) ++ rest) :
   (∃ t, ov.toArray[i]? = some (.int b0 t)) ∧ ∀ k c, cs[k]? = some c → ∃ t, ov.toArray[i + 1 + k]? = some (.int c t) := by
  have h1 : L[i]? = some b0 := by
    have := congrArg (fun l : List Int => l[0]?) e
    simpa using this
  refine ⟨by obtain ⟨t, ht⟩ := hi.get i b0 h1; exact ⟨t, by simpa using ht⟩, fun k c hk => ?_⟩
  have h2 : L[i + 1 + k]? = some c := by
    have := congrArg (fun l : List Int => l[k + 1]?) e
    simp only [List.cons_append, List.getElem?_cons_succ, List.getElem?_drop] at this
    have hk2 : k < cs.length := by
      rcases Nat.lt_or_ge k cs.length with h | h
      · exact h
      · rw [List.getElem?_eq_none h] at hk; cases hk
    rw [List.getElem?_append_left hk2, hk] at this
    rw [← this]; congr 1; omega
  obtain ⟨t, ht⟩ := hi.get _ c h2
  exact ⟨t, by simpa using ht⟩
theorem call_iter_list {A : Around} {D : Addr} {vs : List Value} {nn : Nat} (F : Fr h₀ L s.heap m) (N : News h₀ L s.heap news) (hD : (D, W.listOf vs.toArray nn) ∈ news)
   (h : ∀ h' it, Fr h₀ L h' m → News h₀ L h' ((it, { cls := .type "list_iterator", data := .fields #[.ref D, .int 0 0] }) :: news) → (∀ p ∈ news, p.1 < it) → Q (.ref it) { s with heap := h' }) :
   wpAny (model prog w) A (call (.builtin "iter") [.ref D]) Q E s := by
  have hl : s.heap.IsList D vs.toArray := PySem.IsL.isList (n := nn) (N _ hD).1
  refine call_function_entry (by decide +kernel) (by decide +kernel) kdk_entry_iter (kdk_args_iter _) ?_
  unfold Builtin.«iter»
  refine wpAny_bind (m := someArgs "iter" 1 2 _) (wpAny_of_eq (a := [Value.ref D]) (by first | rfl | kernel_rfl!) ?_)
  dsimp only
  refine wpAny_bind (wpAny_pyIter_list hl ?_)
  exact wpAny_pure ⟨_, rfl, h _ _ (F.push _) (N.push F _) (fun p hp => Heap.lt_size (N p hp).1)⟩
theorem ne3 {it D R : Addr} {o : Obj} {news' : List (Addr × Obj)} (l5 : @LT.lt Nat _ it R ∧ @LT.lt Nat _ D R ∧ AllLt R news') (hit : ∀ p ∈ (D, o) :: news', p.1 < it) : (∀ oR, ∀ p ∈ (D, o) :: (R, oR) :: news', p.1 ≠ it) ∧ (∀ p ∈ news', p.1 ≠ R) ∧ D ≠ R :=
  ⟨fun oR => List.forall_mem_cons.mpr ⟨Nat.ne_of_lt (hit _ (.head _)), List.forall_mem_cons.mpr ⟨Ne.symm (Nat.ne_of_lt l5.1), fun p hp => Nat.ne_of_lt (hit p (.tail _ hp))⟩⟩, fun p hp => Nat.ne_of_lt (allLt_back l5.2.2 p hp), Nat.ne_of_lt l5.2.1⟩
theorem ints_take {ys : List Value} {x : Str} {i c : Nat} {t : Tok} (h : IntsAre ys ((x.cps.toList.take i).map (fun n : Nat => (n : Int)))) (hc : x.cps[i]? = some c) : IntsAre (ys ++ [.int (c : Nat) t]) ((x.cps.toList.take (i + 1)).map (fun n : Nat => (n : Int))) := by
  have e : x.cps.toList[i]? = some c := by rw [Array.getElem?_toList]; exact hc
  rw [List.take_add_one, e, List.map_append]
  exact h.append (.cons _ _ .nil)
theorem read_spec {x : Str} {t : Tok} {gs : List (Int × List Int)} {z : List Int}
   (B : Below A₀ base outer h₀) (F : Fr h₀ L s.heap m) (X : (hd.heap_1 w.params).In h₀) (N : News h₀ L s.heap news)
   (T : Top topProg loose mean mg mb h₀) (hk : cs.kind = .function)  (hdp : dp + 40 < recursionLimit) (hun : un + 400 < cLine)
   (hlen : gs.length ≤ 8) (hxl : ((gs.map (·.2)).flatten ++ z).length ≤ 16777216) (hg : ∀ p ∈ gs, Group p.1 p.2 ∧ p.1 ≠ 0) (hz : Group 0 z) (hx : x.cps.toList.map (fun n : Nat => (n : Int)) = (gs.map (·.2)).flatten ++ z)
   (ret : ∀ h' tk' D ys nn, Fr h₀ L h' m → News h₀ L h' ((D, W.listOf ys.toArray nn) :: news) → (∀ p ∈ news, p.1 ≠ D) → IntsAre ys (gs.map (·.1)) → Q (.ref D) { s with heap := h', toks := tk' }) :
   wpAny (model prog w) (ktrTop dp un gd cn cs L a ccd cl outer) (call (.ref 146) [.str x t]) Q E s := by
  refine wpAny_call ?_
  k_dflt cell_enter
  refine gen_Q fun Pz pz => ?_
  k_steps
  refine Hold.out ?_
  try dsimp only
  refine gen_toks fun tkh => ?_
  have hsz : x.cps.size ≤ sizeLine := by
    rw [sizeLine_eq]
    have h1 := congrArg List.length hx
    rw [List.length_map, Array.length_toList] at h1
    rw [h1]
    exact hxl
  k_dflt (refine ListComp_str (F₀ := by k_asm) (by with_unfolding_all rfl) (by decide) (by rfl) (by decide) (by rfl) ?_)
  k_steps
  rename Fr _ _ _ _ => F1
  rename News _ _ _ _ => N1
  refine ⟨_, _, _, rfl, rfl, F1, N1, hsz, fun g => compRest_inv x.cps.size (fun i ys news' => IntsAre ys ((x.cps.toList.take i).map (fun n : Nat => (n : Int))) ∧ news' = news) ?_ ?_ x.cps.size 0 [] _ (Nat.zero_add _) ⟨.nil, rfl⟩⟩
  · rintro i v ys news' I oI C oC D m₂ h tk E' hlt ⟨c, u, hc, rfl⟩ ⟨hys, rfl⟩ hn hm F2 N2 off hne
    k_steps
    exact LCg.CompEnd.intro F2 N2 news' (fun p hp => hp) off trivial ⟨ints_take hys hc, rfl⟩
  · rintro ys news' ⟨hys, rfl⟩
    rw [show List.take x.cps.size x.cps.toList = x.cps.toList from List.take_of_length_le (by rw [Array.length_toList]; exact Nat.le_refl _), hx] at hys
    intro D h tk F2 N2 off2
    have off2' := off1_mem off2
    k_steps
    rename Fr _ _ h _ => F3
    rename News _ _ h _ => N3
    refine call_iter_list F3 N3 (.head _) ?_
    intro h4 it F4 N4 hit
    k_steps
    refine Hold.out ?_
    try dsimp only
    refine gen_toks fun tkh => ?_
    rename Fr _ _ _ _ => F5
    rename News _ _ _ _ => N5
    rename _ ∧ _ => l5
    obtain ⟨hRne, hRn, hRD⟩ := ne3 (o := W.listOf ys.toArray ys.length) l5 hit
    have N5 : News _ _ _ ((_, W.listOf ([] : List Value).toArray 0) :: (it, { cls := .type "list_iterator", data := .fields #[.ref D, .int 0 0] }) :: (D, W.listOf ys.toArray ys.length) :: news') := N5
    have hgz : ∀ p ∈ gs ++ [((0 : Int), z)], Group p.1 p.2 := fun p hp => (List.mem_append.mp hp).elim (fun h => (hg p h).1) (fun h => by rw [List.mem_singleton.mp h]; exact hz)
    have hgn : ∀ j v g, (gs ++ [((0 : Int), z)])[j]? = some (v, g) → (v = 0 ∧ j = gs.length) ∨ (v ≠ 0 ∧ gs[j]? = some (v, g)) := by
      intro j v g hj
      rcases Nat.lt_or_ge j gs.length with h1 | h1
      · rw [List.getElem?_append_left h1] at hj
        exact .inr ⟨(hg _ (List.mem_of_getElem? hj)).2, hj⟩
      · rw [List.getElem?_append_right h1] at hj
        have h2 : j - gs.length = 0 := by
          rcases Nat.eq_zero_or_pos (j - gs.length) with h3 | h3
          · exact h3
          · rw [List.getElem?_eq_none (by simp only [List.length_cons, List.length_nil]; omega)] at hj; cases hj
        rw [h2] at hj
        cases hj
        exact .inl ⟨rfl, by omega⟩
    have hLs : ((gs ++ [((0 : Int), z)]).map (·.2)).flatten = (gs.map (·.2)).flatten ++ z := by simp
    rw [← hLs] at hys
    generalize hgz0 : gs ++ [((0 : Int), z)] = gz at hgz hgn hys
    have hgl : gz.length = gs.length + 1 := by rw [← hgz0]; simp
    obtain ⟨p0, pr, hp0⟩ : ∃ p0 pr, gz = p0 :: pr := by
      cases gz with
      | nil => cases hgl
      | cons a b => exact ⟨_, _, rfl⟩
    obtain ⟨b0, cs0, e0, hb0, hc0, hv0, hp00⟩ := hgz p0 (by rw [hp0]; exact .head _)
    obtain ⟨⟨tb, hb⟩, hcs⟩ := group_at (i := 0) (b0 := b0) (cs := cs0) (rest := (pr.map (·.2)).flatten) hys (by rw [hp0, List.map_cons, List.flatten_cons, e0]; rfl)
    have N6 : News _ _ _ ((it, { cls := .type "list_iterator", data := .fields #[.ref D, .int 0 0] }) :: (D, W.listOf ys.toArray ys.length) :: (_, W.listOf ([] : List Value).toArray 0) :: news') := fun p hp => N5 p (by
      simp only [List.mem_cons] at hp ⊢
      rcases hp with h | h | h | h <;> first | (simp [h]; done) | (exact .inl h) | (exact .inr (.inl h)) | (exact .inr (.inr (.inl h))))
    clear N5
    k_dflt (refine' parse_spec ?B F5 ?X N6 ⟨rfl, rfl⟩ (hRne _) hb hb0 (fun k c hk' => ⟨hp00 c (List.mem_of_getElem? hk'), hcs k c hk'⟩) hc0 hv0 ?T ?hk ?hdp ?hun ?rt)
    case B => k_asm
    case X => k_asm
    case T => k_asm
    case hk => rfl
    case hdp => exact room1 (k := 1) (b := 10) hdp (Nat.le_of_ble_eq_true rfl)
    case hun => exact room1 (k := 3) (b := 100) hun (Nat.le_of_ble_eq_true rfl)
    intro t' h' tk' o' F7 N7 hi7
    have hdrop0 : (((gz.map (·.2)).flatten).drop (0 + 1 + cs0.length)) = (pr.map (·.2)).flatten := by
      rw [hp0, List.map_cons, List.flatten_cons, e0]
      rw [show 0 + 1 + cs0.length = (b0 :: cs0).length from by simp; omega, List.drop_left]
    k_steps
    refine Hold.out ?_
    try dsimp only
    refine gen_toks fun tkh => ?_
    rename Fr _ _ _ _ => F8
    rename News _ _ _ _ => N8
    try dsimp only
    refine gen_toks fun tkw => ?_
    refine while_K (fun n m'' news'' => ∃ j v ti o R rvs nR i, n = gs.length - j ∧ j ≤ gs.length ∧ m'' (Str.ofString "number") = some (.int v ti) ∧ m'' (Str.ofString "signs") = some (.ref it) ∧ m'' (Str.ofString "row") = some (.ref R) ∧
      news'' = (it, o) :: (D, W.listOf ys.toArray ys.length) :: (R, W.listOf rvs.toArray nR) :: news' ∧ (∀ oR, ∀ p ∈ (D, W.listOf ys.toArray ys.length) :: (R, oR) :: news', p.1 ≠ it) ∧ (∀ p ∈ news', p.1 ≠ R) ∧ D ≠ R ∧ LiIter o D i ∧ IntsAre rvs ((gs.take j).map (·.1)) ∧
      (∃ g, gz[j]? = some (v, g)) ∧ ((gz.map (·.2)).flatten).drop i = ((gz.drop (j + 1)).map (·.2)).flatten) gs.length F8 N8
      ⟨0, p0.1, _, _, _, _, _, _, rfl, Nat.zero_le _, rfl, rfl, rfl, rfl, hRne, hRn, hRD, hi7, .nil, ⟨p0.2, by rw [hp0]; rfl⟩, by rw [hdrop0, hp0]; rfl⟩ ?_
    clear F8 N8
    rintro n m5 news5 h5 tk5 Pw qw ⟨j, v, ti, o, R, rvs, nR, i, rfl, hj, hn1, hn2, hn3, rfl, hRne, hRn, hRD, hi9, hrv, ⟨g, hgj⟩, hdr⟩ F9 N9
    rw [loc3 hn1 hn2 hn3 (fun y _ _ _ => rfl)] at F9
    have hrl : rvs.length ≤ 8 := by
      have := hrv.length
      rw [List.length_map, List.length_take] at this
      omega
    rcases hgn j v g hgj with ⟨rfl, rfl⟩ | ⟨hvn, hgj2⟩
    · k_steps
      refine pz _ _ ?_
      k_steps
      rename Fr h₀ L _ _ => F11
      rename News h₀ L _ _ => N11
      refine ret _ _ R rvs nR F11 (fun p hp => N11 p (.tail _ (.tail _ hp))) hRn ?_
      rw [List.take_length] at hrv
      exact hrv
    · have hb9 : (v == 0) = false := by simpa using hvn
      have hRi : it ≠ R := Ne.symm (hRne (W.listOf rvs.toArray nR) _ (.tail _ (.head _)))
      have hj2 : j < gs.length := by
        rcases Nat.lt_or_ge j gs.length with h1 | h1
        · exact h1
        · rw [List.getElem?_eq_none h1] at hgj2; cases hgj2
      obtain ⟨q, hq⟩ : ∃ q, gz[j + 1]? = some q := by
        rcases h : gz[j + 1]? with _ | q
        · rw [List.getElem?_eq_none_iff] at h; omega
        · exact ⟨q, rfl⟩
      obtain ⟨c0, cs1, e1, hc00, hc1, hv1, hp11⟩ := hgz q (List.mem_of_getElem? hq)
      have hdj : gz.drop (j + 1) = q :: gz.drop (j + 2) := drop_at hq
      have hdr2 : ((gz.map (·.2)).flatten).drop i = (c0 :: cs1) ++ ((gz.drop (j + 2)).map (·.2)).flatten := by
        rw [hdr, hdj, List.map_cons, List.flatten_cons, e1]
      obtain ⟨⟨tb1, hb1⟩, hcs1⟩ := group_at hys hdr2
      have hdr3 : ((gz.map (·.2)).flatten).drop (i + 1 + cs1.length) = ((gz.drop (j + 2)).map (·.2)).flatten := by
        rw [show i + 1 + cs1.length = i + (c0 :: cs1).length from by simp; omega, ← List.drop_drop, hdr2, List.drop_left]
      k_steps
      rename Fr _ _ _ _ => F10
      rename News _ _ _ _ => N10
      rw [List.push_toArray] at N10
      refine Hold.out ?_
      try dsimp only
      refine gen_toks fun tkh => ?_
      k_dflt (refine' parse_spec ?B2 F10 ?X2 N10 hi9 (hRne _) hb1 hc00 (fun k c hk' => ⟨hp11 c (List.mem_of_getElem? hk'), hcs1 k c hk'⟩) hc1 hv1 ?T2 ?hk2 ?hdp2 ?hun2 ?rt2)
      case B2 => k_asm
      case X2 => k_asm
      case T2 => k_asm
      case hk2 => rfl
      case hdp2 => exact room1 (k := 1) (b := 10) hdp (Nat.le_of_ble_eq_true rfl)
      case hun2 => exact room1 (k := 3) (b := 100) hun (Nat.le_of_ble_eq_true rfl)
      intro t7 h7 tk7 o7 F13 N13 hi13
      k_steps
      rename Fr _ _ _ _ => F14
      rename News _ _ _ _ => N14
      refine qw _ _ (TurnEnd.mk (gs.length - (j + 1)) F14 N14 (by omega) ⟨j + 1, q.1, _, _, R, _, _, _, rfl, hj2, rfl, rfl, rfl, rfl, hRne, hRn, hRD, hi13, ?_, ⟨q.2, hq⟩, hdr3⟩)
      rw [List.take_add_one, hgj2, List.map_append]
      exact hrv.append (.cons _ _ .nil)
end
section
variable {prog : Program} {w : World} {loose : List Str} {mean : ExcName → Option Value} {mg mb : Str → Option Value} {dp un : Nat} {gd : Option (List Code)} {cn : Str} {cs : Scope} {a : Addr} {ccd : Value} {cl : List (Str × Addr)} {outer : List Env} {A₀ : Around} {base h₀ : Heap} {L : Addr} {m : Str → Option Value} {news : List (Addr × Obj)} {s : Shared} {Q E : Value → Shared → Prop}
local macro_rules | `(tactic| walk_at "call builtin:str.split") => `(tactic| refine Hold.mk ?_)
theorem strs3 {vs : List Value} {x y z : Str} (h : StrsAre vs [x, y, z]) : ∃ t1 t2 t3, vs = [.str x t1, .str y t2, .str z t3] := by
  cases h with
  | cons _ t1 h => cases h with
    | cons _ t2 h => cases h with
      | cons _ t3 h => cases h; exact ⟨_, _, _, rfl⟩
theorem decode_spec {x sa sb sc : Str} {t : Tok}
   (B : Below A₀ base outer h₀) (F : Fr h₀ L s.heap m) (X : (hd.heap_1 w.params).In h₀) (N : News h₀ L s.heap news)
   (T : Top topProg loose mean mg mb h₀) (hk : cs.kind = .function)  (hdp : dp + 40 < recursionLimit) (hun : un + 400 < cLine)
   (hsz : x.length + 2 ≤ sizeLine) (hsp : Txt.splitMax x (Str.ofString "'") 2 = [sa, sb, sc])
   (ret : ∀ h' tk' D vs, Fr h₀ L h' m → News h₀ L h' ((D, W.listOf vs.toArray 0) :: news) → (∀ p ∈ news, p.1 < D) → StrsAre vs [sa, sb, sc] → Q (.ref D) { s with heap := h', toks := tk' }) :
   wpAny (model prog w) (ktrTop dp un gd cn cs L a ccd cl outer) (call (.ref 49) [.str x t]) Q E s := by
  refine wpAny_call ?_
  k_dflt cell_enter
  refine gen_Q fun Pz pz => ?_
  k_steps
  refine Hold.out ?_
  rename Fr _ _ _ _ => F1
  rename News _ _ _ _ => N1
  refine splitN2A (hsz := hsz) F1 N1 (by decide +kernel) (by decide +kernel) ?_
  intro l h2 tk2 hl hs hle hli F2 N2
  rw [hsp] at hl
  rw [hl] at hs
  generalize strValues l = vs at *
  obtain ⟨t1, t2, t3, rfl⟩ := strs3 hs
  have hlt := news_lt N1
  k_steps
  refine pz _ _ ?_
  k_steps
  rename Fr h₀ L _ _ => F9
  rename News h₀ L _ _ => N9
  exact ret _ _ _ _ F9 N9 hlt hs
end
section
variable {prog : Program} {w : World} {loose : List Str} {mean : ExcName → Option Value} {mg mb : Str → Option Value} {dp un : Nat} {gd : Option (List Code)} {cn : Str} {cs : Scope} {a : Addr} {ccd : Value} {cl : List (Str × Addr)} {outer : List Env} {A₀ : Around} {base h₀ : Heap} {L : Addr} {m : Str → Option Value} {news : List (Addr × Obj)} {s : Shared} {Q E : Value → Shared → Prop}
theorem ints3 {vs : List Value} {x y z : Int} (h : IntsAre vs [x, y, z]) : ∃ t1 t2 t3, vs = [.int x t1, .int y t2, .int z t3] := by
  cases h with
  | cons _ t1 h => cases h with
    | cons _ t2 h => cases h with
      | cons _ t3 h => cases h; exact ⟨_, _, _, rfl⟩
theorem va_cons {K : Type} [DecidableEq K] (a : K) (b : Value) (r : List (K × Value)) (k : K) : valueAt ((a, b) :: r) k = if a = k then some b else valueAt r k := by
  unfold valueAt
  rw [List.find?_cons]
  by_cases h : a = k <;> simp [h]
theorem va_map {K : Type} [DecidableEq K] (k : K) (v : Value) (k' : K) : ∀ r : List (K × Value), valueAt (r.map fun kv => if kv.1 = k then (kv.1, v) else kv) k' = if k' = k then (if r.any (fun kv => kv.1 = k) then some v else none) else valueAt r k'
  | [] => by simp [valueAt]
  | (a, b) :: r => by
    have ih := va_map k v k' r
    rw [List.map_cons]
    by_cases h : a = k
    · subst h
      simp only [if_true]
      rw [va_cons, ih, va_cons]
      by_cases h2 : k' = a
      · subst h2; simp
      · rw [if_neg h2, if_neg (Ne.symm h2), if_neg h2, if_neg (Ne.symm h2)]
    · simp only [if_neg h]
      rw [va_cons, ih, va_cons]
      by_cases h2 : k' = k
      · subst h2
        rw [if_pos rfl, if_pos rfl, if_neg h, List.any_cons, show decide ((a, b).1 = k') = false from decide_eq_false h, Bool.false_or]
      · simp only [if_neg h2]
theorem va_app {K : Type} [DecidableEq K] (k : K) (v : Value) (k' : K) : ∀ r : List (K × Value), r.any (fun kv => kv.1 = k) = false → valueAt (r ++ [(k, v)]) k' = if k' = k then some v else valueAt r k'
  | [], _ => by
    show valueAt ((k, v) :: []) k' = _
    rw [va_cons]
    by_cases h2 : k' = k
    · subst h2; simp
    · rw [if_neg h2, if_neg (Ne.symm h2)]
  | (a, b) :: r, h => by
    rw [List.any_cons, Bool.or_eq_false_iff] at h
    have ih := va_app k v k' r h.2
    have h1 : a ≠ k := by simpa using h.1
    rw [List.cons_append, va_cons, ih, va_cons]
    by_cases h2 : k' = k
    · subst h2; simp [h1]
    · rw [if_neg h2, if_neg h2]
theorem va_set {K : Type} [DecidableEq K] (kvs : List (K × Value)) (k : K) (v : Value) (k' : K) : valueAt (stored kvs k v) k' = if k' = k then some v else valueAt kvs k' := by
  unfold stored
  cases h : kvs.any (fun kv => kv.1 = k)
  · simp only [Bool.false_eq_true, if_false]
    exact va_app k v k' kvs h
  · simp only [if_true]
    rw [va_map, h]; simp
theorem stored_len {K : Type} [DecidableEq K] (kvs : List (K × Value)) (k : K) (v : Value) : (stored kvs k v).length ≤ kvs.length + 1 := by
  unfold stored
  split <;> simp
/-- what an operator's sign looks like -/
noncomputable def signOk (n : Int) (x : Str) : Prop := (∀ c ∈ x.cps.toList, c ≠ 34 ∧ c ≠ 92 ∧ c < 128) ∧ (n = 7 → x.cps.toList = [40]) ∧ (n = 8 → x.cps.toList = [41]) ∧ (n ≠ 7 → n ≠ 8 → ∀ c ∈ x.cps.toList, c ≠ 40 ∧ c ≠ 41) ∧ x.cps.size ≤ 3
noncomputable def rowOkB : PyData × PyData → Bool
  | (.str x, .int n) => decide (7 ≤ n) && decide (n ≤ 54) && x.cps.toList.all (fun c => c != 34 && c != 92 && decide (c < 128)) && (decide (n = 7) == false || x.cps.toList == [40]) && (decide (n = 8) == false || x.cps.toList == [41]) && (decide (n = 7) || decide (n = 8) || x.cps.toList.all (fun c => c != 40 && c != 41)) && decide (x.cps.size ≤ 3)
  | _ => false
noncomputable def tabOkB (D : List (PyData × PyData)) : Bool := D.all rowOkB && decide (D.length = 48) && (List.range 48).all fun k => D.any fun p => match p.2 with
  | .int n => decide (n = 7 + (k : Int))
  | _ => false
theorem rowOk_at {D : List (PyData × PyData)} (h : tabOkB D = true) {x : Str} {d : PyData} {i : Nat} (hi : D[i]? = some (.str x, d)) : ∃ n, d = .int n ∧ signOk n x := by
  unfold tabOkB at h
  rw [Bool.and_eq_true, Bool.and_eq_true, List.all_eq_true] at h
  have := h.1.1 _ (List.mem_of_getElem? hi)
  cases d <;> try (simp [rowOkB] at this; done)
  next n =>
    refine ⟨n, rfl, ?_⟩
    simp only [rowOkB, Bool.and_eq_true, Bool.or_eq_true, decide_eq_true_eq, List.all_eq_true, bne_iff_ne, beq_iff_eq, ne_eq, decide_eq_false_iff_not] at this
    obtain ⟨⟨⟨⟨⟨⟨_, _⟩, h3⟩, h4⟩, h5⟩, h6⟩, h7⟩ := this
    refine ⟨fun c hc => ⟨(h3 c hc).1.1, (h3 c hc).1.2, (h3 c hc).2⟩, fun e => h4.resolve_left (fun z => z e), fun e => h5.resolve_left (fun z => z e), fun e1 e2 => ?_, h7⟩
    rcases h6 with (h6 | h6) | h6
    · exact absurd h6 e1
    · exact absurd h6 e2
    · exact h6
theorem tabOk_has {D : List (PyData × PyData)} (h : tabOkB D = true) {n : Int} (h1 : 7 ≤ n) (h2 : n ≤ 54) : ∃ i < 48, ∃ e, D[i]? = some (e, .int n) := by
  unfold tabOkB at h
  rw [Bool.and_eq_true, Bool.and_eq_true, List.all_eq_true, List.all_eq_true] at h
  have h3 := h.2 (n - 7).toNat (by rw [List.mem_range]; omega)
  rw [List.any_eq_true] at h3
  obtain ⟨p, hp, hv⟩ := h3
  obtain ⟨i, hi⟩ := List.getElem?_of_mem hp
  obtain ⟨a, d⟩ := p
  cases d <;> try (simp at hv; done)
  next k =>
    have hk : k = 7 + (((n - 7).toNat : Nat) : Int) := by simpa using hv
    have : k = n := by omega
    subst this
    have hl : D.length = 48 := by simpa using h.1.2
    refine ⟨i, ?_, a, hi⟩
    rcases Nat.lt_or_ge i D.length with h5 | h5
    · omega
    · rw [List.getElem?_eq_none h5] at hi; cases hi
noncomputable def seenOk (D : List (PyData × PyData)) (n0 n1 n2 op : Int) (k : Nat) (kvs : List (Int × Value)) : Prop :=
  (∃ t, valueAt kvs n0 = some (.str (Str.ofString "\")\"") t)) ∧ (∃ t, valueAt kvs n1 = some (.str (Str.ofString "\\(") t)) ∧ (∃ t, valueAt kvs n2 = some (.str (Str.ofString "\\\"") t)) ∧ kvs.length ≤ 3 + k ∧
    ∀ v, (v = 7 ∨ v = 8 ∨ v = op) → (∃ i < k, ∃ x, D[i]? = some (x, .int v)) → ∃ x t, valueAt kvs v = some (.str x t) ∧ signOk v x
theorem seenOk_skip {D : List (PyData × PyData)} {n0 n1 n2 op : Int} {k : Nat} {kvs : List (Int × Value)} {n : Int} {x : Str} (h : seenOk D n0 n1 n2 op k kvs) (hD : D[k]? = some (.str x, .int n)) (hn : ¬ (n = 7 ∨ n = 8 ∨ n = op)) : seenOk D n0 n1 n2 op (k + 1) kvs := by
  obtain ⟨a, b, c, d, e⟩ := h
  refine ⟨a, b, c, by omega, fun v hv ⟨i, hi, y, hy⟩ => e v hv ⟨i, ?_, y, hy⟩⟩
  rcases Nat.lt_or_ge i k with h1 | h1
  · exact h1
  · have : i = k := by omega
    subst this
    rw [hD] at hy
    cases hy
    exact absurd hv hn
theorem seenOk_put {D : List (PyData × PyData)} {n0 n1 n2 op : Int} {k : Nat} {kvs : List (Int × Value)} {n : Int} {x : Str} {t : Tok} (hn0 : 256 ≤ n0) (hn1 : 256 ≤ n1) (hn2 : 256 ≤ n2) (ho : op ≤ 54) (h : seenOk D n0 n1 n2 op k kvs) (hD : D[k]? = some (.str x, .int n)) (hs : signOk n x) (hn : (n = 7 ∨ n = 8 ∨ n = op)) : seenOk D n0 n1 n2 op (k + 1) (stored kvs n (.str x t)) := by
  obtain ⟨a, b, c, d, e⟩ := h
  have hlt : n < 256 := by omega
  refine ⟨?_, ?_, ?_, ?_, ?_⟩
  · rw [va_set, if_neg (by omega)]; exact a
  · rw [va_set, if_neg (by omega)]; exact b
  · rw [va_set, if_neg (by omega)]; exact c
  · have := stored_len kvs n (.str x t); omega
  · rintro v hv ⟨i, hi, y, hy⟩
    rw [va_set]
    by_cases hvn : v = n
    · rw [if_pos hvn, hvn]; exact ⟨x, t, rfl, hs⟩
    · rw [if_neg hvn]
      refine e v hv ⟨i, ?_, y, hy⟩
      rcases Nat.lt_or_ge i k with h1 | h1
      · exact h1
      · have : i = k := by omega
        subst this
        rw [hD] at hy
        cases hy
        exact absurd rfl hvn
theorem any3 {n a b c : Int} {t u v : Tok} : [Value.int a t, .int b u, .int c v].any (isInt n) = decide (n = a ∨ n = b ∨ n = c) := by
  show (a == n || (b == n || (c == n || false))) = _
  rw [Bool.or_false, Bool.eq_iff_iff]
  simp only [Bool.or_eq_true, beq_iff_eq, decide_eq_true_eq]
  constructor
  · rintro (h | h | h)
    · exact .inl h.symm
    · exact .inr (.inl h.symm)
    · exact .inr (.inr h.symm)
  · rintro (h | h | h)
    · exact .inl h.symm
    · exact .inr (.inl h.symm)
    · exact .inr (.inr h.symm)
end
local macro_rules | `(tactic| walk_at "compareOp In int ref") => `(tactic| refine Hold.mk ?_)
section
variable {prog : Program} {w : World} {loose : List Str} {mean : ExcName → Option Value} {mg mb : Str → Option Value} {dp un : Nat} {gd : Option (List Code)} {cn : Str} {cs : Scope} {a : Addr} {ccd : Value} {cl : List (Str × Addr)} {outer : List Env} {A₀ : Around} {base h₀ : Heap} {L : Addr} {m : Str → Option Value} {news : List (Addr × Obj)} {s : Shared} {Q E : Value → Shared → Prop}
local macro_rules | `(tactic| walk_at "subscriptTail") => `(tactic| (k_here; (with_reducible show wpAny _ _ (subscriptTail _ _ (Value.ref 92) _) _ _ _); refine Hold.mk ?_))
local macro_rules | `(tactic| walk_at "setItem ref int") => `(tactic| refine Hold.mk ?_)
theorem tab_item {K : Type} [DecidableEq K] {knd : KeyKind prog w K} {A : Around} {d : Addr} {kvs : List (K × Value)} {k : K} {key v : Value} {value slice : PySem.Expr} (F : Fr h₀ L s.heap m) (hdo : h₀.DictOf knd d kvs) (hkey : knd.is k key = true) (hva : valueAt kvs k = some v) (h : Q v { s with toks := s.toks + 1 })
    (hs : subscripted slice false (.ref d) key = operate [.ref d, key] (getItem (.ref d) key) := by with_unfolding_all rfl) (hg : ∀ r, letTemporaryGo value (.ref d) r = pure () := by intro _; with_unfolding_all rfl) :
    wpAny (model prog w) A (subscriptTail value slice (.ref d) key) Q E s :=
  have hD : s.heap.DictOf knd d kvs := let ⟨o, es, ep, ho, r⟩ := hdo; ⟨o, es, ep, F.keep _ _ ho, r⟩
  subscriptTail_builtin hD.typeIs slot_dict_getitem.lookup (wpAny_getItem_of hkey hD.mapOf hva h) hs hg
noncomputable def seenFin (n0 n1 n2 op : Int) (kvs : List (Int × Value)) : Prop :=
  (∃ t, valueAt kvs n0 = some (.str (Str.ofString "\")\"") t)) ∧ (∃ t, valueAt kvs n1 = some (.str (Str.ofString "\\(") t)) ∧ (∃ t, valueAt kvs n2 = some (.str (Str.ofString "\\\"") t)) ∧
    ∀ v, (v = 7 ∨ v = 8 ∨ v = op) → ∃ x t, valueAt kvs v = some (.str x t) ∧ signOk v x
theorem seen0 {D : List (PyData × PyData)} {n0 n1 n2 op : Int} {u0 u1 u2 : Tok} (h01 : n0 ≠ n1) (h02 : n0 ≠ n2) (h12 : n1 ≠ n2) : seenOk D n0 n1 n2 op 0 ((n0, .str (Str.ofString "\")\"") u0) :: (n1, .str (Str.ofString "\\(") u1) :: (n2, .str (Str.ofString "\\\"") u2) :: []) := by
  refine ⟨⟨u0, ?_⟩, ⟨u1, ?_⟩, ⟨u2, ?_⟩, Nat.le_refl _, fun v _ ⟨i, hi, _⟩ => absurd hi (Nat.not_lt_zero _)⟩
  · rw [va_cons, if_pos rfl]
  · rw [va_cons, if_neg h01, va_cons, if_pos rfl]
  · rw [va_cons, if_neg h02, va_cons, if_neg h12, va_cons, if_pos rfl]
theorem seen_spec {K : Addr} {kv : List Value} {n0 n1 n2 op : Int} {t : Tok} {nk : Nat}
   (B : Below A₀ base outer h₀) (F : Fr h₀ L s.heap m) (X : (hd.heap_1 w.params).In h₀) (N : News h₀ L s.heap news)
   (T : Top topProg loose mean mg mb h₀) (hk : cs.kind = .function)  (hdp : dp + 40 < recursionLimit) (hun : un + 400 < cLine)
   (hK : (K, W.listOf kv.toArray nk) ∈ news) (hkv : IntsAre kv [n0, n1, n2]) (hn0 : 256 ≤ n0) (h01 : n0 ≠ n1) (h02 : n0 ≠ n2) (h12 : n1 ≠ n2) (hn1 : 256 ≤ n1) (hn2 : 256 ≤ n2) (ho1 : 7 ≤ op) (ho2 : op ≤ 54)
   (ret : ∀ h' tk' d od kvs, Fr h₀ L h' m → News h₀ L h' ((d, od) :: news) → (∀ p ∈ news, p.1 < d) → od.IsDictOf (PySem.intKind prog w) kvs → seenFin n0 n1 n2 op kvs → Q (.ref d) { s with heap := h', toks := tk' }) :
   wpAny (model prog w) (ktrTop dp un gd cn cs L a ccd cl outer) (call (.ref 153) [.ref K, .int op t]) Q E s := by
  obtain ⟨t0, t1, t2, rfl⟩ := ints3 hkv
  refine wpAny_call ?_
  k_dflt cell_enter
  refine gen_Q fun Pz pz => ?_
  k_steps
  rename Fr _ _ _ _ => F1
  rename News _ _ _ _ => N1
  k_dflt (refine kdn_eval (knd := PySem.intKind _ _) F1 N1 (Top.nolimit (by k_asm)) (by rfl) (by rfl) (List.cons_ne_nil _ _) (Nat.le_of_ble_eq_true rfl) ?_)
  intro d1 h1 o1 F2 N2 hl1 lo1 hd1
  k_steps
  rename Fr _ _ _ _ => F3
  rename News _ _ _ _ => N3
  refine kdn_made_int F3 N3 (UpdF.head fun p hp => Nat.ne_of_lt (hl1 p hp)) hd1 rfl ?nd ?_
  case nd =>
    show [n0, n1, n2].Nodup
    simp [h01, h02, h12]
  intro h3 o3 F4 N4 hd3
  k_steps
  refine Hold.out ?_
  try dsimp only
  refine gen_toks fun tkh => ?_
  refine wpAny_mono (E := fun _ _ => False) (wpAny_For ?_ (by intro _; rfl)) (fun _ _ x => x) fun _ _ x => x.elim
  k_steps
  kt_k
  clear kt9
  obtain ⟨D, hDok, T9⟩ : ∃ D, tabOkB D = true ∧ StrTab prog w _ 92 D := ⟨_, by decide +kernel, ktt9⟩
  clear ktt9
  obtain ⟨lo9, kvs0, hdo, hfp⟩ := T9
  rename Fr _ _ _ _ => F5
  rename News _ _ _ _ => N5
  obtain ⟨ep, hat⟩ := hdo.dictAt
  have hat5 := hat.keep F5.keep
  have h92 := hat5.lt_size
  have hLs := L_lt F5
  have hL92 := hat.lt_size
  refine wpAny_pyIter_dict lo9 hat5 ?_
  refine for_name (news := (d1, o3) :: news) (Walks.dictKeys (knd := PySem.strKind _ _) rfl _ 92 (Nat.ne_of_lt h92) kvs0 ep) rfl rfl ?hLf ?hwr ?hnw ⟨⟨_, Heap.get?_push_size _ rfl, rfl, rfl⟩, hat5.push _⟩ (F5.push _) (N5.grown (fun b o e => Heap.get?_push_of_some _ e))
    (fun k m' news' => ∃ od kvs, m' (Str.ofString "seen") = some (.ref d1) ∧ m' (Str.ofString "operator") = some (.int op t) ∧ news' = (d1, od) :: news ∧ od.IsDictOf (PySem.intKind prog w) kvs ∧ seenOk D n0 n1 n2 op k kvs) ⟨_, _, rfl, rfl, rfl, hd3, ?h0⟩ ?hJw ?hex ?turn ?done
  case hLf =>
    intro h
    simp only [List.mem_cons, List.not_mem_nil, or_false] at h
    rcases h with h | h
    · exact absurd hLs (Nat.not_lt.mpr (Nat.le_of_eq (Eq.symm h)))
    · exact absurd hL92 (Nat.not_lt.mpr (Nat.le_trans F5.above (Nat.le_of_eq h)))
  case hwr =>
    intro b hb
    rw [List.mem_singleton.mp hb]
    exact no_old F5 (Nat.le_of_lt hLs)
  case hnw =>
    intro p hp h
    have := Heap.lt_size (N5 p hp).1
    rw [List.mem_singleton.mp h] at this
    exact absurd this (Nat.lt_irrefl _)
  case hJw =>
    rintro k m' news' ⟨od, kvs, _, _, rfl, _⟩ p hp h
    have := news_lt1 N5 p hp
    rw [List.mem_singleton.mp h] at this
    exact absurd this (Nat.lt_irrefl _)
  case hex =>
    rintro k h ⟨⟨o, ho, _⟩, _⟩ b hb
    rw [List.mem_singleton.mp hb]
    exact ⟨o, ho⟩
  case h0 =>
    exact seen0 h01 h02 h12
  case done =>
    rintro m' news' h tk ⟨od, kvs, hm1, hm2, rfl, hod, hso⟩ F6 N6
    rw [loc2 hm1 hm2 (fun y _ _ => rfl)] at F6
    k_steps
    refine pz _ _ ?_
    k_steps
    rename Fr h₀ L _ _ => F9
    rename News h₀ L _ _ => N9
    have hkl : kvs0.length = 48 := by
      have h1 := hfp.length
      have h2 : D.length = 48 := by
        unfold tabOkB at hDok
        rw [Bool.and_eq_true, Bool.and_eq_true] at hDok
        simpa using hDok.1.2
      omega
    obtain ⟨q1, q2, q3, _, q5⟩ := hso
    refine ret _ _ _ _ _ F9 N9 hl1 hod ⟨q1, q2, q3, fun v hv => ?_⟩
    obtain ⟨i, hi, e, he⟩ := tabOk_has hDok (n := v) (by omega) (by omega)
    exact q5 v hv ⟨i, by omega, e, he⟩
  case turn =>
    rintro k v m' news' own h tk hk9 ⟨key, x, hkx, hkey⟩ ⟨od, kvs, hm1, hm2, rfl, hod, hso⟩ hown hexx F6 N6
    refine gen_Q fun Pf qf => ?_
    obtain ⟨dv, hDk, hfl⟩ := hfp.at hkx
    obtain ⟨n, rfl, hsig⟩ := rowOk_at hDok hDk
    obtain ⟨tx, rfl⟩ := hfl.int_inv
    obtain ⟨tv, rfl⟩ := Value.isStrOf_shape hkey
    have hva : valueAt kvs0 key = some (.int n tx) := by
      obtain ⟨_, _, _, _, _, _, _, _, hnd⟩ := hdo
      exact valueAt_of_get hnd hkx
    rw [loc2 hm1 hm2 (fun y _ _ => rfl)] at F6
    obtain ⟨N7, hU⟩ := upd_first N6 (by first | k_all | done) (fun p hp => by
      have h1 := hown p hp
      simp only [List.mem_cons, List.not_mem_nil, or_false] at h1
      rcases h1 with h1 | h1 <;> rw [h1]
      · exact Ne.symm (Nat.ne_of_lt (Heap.lt_size (N5 _ (.head _)).1))
      · intro e
        obtain ⟨_, _, _, hg, _⟩ := hdo
        have := (N5 _ (.head _)).2.2
        rw [← e, hg] at this
        cases this)
    clear N6
    by_cases hin : n = 7 ∨ n = 8 ∨ n = op
    · k_steps
      refine Hold.out ?_
      try dsimp only
      refine gen_toks fun tkh => ?_
      rename Fr _ _ _ _ => F8
      refine tab_item F8 hdo hkey hva ?_
      k_steps
      refine Hold.out ?_
      try dsimp only
      refine gen_toks fun tkh => ?_
      rename Fr _ _ _ _ => F10
      rename News _ _ _ _ => N10
      refine kf_in N10 (.head _) rfl (any3.trans (decide_eq_true hin)) ?_
      k_steps
      refine Hold.out ?_
      try dsimp only
      refine gen_toks fun tkh => ?_
      rename Fr _ _ _ _ => F11
      refine tab_item F11 hdo hkey hva ?_
      k_steps
      refine Hold.out ?_
      try dsimp only
      refine gen_toks fun tkh => ?_
      rename Fr _ _ _ _ => F12
      rename News _ _ _ _ => N12
      have hsl : kvs.length ≤ sizeLine := by
        have h1 := hso.2.2.2.1
        have h2 := hfp.length
        have h3 : D.length = 48 := by
          unfold tabOkB at hDok
          rw [Bool.and_eq_true, Bool.and_eq_true] at hDok
          simpa using hDok.1.2
        rw [sizeLine_eq]; omega
      rename _ ∧ _ => l12
      refine kda_set (knd := PySem.intKind _ _) F12 N12 (UpdF.tail (Ne.symm (Nat.ne_of_lt l12.1)) hU) hod (intKind_is _ _ _ _) hsl ?_
      intro h13 o13 F13 N13 hd13
      k_steps
      rename Fr _ _ _ _ => F14
      rename News _ _ _ _ => N14
      exact qf _ _ (LEnd.mkS ((d1, o13) :: news) F14 N14 (fun p hp => .tail _ (by rcases List.mem_cons.mp hp with h | h; exact h ▸ .head _; exact .tail _ (List.mem_append_left _ h))) (fun p hp => .tail _ (.tail _ (List.mem_append_right _ hp))) ⟨_, _, rfl, rfl, rfl, hd13, seenOk_put hn0 hn1 hn2 ho2 hso hDk hsig hin⟩)
    · k_steps
      refine Hold.out ?_
      try dsimp only
      refine gen_toks fun tkh => ?_
      rename Fr _ _ _ _ => F8
      refine tab_item F8 hdo hkey hva ?_
      k_steps
      refine Hold.out ?_
      try dsimp only
      refine gen_toks fun tkh => ?_
      rename Fr _ _ _ _ => F10
      rename News _ _ _ _ => N10
      refine kf_in N10 (.head _) rfl (any3.trans (decide_eq_false hin)) ?_
      k_steps
      rename Fr _ _ _ _ => F12
      rename News _ _ _ _ => N12
      exact qf _ _ (LEnd.mkS ((d1, od) :: news) F12 N12 (fun p hp => .tail _ (by rcases List.mem_cons.mp hp with h | h; exact h ▸ .head _; exact .tail _ (List.mem_append_left _ h))) (fun p hp => .tail _ (.tail _ (List.mem_append_right _ hp))) ⟨_, _, rfl, rfl, rfl, hod, seenOk_skip hso hDk hin⟩)
end
section
open PySem PySem.W PyProof.Rows PySem.Calls PySem.Spec
/-! the written text is read as one word -/
noncomputable def esq (c : Nat) : List Nat := if c = 92 then [92, 92] else if c = 34 then [92, 34] else [c]
noncomputable def esb (c : Nat) : List Nat := if c = 92 ∨ c = 34 ∨ isWhite c then [92, c] else [c]
theorem rep_flatMap (c : Nat) (z : List Nat) (f : Nat → List Nat) (l : List Nat) : rep c z (l.flatMap f) = l.flatMap fun d => rep c z (f d) := by
  unfold rep; rw [List.flatMap_assoc]
theorem shown_esq (x : List Nat) : rep 34 [92, 34] (rep 92 [92, 92] x) = x.flatMap esq := by
  show rep 34 [92, 34] (x.flatMap _) = _
  rw [rep_flatMap]
  congr 1; funext d
  by_cases h : d = 92
  · subst h; decide
  · rw [if_neg h]
    unfold esq; rw [if_neg h]
    simp [rep]
theorem shw_esb (x : List Nat) : shw 4 (x.flatMap esq) = x.flatMap esb := by
  show rep 32 [92, 32] (rep 13 [92, 13] (rep 9 [92, 9] (rep 10 [92, 10] (x.flatMap esq)))) = _
  rw [rep_flatMap, rep_flatMap, rep_flatMap, rep_flatMap]
  congr 1; funext d
  unfold esq esb
  by_cases h : d = 92
  · subst h; decide
  by_cases h2 : d = 34
  · subst h2; decide
  by_cases h3 : isWhite d
  · simp only [isWhite, Bool.or_eq_true, beq_iff_eq] at h3
    rcases h3 with h3 | h3 | h3 | h3 <;> subst h3 <;> decide
  · have h3' := h3
    simp only [isWhite, Bool.or_eq_true, beq_iff_eq, not_or] at h3'
    simp [h, h2, h3, rep, h3'.1, h3'.2.1, h3'.2.2.1, h3'.2.2.2]
theorem qrun_esq : ∀ (x acc : List Nat), qrun acc (x.flatMap esq ++ [34]) = some (acc ++ x, [])
  | [], acc => by simp [qrun]
  | c :: r, acc => by
    have ih := qrun_esq r (acc ++ [c])
    rw [List.flatMap_cons]
    rw [List.append_assoc] at ih
    by_cases h : c = 92
    · subst h; show qrun (acc ++ [92]) (r.flatMap esq ++ [34]) = _; exact ih
    by_cases h2 : c = 34
    · subst h2; show qrun (acc ++ [34]) (r.flatMap esq ++ [34]) = _; exact ih
    have e : esq c = [c] := by unfold esq; rw [if_neg h, if_neg h2]
    rw [e]
    show qrun acc (c :: (r.flatMap esq ++ [34])) = _
    rw [qrun.eq_def]
    dsimp only
    rw [if_neg h2, if_neg h]
    exact ih
theorem brun_esb : ∀ (x acc : List Nat), brun acc (x.flatMap esb) = some (acc ++ x)
  | [], acc => by simp [brun]
  | c :: r, acc => by
    have ih := brun_esb r (acc ++ [c])
    rw [List.flatMap_cons]
    rw [List.append_assoc] at ih
    by_cases h : c = 92 ∨ c = 34 ∨ isWhite c
    · have e : esb c = [92, c] := by unfold esb; rw [if_pos h]
      rw [e]
      show (if isWhite 92 then none else if 92 = 92 then brun (acc ++ [c]) (r.flatMap esb) else _) = _
      rw [if_neg (by decide), if_pos rfl]
      exact ih
    · have e : esb c = [c] := by unfold esb; rw [if_neg h]
      rw [e]
      simp only [not_or] at h
      show brun acc (c :: r.flatMap esb) = _
      rw [brun.eq_def]
      dsimp only
      rw [if_neg h.2.2, if_neg h.1]
      exact ih
theorem tok_quoted (x : List Nat) : tokAt (34 :: rep 34 [92, 34] (rep 92 [92, 92] x) ++ [34]) 0 x := by
  refine .inr (.inl ⟨rfl, ?_⟩)
  rw [shown_esq]
  exact qrun_esq x []
theorem tok_bare (x : List Nat) (hx : x ≠ []) : tokAt (shw 4 (rep 34 [92, 34] (rep 92 [92, 92] x))) 0 x := by
  rw [shown_esq, shw_esb]
  refine .inr (.inr ?_)
  cases x with
  | nil => exact absurd rfl hx
  | cons c r =>
    by_cases h : c = 92 ∨ c = 34 ∨ isWhite c
    · have e : esb c = [92, c] := by unfold esb; rw [if_pos h]
      refine ⟨92, ?_, by decide, brun_esb _ []⟩
      rw [List.flatMap_cons, e]; rfl
    · have e : esb c = [c] := by unfold esb; rw [if_neg h]
      simp only [not_or] at h
      refine ⟨c, ?_, h.2.1, brun_esb _ []⟩
      rw [List.flatMap_cons, e]; rfl
/-! numbers spelled and read -/
theorem signC_mod {bits o : Int} {k : Nat} (h0 : 0 ≤ o) : (signC bits k o : Int) % 64 = o % 64 ∧ (signC bits k o : Int) / 64 % 2 = o / 64 % 2 ∧ 0 ≤ (signC bits k o : Int) := by
  unfold signC
  split
  · rw [Int.toNat_of_nonneg (Int.add_nonneg h0 (by decide))]
    refine ⟨Int.add_mul_emod_self_left o 64 2, ?_, Int.add_nonneg h0 (by decide)⟩
    rw [show o + 128 = o + 64 * 2 from rfl, Int.add_mul_ediv_left o 2 (by decide)]
    exact Int.add_mul_emod_self_left (o / 64) 2 1
  · rw [Int.toNat_of_nonneg h0]
    exact ⟨rfl, rfl, h0⟩
theorem sgn0 {bits y : Int} {k : Nat} (h0 : 0 ≤ y) (h1 : y < 64) : (signC bits k y : Int) % 64 = y ∧ (signC bits k y : Int) / 64 % 2 = 0 ∧ 0 ≤ (signC bits k y : Int) := by
  have a := signC_mod (bits := bits) (k := k) h0
  rw [Int.emod_eq_of_lt h0 h1, Int.ediv_eq_zero_of_lt h0 h1] at a
  exact a
theorem sgn1 {bits y : Int} {k : Nat} (h0 : 0 ≤ y) (h1 : y < 64) : (signC bits k (y + 64) : Int) % 64 = y ∧ (signC bits k (y + 64) : Int) / 64 % 2 = 1 ∧ 0 ≤ (signC bits k (y + 64) : Int) := by
  have a := signC_mod (bits := bits) (k := k) (Int.add_nonneg h0 (show (0 : Int) ≤ 64 by decide))
  have e1 : (y + 64) % 64 = y := (Int.add_mul_emod_self_left y 64 1).trans (Int.emod_eq_of_lt h0 h1)
  have e2 : (y + 64) / 64 = 1 := (Int.add_mul_ediv_left y 1 (show (64 : Int) ≠ 0 by decide)).trans (by rw [Int.ediv_eq_zero_of_lt h0 h1]; rfl)
  rw [e1, e2] at a
  exact a
theorem signC_39 {bits o : Int} {k : Nat} (h0 : 0 ≤ o) : signC bits k o ≠ 39 := by
  unfold signC
  split
  · omega
  · next h => simp only [not_or] at h; omega
theorem signsF_39 {bits : Int} : ∀ (l : List Int) (k : Nat), (∀ o ∈ l, 0 ≤ o) → 39 ∉ signsF bits k l
  | [], _, _ => by simp [signsF]
  | o :: r, k, h => by
    rw [List.forall_mem_cons] at h
    show 39 ∉ signC bits k o :: signsF bits (k + 1) r
    rw [List.mem_cons, not_or]
    exact ⟨Ne.symm (signC_39 h.1), signsF_39 r _ h.2⟩
theorem signsF_len {bits : Int} : ∀ (l : List Int) (k : Nat), (signsF bits k l).length = l.length
  | [], _ => rfl
  | _ :: r, k => congrArg (· + 1) (signsF_len r (k + 1))
theorem signsF_app {bits : Int} : ∀ (l r : List Int) (k : Nat), signsF bits k (l ++ r) = signsF bits k l ++ signsF bits (k + l.length) r
  | [], _, _ => rfl
  | o :: l, r, k => by
    show signC bits k o :: signsF bits (k + 1) (l ++ r) = signC bits k o :: (signsF bits (k + 1) l ++ signsF bits (k + (l.length + 1)) r)
    rw [signsF_app l r (k + 1), Nat.add_right_comm k 1, Nat.add_assoc]
/-- the octets of a number -/
theorem dg {x : Int} (h0 : 0 ≤ x) {n : Int} (h1 : x < n * 64) : 0 ≤ x / 64 ∧ x / 64 < n := ⟨Int.ediv_nonneg h0 (by decide), Int.ediv_lt_of_lt_mul (by decide) h1⟩
theorem dm (x : Int) : 0 ≤ x % 64 ∧ x % 64 < 64 := ⟨Int.emod_nonneg x (by decide), Int.emod_lt_of_pos x (by decide)⟩
theorem figs_cases {x : Int} (h0 : 0 ≤ x) (h1 : x < 262144) : (x < 64 ∧ figs x = [x]) ∨ (64 ≤ x ∧ x < 4096 ∧ figs x = [x / 64 + 64, x % 64]) ∨ (4096 ≤ x ∧ figs x = [x / 4096 + 64, x / 64 % 64 + 64, x % 64]) := by
  have e1 : ∀ y : Int, Int.fdiv y 64 = y / 64 := fun y => Int.fdiv_eq_ediv_of_nonneg _ (by decide)
  have e2 : ∀ y : Int, Int.fmod y 64 = y % 64 := fun y => Int.fmod_eq_emod_of_nonneg _ (by decide)
  unfold figs
  simp only [loopF, e1, e2]
  rcases Int.lt_or_le x 64 with h | h
  · left
    rw [if_neg (show ¬ x > 63 from Int.not_le.mpr h)]
    exact ⟨h, by rw [Int.emod_eq_of_lt h0 h]⟩
  · right
    rw [if_pos (show x > 63 from h)]
    rcases Int.lt_or_le x 4096 with h2 | h2
    · left
      have h4 := dg (n := 64) h0 h2
      rw [if_neg (show ¬ x / 64 > 63 from Int.not_le.mpr h4.2)]
      exact ⟨h, h2, by rw [Int.emod_eq_of_lt h4.1 h4.2]⟩
    · right
      have h4 := dg (n := 4096) h0 h1
      have h3 := dg (n := 64) h4.1 h4.2
      rw [if_pos (show x / 64 > 63 from Int.le_ediv_of_mul_le (a := 64) (by decide) h2), if_neg (show ¬ x / 64 / 64 > 63 from Int.not_le.mpr h3.2)]
      refine ⟨h2, ?_⟩
      rw [Int.emod_eq_of_lt h3.1 h3.2, Int.ediv_ediv_of_nonneg (by decide)]
      rfl
/-- what parse_spec asks of the signs of one number that begin at place i -/
theorem figs_vrun {bits x : Int} (h0 : 0 ≤ x) (h1 : x < 262144) (i : Nat) : ∃ b0 cs, (signsF bits i (figs x)).map (fun n : Nat => (n : Int)) = b0 :: cs ∧ 0 ≤ b0 ∧ cs.length ≤ 4 ∧ vrun b0 (b0 % 64) cs = some (x, cs.length) ∧ (∀ c ∈ cs, 0 ≤ c) ∧ cs.length + 1 = (figs x).length := by
  have d := dm x
  rcases figs_cases h0 h1 with ⟨h, e⟩ | ⟨h, h2, e⟩ | ⟨h, e⟩ <;> rw [e]
  · have a := sgn0 (bits := bits) (k := i) h0 h
    refine ⟨_, [], rfl, a.2.2, Nat.zero_le _, ?_, List.forall_mem_nil _, rfl⟩
    rw [vrun, if_pos a.2.1, a.1]; rfl
  · have q := dg (n := 64) h0 h2
    have a := sgn1 (bits := bits) (k := i) q.1 q.2
    have b := sgn0 (bits := bits) (k := i + 1) d.1 d.2
    refine ⟨_, [(signC bits (i + 1) (x % 64) : Int)], rfl, a.2.2, Nat.le_of_ble_eq_true rfl, ?_, List.forall_mem_cons.mpr ⟨b.2.2, List.forall_mem_nil _⟩, rfl⟩
    rw [vrun, a.2.1, if_neg (by decide), vrun, if_pos b.2.1, a.1, b.1, Int.mul_comm, Int.mul_ediv_add_emod]; rfl
  · have q0 := dg (n := 4096) h0 h1
    have q := dg (n := 64) q0.1 q0.2
    have m := dm (x / 64)
    have e3 : x / 4096 = x / 64 / 64 := (Int.ediv_ediv_of_nonneg (x := x) (z := 64) (show (0 : Int) ≤ 64 by decide)).symm
    rw [e3]
    have a := sgn1 (bits := bits) (k := i) q.1 q.2
    have b := sgn1 (bits := bits) (k := i + 1) m.1 m.2
    have c := sgn0 (bits := bits) (k := i + 1 + 1) d.1 d.2
    refine ⟨_, [(signC bits (i + 1) (x / 64 % 64 + 64) : Int), (signC bits (i + 1 + 1) (x % 64) : Int)], rfl, a.2.2, Nat.le_of_ble_eq_true rfl, ?_, List.forall_mem_cons.mpr ⟨b.2.2, List.forall_mem_cons.mpr ⟨c.2.2, List.forall_mem_nil _⟩⟩, rfl⟩
    rw [vrun, a.2.1, if_neg (by decide), vrun, b.2.1, if_neg (by decide), vrun, if_pos c.2.1, a.1, b.1, c.1, Int.mul_comm (x / 64 / 64), Int.mul_ediv_add_emod, Int.mul_comm (x / 64), Int.mul_ediv_add_emod]; rfl
end
section
open PySem PySem.W PyProof.Rows PySem.Calls PySem.Spec
/-! brackets -/
noncomputable def okT (t : List Nat) : Prop := t = [34, 41, 34] ∨ (∃ c, t = [92, c]) ∨ (∃ c, t = [c] ∧ c ≠ 34 ∧ c ≠ 92)
noncomputable def escT : Nat → List (List Nat) → List (Nat × List Nat)
  | _, [] => []
  | i, t :: r => if t = [34, 41, 34] then (i, [34]) :: (i + 1, [41]) :: (i + 2, [34]) :: escT (i + 3) r else (i + t.length - 1, t) :: escT (i + t.length) r
theorem escs_toks : ∀ (ts : List (List Nat)) (i : Nat), (∀ t ∈ ts, okT t) → escs i false ts.flatten = escT i ts
  | [], _, _ => rfl
  | t :: r, i, h => by
    rw [List.forall_mem_cons] at h
    have ih := fun j => escs_toks r j h.2
    rcases h.1 with rfl | ⟨c, rfl⟩ | ⟨c, rfl, h1, h2⟩
    · show (i, [34]) :: (i + 1, [41]) :: (i + 2, [34]) :: escs (i + 3) false r.flatten = _
      rw [ih]; rfl
    · have e : ¬ ([92, c] : List Nat) = [34, 41, 34] := by simp
      show (i + 1, [92, c]) :: escs (i + 2) false r.flatten = if _ then _ else _
      rw [if_neg e, ih]; rfl
    · have e : ¬ ([c] : List Nat) = [34, 41, 34] := by simp
      show escs i false (c :: r.flatten) = if _ then _ else _
      rw [if_neg e]
      show (if c = 92 then _ else (i, [c]) :: escs (i + 1) false r.flatten) = _
      rw [if_neg h2, ih]; rfl
theorem strip_toks {T : List Nat} : ∀ (ts : List (List Nat)) (pre : List Nat) (start : Nat) (res : List (List Nat)), (∀ t ∈ ts, okT t) → T = pre ++ ts.flatten → start ≤ pre.length →
    (stripY T (escT pre.length ts) start none res).2.flatten ++ T.drop (stripY T (escT pre.length ts) start none res).1 = res.flatten ++ pre.drop start ++ (ts.filter (· ≠ [34, 41, 34])).flatten
  | [], pre, start, res, _, e, hs => by
    subst e
    show res.flatten ++ (pre ++ []).drop start = _
    simp
  | t :: r, pre, start, res, h, e, hs => by
    rw [List.forall_mem_cons] at h
    by_cases hq : t = [34, 41, 34]
    · subst hq
      have ih := strip_toks r (pre ++ [34, 41, 34]) (pre.length + 3) (if start = pre.length then res else res ++ [(T.drop start).take (pre.length - start)]) h.2 (e.trans (by simp)) (by simp)
      have e1 : stripY T (escT pre.length ([34, 41, 34] :: r)) start none res = stripY T (escT (pre ++ [34, 41, 34]).length r) (pre.length + 3) none (if start = pre.length then res else res ++ [(T.drop start).take (pre.length - start)]) := by
        rw [List.length_append]; rfl
      rw [e1, ih]
      have e2 : (pre ++ [34, 41, 34]).drop (pre.length + 3) = [] := by apply List.drop_of_length_le; simp
      have e3 : ([34, 41, 34] :: r).filter (· ≠ [34, 41, 34]) = r.filter (· ≠ [34, 41, 34]) := by rw [List.filter_cons_of_neg]; simp
      rw [e2, e3, List.append_nil]
      split
      · next hsp => rw [hsp, List.drop_length, List.append_nil]
      · have e4 : (T.drop start).take (pre.length - start) = pre.drop start := by
          rw [e, List.drop_append_of_le_length hs, List.take_append_of_le_length (by simp), List.take_of_length_le (by simp)]
        rw [e4]; simp
    · have ih := strip_toks r (pre ++ t) start res h.2 (e.trans (by simp)) (by rw [List.length_append]; omega)
      have hne : ¬ t = [34] := by
        rcases h.1 with h1 | ⟨c, h1⟩ | ⟨c, h1, h2, h3⟩
        · exact absurd h1 hq
        · rw [h1]; simp
        · rw [h1]; simpa using h2
      have e1 : stripY T (escT pre.length (t :: r)) start none res = stripY T (escT (pre ++ t).length r) start none res := by
        show stripY T (if t = [34, 41, 34] then _ else _) start none res = _
        rw [if_neg hq, List.length_append]
        show (if t = [34] then _ else _) = _
        rw [if_neg hne]
      rw [e1, ih, List.drop_append_of_le_length hs, List.filter_cons_of_pos (by simpa using hq)]
      simp
theorem stripS_toks (ts : List (List Nat)) (h : ∀ t ∈ ts, okT t) : stripS ts.flatten = (ts.filter (· ≠ [34, 41, 34])).flatten := by
  unfold stripS
  split
  · rw [escs_toks ts 0 h]
    exact strip_toks ts [] 0 [] h rfl (Nat.zero_le _)
  · next hn =>
    rw [List.filter_eq_self.mpr]
    intro t ht
    simp only [ne_eq, decide_not, Bool.not_eq_eq_eq_not, Bool.not_true, decide_eq_false_iff_not]
    intro e
    subst e
    exact hn (List.mem_flatten.mpr ⟨_, ht, by simp⟩)
noncomputable def dlt (t : List Nat) : Int := if t = [40] then 1 else if t = [41] then -1 else 0
noncomputable def lo : List Int → Int
  | [] => 0
  | d :: r => min 0 (d + lo r)
theorem lo_le : ∀ l : List Int, lo l ≤ 0
  | [] => Int.le_refl _
  | _ :: _ => Int.min_le_left ..
theorem lo_sum : ∀ l : List Int, lo l ≤ l.sum
  | [] => Int.le_refl _
  | d :: r => by rw [List.sum_cons]; exact Int.le_trans (Int.min_le_right ..) (Int.add_le_add_left (lo_sum r) d)
theorem lo_app : ∀ a b : List Int, lo (a ++ b) = min (lo a) (a.sum + lo b)
  | [], b => by show lo b = min 0 (0 + lo b); rw [Int.zero_add, Int.min_eq_right (lo_le b)]
  | d :: r, b => by
    show min 0 (d + lo (r ++ b)) = min (min 0 (d + lo r)) _
    rw [List.sum_cons, lo_app r b, Int.min_assoc, Int.add_assoc, Int.min_add_left]
theorem ge_min {a b o s : Int} (ho : 0 ≤ o) : (0 ≤ o + a + b ∧ o + a + s = 0) ↔ (0 ≤ o + min 0 (a + b) ∧ o + (a + s) = 0) := by
  rw [← Int.min_add_left, Int.le_min, Int.add_zero, Int.add_assoc, Int.add_assoc]
  exact ⟨fun x => ⟨⟨ho, x.1⟩, x.2⟩, fun x => ⟨x.1.2, x.2⟩⟩
theorem chk_toks : ∀ (ts : List (List Nat)) (i : Nat) (o : Int), (∀ t ∈ ts, t ≠ [34, 41, 34]) → 0 ≤ o → chkY o (escT i ts) = decide (0 ≤ o + lo (ts.map dlt) ∧ o + (ts.map dlt).sum = 0)
  | [], i, o, _, ho => by
    show (o == 0) = decide (0 ≤ o + 0 ∧ o + 0 = 0)
    rw [Int.add_zero]
    exact decide_eq_decide.mpr ⟨fun e => ⟨ho, e⟩, And.right⟩
  | t :: r, i, o, h, ho => by
    rw [List.forall_mem_cons] at h
    have hl := lo_le (r.map dlt)
    show chkY o (if t = [34, 41, 34] then _ else _) = decide (0 ≤ o + min 0 (dlt t + lo (r.map dlt)) ∧ o + (dlt t :: r.map dlt).sum = 0)
    rw [if_neg h.1, List.sum_cons]
    show (if t = [40] then _ else if t = [41] then _ else _) = _
    by_cases h1 : t = [40]
    · have hd : dlt t = 1 := by unfold dlt; rw [if_pos h1]
      rw [if_pos h1, chk_toks r _ (o + 1) h.2 (Int.add_nonneg ho (by decide)), hd]
      exact decide_eq_decide.mpr (ge_min ho)
    · rw [if_neg h1]
      by_cases h2 : t = [41]
      · have hd : dlt t = -1 := by unfold dlt; rw [if_neg h1, if_pos h2]
        rw [if_pos h2, hd]
        by_cases h3 : o - 1 < 0
        · rw [if_pos h3]
          exact (decide_eq_false fun x => absurd (Int.le_trans ((ge_min ho).mpr x).1 (Int.add_le_add_left hl _)) (Int.not_le.mpr (by rw [Int.add_zero]; exact h3))).symm
        · rw [if_neg h3, chk_toks r _ (o - 1) h.2 (Int.not_lt.mp h3)]
          exact decide_eq_decide.mpr (ge_min ho)
      · have hd : dlt t = 0 := by unfold dlt; rw [if_neg h1, if_neg h2]
        rw [if_neg h2, hd, chk_toks r _ o h.2 ho, Int.zero_add, Int.zero_add, Int.min_eq_right hl]
theorem check_toks (ts : List (List Nat)) (h : ∀ t ∈ ts, okT t) : chkY 0 (escs 0 false (stripS ts.flatten)) = decide (0 ≤ lo ((ts.filter (· ≠ [34, 41, 34])).map dlt) ∧ ((ts.filter (· ≠ [34, 41, 34])).map dlt).sum = 0) := by
  rw [stripS_toks ts h, escs_toks _ _ (fun t ht => h t (List.mem_filter.mp ht).1), chk_toks _ _ _ (fun t ht => by simpa using (List.mem_filter.mp ht).2) (Int.le_refl _), Int.zero_add, Int.zero_add]
noncomputable def dls (ts : List (List Nat)) : List Int := (ts.filter (· ≠ [34, 41, 34])).map dlt
theorem dls_app (a b : List (List Nat)) : dls (a ++ b) = dls a ++ dls b := by unfold dls; rw [List.filter_append, List.map_append]
theorem dls_rep (c : Nat) (n : Nat) : dls (List.replicate n [c]) = List.replicate n (dlt [c]) := by
  unfold dls
  rw [List.filter_eq_self.mpr (by intro a ha; rw [List.mem_replicate] at ha; rw [ha.2]; simp), List.map_replicate]
theorem lo_ups : ∀ n : Nat, lo (List.replicate n (1 : Int)) = 0
  | 0 => rfl
  | n + 1 => by rw [List.replicate_succ]; show min 0 (1 + lo _) = 0; rw [lo_ups n]; rfl
theorem lo_dns : ∀ n : Nat, lo (List.replicate n (-1 : Int)) = -n
  | 0 => rfl
  | n + 1 => by rw [List.replicate_succ]; show min 0 (-1 + lo _) = _; rw [lo_dns n, ← Int.neg_add, Int.min_eq_right (Int.neg_nonpos_of_nonneg (Int.add_nonneg (by decide) (Int.natCast_nonneg n))), Int.add_comm]; rfl
theorem sum_repl (d : Int) : ∀ n : Nat, (List.replicate n d).sum = n * d
  | 0 => by simp
  | n + 1 => by rw [List.replicate_succ, List.sum_cons, sum_repl d n, show ((n + 1 : Nat) : Int) = (n : Int) + 1 from rfl, Int.add_mul, Int.one_mul, Int.add_comm]
theorem flat_repl (c : Nat) : ∀ n : Nat, (List.replicate n [c]).flatten = List.replicate n c
  | 0 => rfl
  | n + 1 => by rw [List.replicate_succ, List.flatten_cons, flat_repl c n]; rfl
/-- the three asks -/
theorem check_around (ts : List (List Nat)) (h : ∀ t ∈ ts, okT t) (a b : Nat) : chkY 0 (escs 0 false (stripS (List.replicate a 40 ++ ts.flatten ++ List.replicate b 41))) = decide (0 ≤ (a : Int) + lo (dls ts) ∧ (a : Int) + (dls ts).sum = b) := by
  have e : List.replicate a 40 ++ ts.flatten ++ List.replicate b 41 = (List.replicate a [40] ++ ts ++ List.replicate b [41]).flatten := by
    rw [List.flatten_append, List.flatten_append, flat_repl, flat_repl]
  rw [e, check_toks]
  · show decide (0 ≤ lo (dls (List.replicate a [40] ++ ts ++ List.replicate b [41])) ∧ (dls (List.replicate a [40] ++ ts ++ List.replicate b [41])).sum = 0) = _
    rw [dls_app, dls_app, dls_rep, dls_rep]
    have d1 : dlt [40] = 1 := rfl
    have d2 : dlt [41] = -1 := rfl
    rw [d1, d2, lo_app, lo_app, lo_ups, lo_dns]
    simp only [List.sum_append, sum_repl]
    rw [Int.mul_one, Int.mul_neg, Int.mul_one]
    refine decide_eq_decide.mpr ?_
    rw [Int.le_min, Int.le_min]
    refine ⟨fun x => ⟨x.1.1.2, Int.eq_of_sub_eq_zero x.2⟩, fun x => ⟨⟨⟨Int.le_refl 0, x.1⟩, ?_⟩, ?_⟩⟩
    · rw [x.2, Int.add_right_neg]; exact Int.le_refl 0
    · rw [x.2, Int.add_right_neg]
  · intro t ht
    rw [List.mem_append, List.mem_append, List.mem_replicate, List.mem_replicate] at ht
    rcases ht with (⟨_, rfl⟩ | ht) | ⟨_, rfl⟩
    · exact .inr (.inr ⟨_, rfl, by decide, by decide⟩)
    · exact h t ht
    · exact .inr (.inr ⟨_, rfl, by decide, by decide⟩)
end
section
open PySem PySem.W PyProof.Rows PySem.Calls PySem.Spec
/-! the rows by the lexer's rounds are those told from the inside -/
noncomputable def expandL (names : List Int) (rules : List (List Int)) (x : Int) : List Int := if x < 256 then [x] else rules.getD (names.idxOf x) []
noncomputable def roundL (names : List Int) (rules : List (List Int)) (l : List Int) : List Int := l.flatMap (expandL names rules)
noncomputable def rowsL (names : List Int) (rules : List (List Int)) : Nat → List Int → List Int
  | 0, l => l
  | k + 1, l => roundL names rules (rowsL names rules k l)
noncomputable def substL (names : List Int) (own : List (List Int)) (x : Int) : List Int := if x ∈ names then own.getD (names.idxOf x) [] else [x]
noncomputable def ownNext (names : List Int) (rules : List (List Int)) (own : List (List Int)) : List (List Int) := rules.map fun r => r.flatMap (substL names own)
noncomputable def ownL (names : List Int) (rules : List (List Int)) : Nat → List (List Int)
  | 0 => names.map fun n => [n]
  | k + 1 => ownNext names rules (ownL names rules k)
structure NamesOk (names : List Int) (rules : List (List Int)) : Prop where
  len : names.length = rules.length
  nodup : names.Nodup
  big : ∀ n ∈ names, 256 ≤ n
  sym : ∀ r ∈ rules, ∀ x ∈ r, x ∈ names ∨ x < 256
theorem roundL_app (names : List Int) (rules : List (List Int)) (a b : List Int) : roundL names rules (a ++ b) = roundL names rules a ++ roundL names rules b := List.flatMap_append ..
theorem rowsL_app (names : List Int) (rules : List (List Int)) : ∀ (k : Nat) (a b : List Int), rowsL names rules k (a ++ b) = rowsL names rules k a ++ rowsL names rules k b
  | 0, _, _ => rfl
  | k + 1, a, b => by show roundL _ _ (rowsL _ _ k (a ++ b)) = _; rw [rowsL_app names rules k, roundL_app]; rfl
theorem rowsL_nil (names : List Int) (rules : List (List Int)) : ∀ k, rowsL names rules k [] = []
  | 0 => rfl
  | k + 1 => by show roundL _ _ (rowsL _ _ k []) = _; rw [rowsL_nil names rules k]; rfl
theorem rowsL_cons (names : List Int) (rules : List (List Int)) (k : Nat) : ∀ l, rowsL names rules k l = l.flatMap fun x => rowsL names rules k [x]
  | [] => rowsL_nil ..
  | x :: r => by
    have := rowsL_app names rules k [x] r
    rw [List.flatMap_cons, ← rowsL_cons names rules k r, ← this]; rfl
theorem rowsL_in (names : List Int) (rules : List (List Int)) : ∀ (k : Nat) (l : List Int), rowsL names rules (k + 1) l = rowsL names rules k (roundL names rules l)
  | 0, _ => rfl
  | k + 1, l => congrArg (roundL names rules) (rowsL_in names rules k l)
theorem rowsL_term (names : List Int) (rules : List (List Int)) {x : Int} (h : x < 256) : ∀ k, rowsL names rules k [x] = [x]
  | 0 => rfl
  | k + 1 => by
    show roundL _ _ (rowsL _ _ k [x]) = _
    rw [rowsL_term names rules h k]
    show (if x < 256 then [x] else _) ++ [] = _
    rw [if_pos h]; rfl
theorem ownL_eq {names : List Int} {rules : List (List Int)} (z : NamesOk names rules) : ∀ k, ownL names rules k = names.map fun n => rowsL names rules k [n]
  | 0 => rfl
  | k + 1 => by
    show (rules.map fun r => r.flatMap (substL names (ownL names rules k))) = _
    rw [ownL_eq z k]
    have key : ∀ r ∈ rules, r.flatMap (substL names (names.map fun n => rowsL names rules k [n])) = rowsL names rules k r := by
      intro r hr
      rw [rowsL_cons]
      rw [List.flatMap_def, List.flatMap_def]
      congr 1
      apply List.map_congr_left
      intro x hx
      unfold substL
      by_cases hn : x ∈ names
      · rw [if_pos hn]
        have hi := List.idxOf_lt_length_of_mem hn
        rw [List.getD_eq_getElem?_getD, List.getElem?_eq_getElem (by simpa using hi)]
        simp only [List.getElem_map, Option.getD_some, List.getElem_idxOf]
      · rw [if_neg hn, rowsL_term _ _ ((z.sym r hr x hx).resolve_left hn)]
    rw [List.map_congr_left key]
    apply List.ext_getElem
    · simp [z.len]
    · intro i h1 h2
      simp only [List.getElem_map, rowsL_in]
      congr 1
      rw [List.length_map] at h1 h2
      have hge := z.big names[i] (List.getElem_mem _)
      show _ = (if names[i] < 256 then _ else _) ++ []
      rw [if_neg (by omega), List.append_nil, z.nodup.idxOf_getElem, List.getD_eq_getElem?_getD, List.getElem?_eq_getElem h1]
      rfl
theorem own_row {names : List Int} {rules : List (List Int)} (z : NamesOk names rules) (k : Nat) {n : Int} (h : names[0]? = some n) : (ownL names rules k)[0]? = some (rowsL names rules k [n]) := by
  rw [ownL_eq z k, List.getElem?_map, h]; rfl
/-! heights -/
noncomputable def heightL (names : List Int) (hs : List (Int × Int)) (x : Int) : Int × Int := if x ∈ names then hs.getD (names.idxOf x) (0, 0) else if x = 7 then (0, 1) else if x = 8 then (-1, -1) else (0, 0)
noncomputable def joinL (names : List Int) (hs : List (Int × Int)) (r : List Int) : Int × Int := r.foldl (fun p x => (min p.1 (p.2 + (heightL names hs x).1), p.2 + (heightL names hs x).2)) (0, 0)
noncomputable def heightsL (names : List Int) (rules : List (List Int)) : Nat → List (Int × Int)
  | 0 => names.map fun _ => (0, 0)
  | k + 1 => rules.map (joinL names (heightsL names rules k))
noncomputable def hOf (l : List Int) : Int × Int := (lo l, l.sum)
theorem joinL_fold {f : Int → Int × Int} {D : Int → List Int} : ∀ (r : List Int) (acc : List Int), (∀ x ∈ r, f x = hOf (D x)) → r.foldl (fun p x => (min p.1 (p.2 + (f x).1), p.2 + (f x).2)) (hOf acc) = hOf (acc ++ r.flatMap D)
  | [], acc, _ => by rw [List.flatMap_nil, List.append_nil]; rfl
  | x :: r, acc, h => by
    rw [List.forall_mem_cons] at h
    rw [List.foldl_cons, List.flatMap_cons, ← List.append_assoc, ← joinL_fold r (acc ++ D x) h.2]
    congr 1
    rw [h.1]
    unfold hOf
    rw [lo_app, List.sum_append]
theorem heights_eq {names : List Int} {rules : List (List Int)} {D : Int → List Int} (z : NamesOk names rules) (hn : ∀ n ∈ names, hOf (D n) = (0, 0)) (ht : ∀ r ∈ rules, ∀ x ∈ r, x < 256 → hOf (D x) = if x = 7 then (0, 1) else if x = 8 then (-1, -1) else (0, 0)) :
    ∀ k, heightsL names rules k = (ownL names rules k).map fun l => hOf (l.flatMap D)
  | 0 => by
    show (names.map fun _ => ((0 : Int), (0 : Int))) = (names.map fun n => [n]).map _
    rw [List.map_map]
    apply List.map_congr_left
    intro n h
    show _ = hOf (D n ++ [])
    rw [List.append_nil, hn n h]
  | k + 1 => by
    show rules.map _ = (rules.map _).map _
    rw [List.map_map]
    apply List.map_congr_left
    intro r hr
    show joinL _ _ r = hOf ((r.flatMap (substL names (ownL names rules k))).flatMap D)
    rw [List.flatMap_assoc]
    refine (joinL_fold (D := fun x => (substL names (ownL names rules k) x).flatMap D) r [] ?_)
    intro x hx
    unfold heightL substL
    by_cases hm : x ∈ names
    · rw [if_pos hm, if_pos hm, heights_eq z hn ht k]
      have hi := List.idxOf_lt_length_of_mem hm
      have hi2 : names.idxOf x < (ownL names rules k).length := by rw [ownL_eq z k, List.length_map]; exact hi
      rw [List.getD_eq_getElem?_getD, List.getD_eq_getElem?_getD, List.getElem?_map, List.getElem?_eq_getElem hi2]
      rfl
    · have hlt := (z.sym r hr x hx).resolve_left hm
      rw [if_neg hm, if_neg hm, List.flatMap_cons, List.flatMap_nil, List.append_nil, ht r hr x hx hlt]
theorem roundL_len {names : List Int} {rules : List (List Int)} (h : ∀ r ∈ rules, r.length ≤ 3) : ∀ l : List Int, (roundL names rules l).length ≤ 3 * l.length
  | [] => Nat.le_refl _
  | x :: l => by
    have ih := roundL_len (names := names) h l
    have h1 : (expandL names rules x).length ≤ 3 := by
      unfold expandL
      split
      · simp
      · rw [List.getD_eq_getElem?_getD]
        rcases hr : rules[names.idxOf x]? with _ | r
        · simp
        · exact h r (List.mem_of_getElem? hr)
    show (expandL names rules x ++ roundL names rules l).length ≤ _
    rw [List.length_append, List.length_cons]; omega
theorem rowsL_len {names : List Int} {rules : List (List Int)} (h : ∀ r ∈ rules, r.length ≤ 3) (l : List Int) : ∀ k, (rowsL names rules k l).length ≤ 3 ^ k * l.length
  | 0 => by simp [rowsL]
  | k + 1 => by
    have h1 := rowsL_len (names := names) h l k
    have h2 := roundL_len (names := names) h (rowsL names rules k l)
    show (roundL names rules (rowsL names rules k l)).length ≤ _
    rw [Nat.pow_succ, Nat.mul_comm (3 ^ k) 3, Nat.mul_assoc]; omega
theorem rowsL_mem {names : List Int} {rules : List (List Int)} {P : Int → Prop} (h : ∀ r ∈ rules, ∀ x ∈ r, P x) {l : List Int} (hl : ∀ x ∈ l, P x) : ∀ k, ∀ x ∈ rowsL names rules k l, P x
  | 0 => hl
  | k + 1 => by
    intro x hx
    have ih := rowsL_mem (names := names) h hl k
    obtain ⟨y, hy, hxy⟩ := List.mem_flatMap.mp (show x ∈ (rowsL names rules k l).flatMap (expandL names rules) from hx)
    unfold expandL at hxy
    split at hxy
    · rw [List.mem_singleton.mp hxy]; exact ih y hy
    · rw [List.getD_eq_getElem?_getD] at hxy
      rcases hr : rules[names.idxOf y]? with _ | r
      · rw [hr] at hxy; cases hxy
      · rw [hr] at hxy
        exact h r (List.mem_of_getElem? hr) x hxy
end
section
open PySem PySem.W PyProof.Rows PySem.Calls PySem.Spec PySem.Builtin PySem.Builtin.Str
noncomputable def posL (c : Nat) : Nat → List Nat → List Nat
  | _, [] => []
  | i, d :: r => if d = c then i :: posL c (i + 1) r else posL c (i + 1) r
theorem posL_app (c : Nat) : ∀ (a : List Nat) (i : Nat) (r : List Nat), c ∉ a → posL c i (a ++ r) = posL c (i + a.length) r
  | [], _, _, _ => rfl
  | d :: a, i, r, h => by
    rw [List.mem_cons, not_or] at h
    show (if d = c then _ else posL c (i + 1) (a ++ r)) = _
    rw [if_neg (Ne.symm h.1), posL_app c a (i + 1) r h.2, List.length_cons, Nat.add_assoc, Nat.add_comm 1]
theorem occ_run (x : PySem.Str) (c lim : Nat) : ∀ (r : List Nat) (i : Nat) (st : Array Nat × Nat), x.cps.toList.drop i = r → st.2 ≤ i → (forIn (List.range' i (r.length + 1)) st (StrLaws.occBody x ⟨#[c]⟩ x.length lim)).run.1.toList = st.1.toList ++ (posL c i r).take (lim - st.1.size)
  | [], i, st, e, hs => by
    have hn : x.cps.toList[i]? = none := by
      have := congrArg (fun l : List Nat => l[0]?) e
      simpa using this
    have hf : ¬ (((st.1.size < lim ∧ st.2 ≤ i) ∧ i + (⟨#[c]⟩ : PySem.Str).length ≤ x.length) ∧ subAt x ⟨#[c]⟩ i = true) := fun h => by
      have := (StrLaws.subAt_one x c i).mp ⟨h.1.2, h.2⟩
      rw [hn] at this; cases this
    rw [show List.range' i (([] : List Nat).length + 1) = [i] from rfl, List.forIn_cons]
    unfold StrLaws.occBody
    rw [if_neg hf]
    simp [posL]
  | d :: r, i, st, e, hs => by
    have hd : x.cps.toList[i]? = some d := by
      have := congrArg (fun l : List Nat => l[0]?) e
      simpa using this
    have e2 : x.cps.toList.drop (i + 1) = r := by
      have := congrArg (fun l : List Nat => l.drop 1) e
      simpa [List.drop_drop] using this
    have hrange : List.range' i ((d :: r).length + 1) = i :: List.range' (i + 1) (r.length + 1) := rfl
    rw [hrange, List.forIn_cons]
    by_cases hc : d = c
    · subst hc
      have h1 := (StrLaws.subAt_one x d i).mpr hd
      show _ = st.1.toList ++ (if d = d then i :: posL d (i + 1) r else _).take _
      rw [if_pos rfl]
      by_cases hl : st.1.size < lim
      · unfold StrLaws.occBody
        rw [if_pos ⟨⟨⟨hl, hs⟩, h1.1⟩, h1.2⟩]
        have ih := occ_run x d lim r (i + 1) (st.1.push i, i + 1) e2 (Nat.le_refl _)
        obtain ⟨k, hk⟩ : ∃ k, lim - st.1.size = k + 1 := ⟨lim - st.1.size - 1, by omega⟩
        have hk2 : lim - (st.1.push i).size = k := by rw [Array.size_push]; omega
        rw [hk, List.take_succ_cons]
        refine ih.trans ?_
        show (st.1.push i).toList ++ (posL d (i + 1) r).take (lim - (st.1.push i).size) = _
        rw [hk2, Array.toList_push, List.append_assoc]; rfl
      · have hf : ¬ (((st.1.size < lim ∧ st.2 ≤ i) ∧ i + (⟨#[d]⟩ : PySem.Str).length ≤ x.length) ∧ subAt x ⟨#[d]⟩ i = true) := fun h => hl h.1.1.1
        have ih := occ_run x d lim r (i + 1) st e2 (by omega)
        have h0 : lim - st.1.size = 0 := by omega
        unfold StrLaws.occBody
        rw [if_neg hf]
        refine ih.trans ?_
        rw [h0]; rfl
    · have hf : ¬ (((st.1.size < lim ∧ st.2 ≤ i) ∧ i + (⟨#[c]⟩ : PySem.Str).length ≤ x.length) ∧ subAt x ⟨#[c]⟩ i = true) := fun h => by
        have := (StrLaws.subAt_one x c i).mp ⟨h.1.2, h.2⟩
        rw [hd] at this
        exact hc (Option.some.inj this)
      have ih := occ_run x c lim r (i + 1) st e2 (by omega)
      show _ = st.1.toList ++ (if d = c then _ else posL c (i + 1) r).take _
      rw [if_neg hc]
      unfold StrLaws.occBody
      rw [if_neg hf]
      exact ih
theorem occ_pos (x : PySem.Str) (c lim : Nat) : occurrences x ⟨#[c]⟩ 0 x.length lim = (posL c 0 x.cps.toList).take lim := by
  rw [StrLaws.occ_eq]
  have h := occ_run x c lim x.cps.toList 0 (#[], 0) rfl (Nat.le_refl _)
  have hl : x.cps.toList.length = x.length := Array.length_toList
  rw [hl] at h
  exact h.trans (by simp)
theorem str_of_list {x : PySem.Str} {l : List Nat} (h : x.cps.toList = l) : x = ⟨l.toArray⟩ := by
  subst h
  cases x; simp
theorem sub_list (x : PySem.Str) (i j : Nat) (hj : j ≤ x.cps.toList.length) : strSub x i j = ⟨((x.cps.toList.drop i).take (j - i)).toArray⟩ := by
  refine str_of_list ?_
  show (x.cps.extract i j).toList = _
  rw [Array.toList_extract, List.extract_eq_take_drop]
theorem split_two {x : PySem.Str} {a b d : List Nat} (e : x.cps.toList = a ++ 39 :: (b ++ 39 :: d)) (ha : 39 ∉ a) (hb : 39 ∉ b) (hd : 39 ∉ d) : Txt.splitMax x (PySem.Str.ofString "'") 2 = [⟨a.toArray⟩, ⟨b.toArray⟩, ⟨d.toArray⟩] := by
  have hy : PySem.Str.ofString "'" = ⟨#[39]⟩ := by decide +kernel
  have hl : x.length = a.length + 1 + (b.length + 1 + d.length) := by
    have := congrArg List.length e
    rw [Array.length_toList] at this
    simp only [List.length_append, List.length_cons] at this
    show x.cps.size = _
    omega
  have hlim : limitOf x 2 = 2 := rfl
  have hcond : (decide (x.length < (⟨#[39]⟩ : PySem.Str).length) || decide (PySem.Builtin.Str.strKind x < PySem.Builtin.Str.strKind ⟨#[39]⟩)) = false := by
    have h1 : ¬ x.length < (⟨#[39]⟩ : PySem.Str).length := by show ¬ x.length < 1; omega
    have h2 : ¬ PySem.Builtin.Str.strKind x < PySem.Builtin.Str.strKind ⟨#[39]⟩ := by
      have : PySem.Builtin.Str.strKind ⟨#[39]⟩ = 1 := by decide +kernel
      rw [this]
      unfold PySem.Builtin.Str.strKind
      split
      · decide
      · split <;> decide
    rw [decide_eq_false h1, decide_eq_false h2]; rfl
  have hocc : occurrences x ⟨#[39]⟩ 0 x.length 2 = [a.length, a.length + 1 + b.length] := by
    rw [occ_pos, e, posL_app 39 a 0 _ ha]
    show ((if 39 = 39 then (0 + a.length) :: posL 39 (0 + a.length + 1) (b ++ 39 :: d) else _)).take 2 = _
    rw [if_pos rfl, posL_app 39 b _ _ hb]
    show ((0 + a.length) :: (if 39 = 39 then (0 + a.length + 1 + b.length) :: posL 39 _ d else _)).take 2 = _
    rw [if_pos rfl, Nat.zero_add]; rfl
  unfold Txt.splitMax
  rw [hy, hcond, hlim, hocc]
  simp only [Bool.false_eq_true, if_false, List.isEmpty_cons]
  have hlen : x.cps.toList.length = a.length + 1 + (b.length + 1 + d.length) := by rw [Array.length_toList]; exact hl
  show [strSub x 0 a.length, strSub x (a.length + 1) (a.length + 1 + b.length), strSub x (a.length + 1 + b.length + 1) x.length] = _
  rw [sub_list _ _ _ (by omega), sub_list _ _ _ (by omega), sub_list _ _ _ (by omega), e, hl]
  have h1 : ((a ++ 39 :: (b ++ 39 :: d)).drop 0).take (a.length - 0) = a := by simp
  have h2 : ((a ++ 39 :: (b ++ 39 :: d)).drop (a.length + 1)).take (a.length + 1 + b.length - (a.length + 1)) = b := by
    rw [List.drop_append, List.drop_of_length_le (by omega)]
    have : a.length + 1 - a.length = 1 := by omega
    have h3 : a.length + 1 + b.length - (a.length + 1) = b.length := by omega
    rw [this, h3]; simp
  have h4 : ((a ++ 39 :: (b ++ 39 :: d)).drop (a.length + 1 + b.length + 1)).take (a.length + 1 + (b.length + 1 + d.length) - (a.length + 1 + b.length + 1)) = d := by
    rw [List.drop_append, List.drop_of_length_le (by omega)]
    have : a.length + 1 + b.length + 1 - a.length = b.length + 1 + 1 := by omega
    have h3 : a.length + 1 + (b.length + 1 + d.length) - (a.length + 1 + b.length + 1) = d.length := by omega
    rw [this, h3, List.nil_append, List.drop_succ_cons, List.drop_append, List.drop_of_length_le (by omega)]
    have h5 : b.length + 1 - b.length = 1 := by omega
    rw [h5]; simp
  rw [h1, h2, h4]
end
section
open PySem PySem.W PyProof.Rows PySem.Calls PySem.Spec
theorem join3 (x y z : Str) : (Txt.join (Str.ofString "'") [x, y, z]).cps.toList = x.cps.toList ++ 39 :: (y.cps.toList ++ 39 :: z.cps.toList) := by
  show (x.cps ++ (Str.ofString "'").cps ++ y.cps ++ (Str.ofString "'").cps ++ z.cps).toList = _
  have : (Str.ofString "'").cps.toList = [39] := by decide +kernel
  simp [this]
theorem figs_len {x : Int} (h0 : 0 ≤ x) (h1 : x < 262144) : (figs x).length ≤ 3 := by
  rcases figs_cases h0 h1 with ⟨_, e⟩ | ⟨_, _, e⟩ | ⟨_, e⟩ <;> rw [e] <;> simp
theorem figsAll_len : ∀ {l : List Int}, (∀ x ∈ l, 0 ≤ x ∧ x < 262144) → (l.flatMap figs).length ≤ 3 * l.length
  | [], _ => Nat.le_refl _
  | x :: r, h => by
    rw [List.forall_mem_cons] at h
    have h1 := figs_len h.1.1 h.1.2
    have h2 := figsAll_len h.2
    rw [List.flatMap_cons, List.length_append, List.length_cons]; omega
theorem figsAll_nonneg {l : List Int} (h : ∀ x ∈ l, 0 ≤ x ∧ x < 262144) : ∀ o ∈ l.flatMap figs, 0 ≤ o := by
  intro o ho
  obtain ⟨x, hx, hox⟩ := List.mem_flatMap.mp ho
  have := h x hx
  rcases figs_cases this.1 this.2 with ⟨_, e⟩ | ⟨_, _, e⟩ | ⟨_, e⟩ <;> rw [e] at hox <;> simp only [List.mem_cons, List.not_mem_nil, or_false] at hox <;> omega
noncomputable def gsL (bits : Int) : Nat → List Int → List (Int × List Int)
  | _, [] => []
  | off, x :: r => (x, (signsF bits off (figs x)).map (fun n : Nat => (n : Int))) :: gsL bits (off + (figs x).length) r
theorem group_of {bits x : Int} (h0 : 0 ≤ x) (h1 : x < 262144) (i : Nat) : Group x ((signsF bits i (figs x)).map (fun n : Nat => (n : Int))) := by
  obtain ⟨b0, cs, e, a1, a2, a3, a4, _⟩ := figs_vrun (bits := bits) h0 h1 i
  exact ⟨b0, cs, e, a1, a2, a3, a4⟩
theorem gs_ok {bits : Int} : ∀ (R : List Int) (off : Nat), (∀ x ∈ R, 0 < x ∧ x < 262144) → (∀ p ∈ gsL bits off R, Group p.1 p.2 ∧ p.1 ≠ 0) ∧ (gsL bits off R).map (·.1) = R ∧
    ∃ z, Group 0 z ∧ (signsF bits off ((R ++ [0]).flatMap figs)).map (fun n : Nat => (n : Int)) = ((gsL bits off R).map (·.2)).flatten ++ z
  | [], off, _ => by
    refine ⟨List.forall_mem_nil _, rfl, _, group_of (bits := bits) (Int.le_refl 0) (by decide) off, ?_⟩
    simp [gsL]
  | x :: r, off, h => by
    rw [List.forall_mem_cons] at h
    obtain ⟨h1, h2, z, hz, e⟩ := gs_ok r (off + (figs x).length) h.2
    refine ⟨List.forall_mem_cons.mpr ⟨⟨group_of (by omega) h.1.2 off, by show x ≠ 0; omega⟩, h1⟩, ?_, z, hz, ?_⟩
    · show x :: (gsL bits _ r).map (·.1) = _
      rw [h2]
    · show (signsF bits off (figs x ++ (r ++ [0]).flatMap figs)).map _ = ((signsF bits off (figs x)).map _ ++ ((gsL bits _ r).map (·.2)).flatten) ++ z
      rw [signsF_app, List.map_append, e, List.append_assoc]
theorem txtS_list (bits : Int) (R : List Int) : (⟨(signsF bits 0 ((R ++ [0]).flatMap figs)).toArray⟩ : Str).cps.toList = signsF bits 0 ((R ++ [0]).flatMap figs) := rfl
theorem txt_ok {bits : Int} {R : List Int} (hl : R.length ≤ 3) (h : ∀ x ∈ R, 0 < x ∧ x < 262144) : 39 ∉ signsF bits 0 ((R ++ [0]).flatMap figs) ∧ (signsF bits 0 ((R ++ [0]).flatMap figs)).length ≤ 12 := by
  have hb : ∀ x ∈ R ++ [0], 0 ≤ x ∧ x < 262144 := by
    intro x hx
    rcases List.mem_append.mp hx with hx | hx
    · have := h x hx; omega
    · rw [List.mem_singleton.mp hx]; decide
  refine ⟨signsF_39 _ _ (figsAll_nonneg hb), ?_⟩
  rw [signsF_len]
  have := figsAll_len hb
  rw [List.length_append, List.length_cons, List.length_nil] at this
  omega
end
local macro_rules | `(tactic| walk_at "call builtin:list.index") => `(tactic| refine Hold.mk ?_)
section
variable {prog : Program} {w : World} {loose : List Str} {mean : ExcName → Option Value} {mg mb : Str → Option Value} {dp un : Nat} {gd : Option (List Code)} {cn : Str} {cs : Scope} {a : Addr} {ccd : Value} {cl : List (Str × Addr)} {outer : List Env} {A₀ : Around} {base h₀ : Heap} {L : Addr} {m : Str → Option Value} {news : List (Addr × Obj)} {s : Shared} {Q E : Value → Shared → Prop}
local macro_rules | `(tactic| walk_at "call builtin:len") => `(tactic| refine Hold.mk ?_)
local macro_rules | `(tactic| walk_at "call builtin:list.append") => `(tactic| refine Hold.mk ?_)
local macro_rules | `(tactic| walk_at "exec While") => `(tactic| refine Hold.mk ?_)
local macro_rules | `(tactic| walk_at "exec For Name Subscript") => `(tactic| refine Hold.mk ?_)
noncomputable def spS (bits n : Int) : Str := ⟨(signsF bits 0 ([n].flatMap figs)).toArray⟩
noncomputable def bnd : Nat → Nat
  | 0 => 0
  | 1 => 2
  | 2 => 6
  | 3 => 16
  | _ => 44
noncomputable def DnOk (dn fix : List (Addr × Obj)) : Prop := (∀ e ∈ dn, ∃ xs n, e.2 = W.listOf xs n) ∧ ∀ e ∈ dn, ∀ q ∈ fix, q.1 ≠ e.1
theorem DnOk.cons {dn fix : List (Addr × Obj)} {C : Addr} {vs : Array Value} {n : Nat} (h : DnOk dn fix) (hC : ∀ q ∈ dn ++ fix, q.1 ≠ C) : DnOk ((C, W.listOf vs n) :: dn) fix :=
  ⟨List.forall_mem_cons.mpr ⟨⟨_, _, rfl⟩, h.1⟩, List.forall_mem_cons.mpr ⟨fun q hq => hC q (List.mem_append_right _ hq), h.2⟩⟩
inductive RInv (x p K Rl : Addr) (n0 n1 n2 : Int) (R0 R1 R2 : List Int) (bits : Int) (tb : Tok) (fix : List (Addr × Obj)) (n : Nat) (m'' : Str → Option Value) (news'' : List (Addr × Obj)) : Prop
  | intro (C G : Addr) (cv gv qv : List Value) (nC nG nQ r tr : Nat) (cur rest : List Int) (dn : List (Addr × Obj)) (tt : Tok) (h1 : m'' (Str.ofString "lexer") = some (.ref x)) (h2 : m'' (Str.ofString "names") = some (.ref K)) (h3 : m'' (Str.ofString "rules") = some (.ref Rl)) (h4 : m'' (Str.ofString "bits") = some (.int bits tb)) (h5 : m'' (Str.ofString "rows") = some (.ref G)) (h6 : m'' (Str.ofString "row") = some (.ref C)) (h7 : m'' (Str.ofString "turns") = some (.int (tr : Nat) tt)) (h8 : news'' = (C, W.listOf cv.toArray nC) :: (G, W.listOf gv.toArray nG) :: (p, W.listOf qv.toArray nQ) :: (dn ++ fix)) (h9 : C ≠ G) (h10 : C ≠ p) (h11 : G ≠ p) (h12 : (∀ q ∈ dn ++ fix, q.1 ≠ C)) (h13 : (∀ q ∈ dn ++ fix, q.1 ≠ G)) (h14 : (∀ q ∈ dn ++ fix, q.1 ≠ p)) (h15 : IntsAre cv cur) (h16 : gv.length = r) (h17 : (∀ i < r, ∃ a rv nn, gv[i]? = some (.ref a) ∧ (a, W.listOf rv.toArray nn) ∈ dn ∧ IntsAre rv (rowsL [n0, n1, n2] [R0, R1, R2] i [n0]))) (h18 : r ≤ 4) (h19 : DnOk dn fix) (h20 : (r < 4 → rowsL [n0, n1, n2] [R0, R1, R2] r [n0] = cur ++ rest ∧ StrsAre qv ((rest ++ 0 :: (if r < 3 then roundL [n0, n1, n2] [R0, R1, R2] cur else [])).map (spS bits)))) (h21 : (r = 4 → qv = [])) (h22 : tr ≤ bnd r + cur.length) (h23 : n = 50 - tr) : RInv x p K Rl n0 n1 n2 R0 R1 R2 bits tb fix n m'' news''
theorem news_drop0 {h₀ h : Heap} {L : Addr} {a : Addr × Obj} {news : List (Addr × Obj)} (N : News h₀ L h (a :: news)) : News h₀ L h news := fun p hp => N p (.tail _ hp)
theorem strs_cons {vs : List Value} {y : Str} {ys : List Str} (h : StrsAre vs (y :: ys)) : ∃ t r, vs = .str y t :: r ∧ StrsAre r ys := by
  cases h with
  | cons _ t h => exact ⟨_, _, rfl, h⟩
theorem news_perm1 {h₀ h : Heap} {L : Addr} {a b c d : Addr × Obj} {l l' : List (Addr × Obj)} (N : News h₀ L h (a :: b :: c :: d :: (l ++ l'))) : News h₀ L h (a :: c :: d :: ((b :: l) ++ l')) := fun p hp => N p (by
  simp only [List.cons_append, List.mem_cons] at hp ⊢
  rcases hp with h | h | h | h | h <;> simp [h])
theorem kf3 {n a b c : Int} {t u v : Tok} : kf_at n [.int a t, .int b u, .int c v] = if a = n then some 0 else if b = n then some 1 else if c = n then some 2 else none := by
  have e : ∀ (x : Int) (y : Tok), isInt n (.int x y) = decide (x = n) := fun x y => by show (x == n) = _; rw [Bool.eq_iff_iff]; simp
  simp only [kf_at, e]
  by_cases h1 : a = n
  · simp [h1]
  · by_cases h2 : b = n
    · simp [h1, h2]
    · by_cases h3 : c = n
      · simp [h1, h2, h3]
      · simp [h1, h2, h3]
theorem fit63 {r : Nat} (h : r ≤ 4) : (r : Int) < 2 ^ 63 := Int.lt_of_le_of_lt (Int.ofNat_le.mpr h) (by decide)
theorem ne4 {r : Nat} {P : Prop} (h : r < 4) (e : r = 4) : P := absurd (e ▸ h) (Nat.lt_irrefl 4)
theorem len_N {A : Around} {E : Value → Shared → Prop} {D : Addr} {vs : List Value} {nn : Nat} {r : Int} (N : News h₀ L s.heap news) (hm : (D, W.listOf vs.toArray nn) ∈ news) (hr : ((vs.toArray.size : Nat) : Int) = r) (hfit : r < 2 ^ 63) (h : Q (.int r (s.toks + 1)) { s with toks := s.toks + 1 + 1 }) :
    wpAny (model prog w) A (call (.builtin "len") [.ref D]) Q E s := by
  subst hr
  exact call_len_list (PySem.IsL.isList (n := nn) (N _ hm).1) hfit h
theorem rounds_spec {x d p f1 K Rl r0 r1 r2 : Addr} {od : Obj} {ln : Int} {nq nk nr m0 m1 m2 : Nat} {kv rv0 rv1 rv2 : List Value} {n0 n1 n2 : Int} {R0 R1 R2 : List Int} {bits : Int} {tb : Tok} {fix : List (Addr × Obj)}
   (B : Below A₀ base outer h₀) (F : Fr h₀ L s.heap m) (X : (hd.heap_1 w.params).In h₀) (N : News h₀ L s.heap ((p, W.listOf ([] : List Value).toArray nq) :: fix))
   (T : Top topProg loose mean mg mb h₀) (hk : cs.kind = .function)  (hdp : dp + 100 < recursionLimit) (hun : un + 1000 < cLine)
   (hinst : (x, instObj 87 d) ∈ fix) (hdm : (d, od) ∈ fix) (hod : LexD w od ln f1 p) (hpf : ∀ q ∈ fix, q.1 ≠ p)
   (hK : (K, W.listOf kv.toArray nk) ∈ fix) (hkv : IntsAre kv [n0, n1, n2]) (hRl : (Rl, W.listOf [Value.ref r0, .ref r1, .ref r2].toArray nr) ∈ fix)
   (hr0 : (r0, W.listOf rv0.toArray m0) ∈ fix) (hi0 : IntsAre rv0 R0) (hr1 : (r1, W.listOf rv1.toArray m1) ∈ fix) (hi1 : IntsAre rv1 R1) (hr2 : (r2, W.listOf rv2.toArray m2) ∈ fix) (hi2 : IntsAre rv2 R2)
   (hn0 : 256 ≤ n0 ∧ n0 < 262144) (hn1 : 256 ≤ n1 ∧ n1 < 262144) (hn2 : 256 ≤ n2 ∧ n2 < 262144) (hz : NamesOk [n0, n1, n2] [R0, R1, R2]) (hRlen : ∀ r ∈ [R0, R1, R2], r.length ≤ 3) (hRsym : ∀ r ∈ [R0, R1, R2], ∀ x ∈ r, 0 < x ∧ x < 262144) (hb0 : 0 ≤ bits) (hb1 : bits < 256)
   (ret : ∀ h' tk' G (gv : List Value) nG nQ dn, Fr h₀ L h' m → News h₀ L h' ((G, W.listOf gv.toArray nG) :: (p, W.listOf ([] : List Value).toArray nQ) :: (dn ++ fix)) → DnOk dn fix → (∀ q ∈ dn ++ fix, q.1 ≠ G) → G ≠ p → (∀ q ∈ dn ++ fix, q.1 ≠ p) → gv.length = 4 → (∀ i < 4, ∃ a rv nn, gv[i]? = some (Value.ref a) ∧ (a, W.listOf rv.toArray nn) ∈ dn ∧ IntsAre rv (rowsL [n0, n1, n2] [R0, R1, R2] i [n0])) → Q (.ref G) { s with heap := h', toks := tk' }) :
   wpAny (model prog w) (ktrTop dp un gd cn cs L a ccd cl outer) (call (.ref 158) [.ref x, .ref K, .ref Rl, .int bits tb]) Q E s := by
  obtain ⟨t0, t1, t2, rfl⟩ := ints3 hkv
  obtain ⟨k1, k2, k3, k4, u1, u2, rfl⟩ := hod
  refine wpAny_call ?_
  k_dflt cell_enter
  refine gen_Q fun Pz pz => ?_
  k_steps
  refine Hold.out ?_
  try dsimp only
  refine gen_toks fun tkh => ?_
  rename Fr _ _ _ _ => F5
  rename News _ _ _ _ => N5
  rename _ ∧ _ => lD
  obtain ⟨d1, d2, d3, d4⟩ := lD
  rename _ ∧ _ => lC
  obtain ⟨c1, c2, c3⟩ := lC
  rename _ ∧ _ => lG
  obtain ⟨g1, g2⟩ := lG
  k_dflt (refine' spelled_spec ?B F5 ?X N5 ?T ?hk ?hdp ?hun (.head _) (.cons _ _ .nil) ?hlen ?hrow hb0 hb1 ?_)
  case B => k_asm
  case X => k_asm
  case T => k_asm
  case hk => exact rfl
  case hdp => exact room1 (k := 1) (b := 20) hdp (Nat.le_of_ble_eq_true rfl)
  case hun => exact room1 (k := 3) (b := 200) hun (Nat.le_of_ble_eq_true rfl)
  case hlen => exact Nat.le_of_ble_eq_true rfl
  case hrow => exact List.forall_mem_cons.mpr ⟨⟨Int.le_trans (by decide) hn0.1, hn0.2⟩, List.forall_mem_nil _⟩
  intro h6 tk6 t6 F6 N6
  clear F5 N5
  replace N6 := news_drop0 N6
  k_steps
  refine Hold.out ?_
  try dsimp only
  refine gen_toks fun tkh => ?_
  refine wpAny_call ?_
  rename Fr _ _ _ _ => F7
  rename News _ _ _ _ => N7
  k_dflt (refine' push_spec (x := x) (d := d) (p := p) (f1 := f1) ?B2 F7 ?X2 N7 ?T2 ?hk2 ?hdp2 ?hun2 ?hinst2 ?hdm2 ?hod2 (UpdF.tail (Ne.symm (Nat.ne_of_lt c2)) (UpdF.tail (Ne.symm (Nat.ne_of_lt g1)) (UpdF.head hpf))) ?hf2 ?_)
  case B2 => k_asm
  case X2 => k_asm
  case T2 => k_asm
  case hk2 => exact rfl
  case hdp2 => exact room1 (k := 1) (b := 60) hdp (Nat.le_of_ble_eq_true rfl)
  case hun2 => exact room1 (k := 3) (b := 600) hun (Nat.le_of_ble_eq_true rfl)
  case hinst2 => exact .tail _ (.tail _ (.tail _ hinst))
  case hdm2 => exact .tail _ (.tail _ (.tail _ hdm))
  case hod2 => exact ⟨_, _, _, _, _, _, rfl⟩
  case hf2 => exact Nat.le_of_ble_eq_true rfl
  intro h8 tk8 F8 N8
  clear F7 N7
  k_steps
  refine Hold.out ?_
  try dsimp only
  refine gen_toks fun tkh => ?_
  rename Fr _ _ _ _ => F9
  rename News _ _ _ _ => N9
  rename _ ∧ _ => lD
  obtain ⟨d1, d2, d3, d4⟩ := lD
  k_dflt (refine' spelled_spec ?B3 F9 ?X3 N9 ?T3 ?hk3 ?hdp3 ?hun3 (.head _) (.cons _ _ .nil) ?hlen3 ?hrow3 hb0 hb1 ?_)
  case B3 => k_asm
  case X3 => k_asm
  case T3 => k_asm
  case hk3 => exact rfl
  case hdp3 => exact room1 (k := 1) (b := 20) hdp (Nat.le_of_ble_eq_true rfl)
  case hun3 => exact room1 (k := 3) (b := 200) hun (Nat.le_of_ble_eq_true rfl)
  case hlen3 => exact Nat.le_of_ble_eq_true rfl
  case hrow3 => exact List.forall_mem_cons.mpr ⟨⟨Int.le_refl _, by decide⟩, List.forall_mem_nil _⟩
  intro h10 tk10 t10 F10 N10
  clear F9 N9
  replace N10 := news_drop0 N10
  k_steps
  refine Hold.out ?_
  try dsimp only
  refine gen_toks fun tkh => ?_
  refine wpAny_call ?_
  rename Fr _ _ _ _ => F11
  rename News _ _ _ _ => N11
  k_dflt (refine' push_spec (x := x) (d := d) (p := p) (f1 := f1) ?B4 F11 ?X4 N11 ?T4 ?hk4 ?hdp4 ?hun4 ?hinst4 ?hdm4 ?hod4 (UpdF.tail (Ne.symm (Nat.ne_of_lt c2)) (UpdF.tail (Ne.symm (Nat.ne_of_lt g1)) (UpdF.head hpf))) ?hf4 ?_)
  case B4 => k_asm
  case X4 => k_asm
  case T4 => k_asm
  case hk4 => exact rfl
  case hdp4 => exact room1 (k := 1) (b := 60) hdp (Nat.le_of_ble_eq_true rfl)
  case hun4 => exact room1 (k := 3) (b := 600) hun (Nat.le_of_ble_eq_true rfl)
  case hinst4 => exact .tail _ (.tail _ (.tail _ hinst))
  case hdm4 => exact .tail _ (.tail _ (.tail _ hdm))
  case hod4 => exact ⟨_, _, _, _, _, _, rfl⟩
  case hf4 => exact Nat.le_of_ble_eq_true rfl
  intro h12 tk12 F12 N12
  clear F11 N11
  k_steps
  refine Hold.out ?_
  try dsimp only
  refine gen_toks fun tkh => ?_
  rename Fr _ _ _ _ => F13
  rename News _ _ _ _ => N13
  try dsimp only
  refine gen_toks fun tkw => ?_
  refine while_K (RInv x p K Rl n0 n1 n2 R0 R1 R2 bits tb fix) 50 F13 N13 ⟨_, _, [], [], _, _, _, _, 0, 0, [], [n0], [], _, rfl, rfl, rfl, rfl, rfl, rfl, rfl, rfl, Ne.symm (Nat.ne_of_lt c1), Ne.symm (Nat.ne_of_lt c2), Ne.symm (Nat.ne_of_lt g1), mine_ne c3, mine_ne g2, hpf, .nil, rfl, (fun i hi => absurd hi (Nat.not_lt_zero _)), Nat.zero_le _, ⟨List.forall_mem_nil _, List.forall_mem_nil _⟩, (fun _ => ⟨rfl, .cons _ _ (.cons _ _ .nil)⟩), (fun h => nomatch h), Nat.le_refl _, rfl⟩ ?_
  clear F13 N13
  rintro n m5 news5 h5 tk5 Pw qw ⟨C, G, cv, gv, qv, nC, nG, nQ, r, tr, cur, rest, dn, tt, q1, q2, q3, q4, q5, q6, q7, rfl, hCG, hCp, hGp, hfC, hfG, hfp, hcv, hgl, hgr, hr4, hdn, hrun, hend, htr, rfl⟩ F14 N14
  rw [loc7 q1 q2 q3 q4 q5 q6 q7 (fun y _ _ _ _ _ _ _ => rfl)] at F14
  have hinst' := List.mem_append_right dn hinst
  have hdm' := List.mem_append_right dn hdm
  have hK' := List.mem_append_right dn hK
  have hRl' := List.mem_append_right dn hRl
  have hr0' := List.mem_append_right dn hr0
  have hr1' := List.mem_append_right dn hr1
  have hr2' := List.mem_append_right dn hr2
  have hsz : ((gv.toArray.size : Nat) : Int) = (r : Int) := by rw [List.size_toArray, hgl]
  by_cases hlt : r < 4
  · obtain ⟨hrow, hqv⟩ := hrun hlt
    have hr5 : ((r : Nat) : Int) < 4 := Int.ofNat_lt.mpr hlt
    have hrl := rowsL_len (names := [n0, n1, n2]) hRlen [n0] r
    have hrm := rowsL_mem (names := [n0, n1, n2]) (P := fun x => 0 < x ∧ x < 262144) hRsym (l := [n0]) (List.forall_mem_cons.mpr ⟨⟨Int.lt_of_lt_of_le (by decide) hn0.1, hn0.2⟩, List.forall_mem_nil _⟩) r
    rw [hrow] at hrl hrm
    have hpw : 3 ^ r ≤ 27 ∧ bnd r + 3 ^ r ≤ 43 := by
      have : ∀ j < 4, 3 ^ j ≤ 27 ∧ bnd j + 3 ^ j ≤ 43 := by decide
      exact this r hlt
    rw [List.length_append, List.length_cons, List.length_nil, Nat.mul_one] at hrl
    have hcur : cur.length ≤ 3 ^ r := Nat.le_trans (Nat.le_add_right _ _) hrl
    have htrN : tr < 50 := Nat.lt_of_le_of_lt (Nat.le_trans htr (Nat.le_trans (Nat.add_le_add_left hcur _) hpw.2)) (by decide)
    have hs50 : 50 - (tr + 1) < 50 - tr := Nat.sub_lt_sub_left htrN (Nat.lt_succ_self tr)
    have htr5 : ((tr : Nat) : Int) < 50 := Int.ofNat_lt.mpr htrN
    have hnl : (if r < 3 then roundL [n0, n1, n2] [R0, R1, R2] cur else []).length ≤ 81 := by
      have := roundL_len (names := [n0, n1, n2]) hRlen cur
      split
      · exact Nat.le_trans this (Nat.mul_le_mul_left 3 (Nat.le_trans hcur hpw.1))
      · exact Nat.zero_le _
    obtain ⟨nx, hnx⟩ : ∃ nx, (if r < 3 then roundL [n0, n1, n2] [R0, R1, R2] cur else []) = nx := ⟨_, rfl⟩
    rw [hnx] at hqv hnl
    have hqb : (rest ++ 0 :: nx).length ≤ 120 := by rw [List.length_append, List.length_cons]; exact Nat.le_trans (Nat.add_le_add (Nat.le_trans (Nat.le_trans (Nat.le_add_left _ _) hrl) hpw.1) (Nat.succ_le_succ hnl)) (by decide)
    obtain ⟨vh, tl, hvt⟩ : ∃ vh tl, rest ++ 0 :: nx = vh :: tl := by cases rest <;> exact ⟨_, _, rfl⟩
    have hvh : (vh = 0 ∧ rest = [] ∧ tl = nx) ∨ (∃ rest', rest = vh :: rest' ∧ tl = rest' ++ 0 :: nx ∧ 0 < vh ∧ vh < 262144) := by
      cases rest with
      | nil => cases hvt; exact .inl ⟨rfl, rfl, rfl⟩
      | cons a rest' => cases hvt; exact .inr ⟨rest', rfl, rfl, hrm vh (List.mem_append_right _ (.head _))⟩
    have hvb : 0 ≤ vh ∧ vh < 262144 := by
      rcases hvh with ⟨h, _⟩ | ⟨_, _, _, h1, h2⟩
      · rw [h]; decide
      · exact ⟨Int.le_of_lt h1, h2⟩
    rw [hvt] at hqv hqb
    obtain ⟨tq, qvs, rfl, hqs⟩ := strs_cons hqv
    have hql : qvs.length < 10000 := by
      have := hqs.length
      rw [List.length_map] at this
      exact Nat.lt_of_le_of_lt (Nat.le_of_eq this) (Nat.lt_of_lt_of_le hqb (by decide))
    k_steps
    refine Hold.out ?_
    try dsimp only
    refine gen_toks fun tkh => ?_
    rename News _ _ _ _ => N15
    refine len_N N15 (.tail _ (.head _)) hsz (fit63 hr4) ?_
    k_steps
    refine Hold.out ?_
    try dsimp only
    refine gen_toks fun tkh => ?_
    refine wpAny_call ?_
    rename Fr _ _ _ _ => F16
    rename News _ _ _ _ => N16
    k_dflt (refine' pop_spec (x := x) (d := d) (p := p) (f1 := f1) ?B5 F16 ?X5 N16 ?T5 ?hk5 ?hdp5 ?hun5 ?hinst5 ?hdm5 ?hod5 (UpdF.tail hCp (UpdF.tail hGp (UpdF.head hfp))) hql ?_)
    case B5 => k_asm
    case X5 => k_asm
    case T5 => k_asm
    case hk5 => exact rfl
    case hdp5 => exact room1 (k := 1) (b := 60) hdp (Nat.le_of_ble_eq_true rfl)
    case hun5 => exact room1 (k := 3) (b := 600) hun (Nat.le_of_ble_eq_true rfl)
    case hinst5 => exact .tail _ (.tail _ (.tail _ hinst'))
    case hdm5 => exact .tail _ (.tail _ (.tail _ hdm'))
    case hod5 => exact ⟨_, _, _, _, _, _, rfl⟩
    intro h17 tk17 F17 N17
    clear F16 N16
    obtain ⟨b0, ws, hws, hb00, hwl, hvr, hwp, _⟩ := figs_vrun (bits := bits) hvb.1 hvb.2 0
    have hwx : (spS bits vh).cps.toList = signsF bits 0 (figs vh) := by
      show signsF bits 0 ([vh].flatMap figs) = _
      rw [List.flatMap_cons, List.flatMap_nil, List.append_nil]
    have hwx2 : (spS bits vh).cps.toList.map (fun n : Nat => (n : Int)) = b0 :: ws := by rw [hwx, hws]
    have hwsz : (spS bits vh).cps.size ≤ sizeLine := by
      have h1 := congrArg List.length hwx2
      rw [List.length_map, Array.length_toList, List.length_cons] at h1
      rw [sizeLine_eq]; exact Nat.le_trans (Nat.le_of_eq h1) (Nat.le_trans (Nat.succ_le_succ hwl) (by decide))
    k_steps
    refine Hold.out ?_
    try dsimp only
    refine gen_toks fun tkh => ?_
    k_dflt (refine ListComp_str (F₀ := by k_asm) (by with_unfolding_all rfl) (by decide) (by rfl) (by decide) (by rfl) ?_)
    k_steps
    rename Fr _ _ _ _ => F18
    rename News _ _ _ _ => N18
    refine ⟨_, _, _, rfl, rfl, F18, N18, hwsz, fun g => compRest_inv (spS bits vh).cps.size (fun i ys news' => IntsAre ys (((spS bits vh).cps.toList.take i).map (fun n : Nat => (n : Int))) ∧ news' = (C, W.listOf cv.toArray nC) :: (G, W.listOf gv.toArray nG) :: (p, W.listOf qvs.toArray (nQ + 1)) :: (dn ++ fix)) ?_ ?_ (spS bits vh).cps.size 0 [] _ (Nat.zero_add _) ⟨.nil, rfl⟩⟩
    · rintro i v ys news' I oI C1 oC D m₂ h tk E' hlt ⟨c, u, hc, rfl⟩ ⟨hys, rfl⟩ hn hm F2 N2 off hne
      k_steps
      exact LCg.CompEnd.intro F2 N2 _ (fun p hp => hp) off trivial ⟨ints_take hys hc, rfl⟩
    · rintro ys news' ⟨hys, rfl⟩
      rw [show List.take (spS bits vh).cps.size (spS bits vh).cps.toList = (spS bits vh).cps.toList from List.take_of_length_le (by rw [Array.length_toList]; exact Nat.le_refl _), hwx2] at hys
      intro D h tk F20 N20 off2
      k_steps
      rename Fr _ _ h _ => F21
      rename News _ _ h _ => N21
      refine call_iter_list F21 N21 (.head _) ?_
      intro h22 it F22 N22 hit
      clear F21 N21
      obtain ⟨⟨tb1, hb1'⟩, hcs1⟩ := group_at (i := 0) (b0 := b0) (cs := ws) (rest := []) hys (by simp)
      k_steps
      refine Hold.out ?_
      try dsimp only
      refine gen_toks fun tkh => ?_
      rename Fr _ _ _ _ => F23
      rename News _ _ _ _ => N23
      k_dflt (refine' parse_spec ?B6 F23 ?X6 N23 ⟨rfl, rfl⟩ ?hne6 hb1' hb00 (fun k c hk' => ⟨hwp c (List.mem_of_getElem? hk'), hcs1 k c hk'⟩) hwl hvr ?T6 ?hk6 ?hdp6 ?hun6 ?_)
      case B6 => k_asm
      case X6 => k_asm
      case T6 => k_asm
      case hk6 => rfl
      case hdp6 => exact room1 (k := 1) (b := 10) hdp (Nat.le_of_ble_eq_true rfl)
      case hun6 => exact room1 (k := 3) (b := 100) hun (Nat.le_of_ble_eq_true rfl)
      case hne6 => exact fun p hp => Nat.ne_of_lt (hit p hp)
      intro t24 h24 tk24 o24 F24 N24 hi24
      replace N24 := news_drop0 (news_drop0 N24)
      rcases hvh with ⟨rfl, rfl, rfl⟩ | ⟨rest', rfl, rfl, hv0, hv1⟩
      · have hgl2 : gv.length < 10000 := Nat.lt_of_le_of_lt (Nat.le_trans (Nat.le_of_eq hgl) hr4) (by decide)
        have hlC := news_lt N24
        k_steps
        refine Hold.out ?_
        try dsimp only
        refine gen_toks fun tkh => ?_
        rename Fr _ _ _ _ => F25
        rename News _ _ _ _ => N25
        refine append_N F25 N25 (UpdF.tail hCG (UpdF.head (List.forall_mem_cons.mpr ⟨Ne.symm hGp, hfG⟩))) hgl2 ?_
        intro h26 F26 N26
        have hsz2 : (((gv ++ [Value.ref C]).toArray.size : Nat) : Int) = ((r + 1 : Nat) : Int) := by rw [List.size_toArray, List.length_append, hgl]; rfl
        k_steps
        refine Hold.out ?_
        try dsimp only
        refine gen_toks fun tkh => ?_
        rename Fr _ _ _ _ => F27
        rename News _ _ _ _ => N27
        refine len_N N27 (.tail _ (.tail _ (.head _))) hsz2 (fit63 hlt) ?_
        rename _ ∧ _ => lD
        obtain ⟨d1, d2, d3, d4⟩ := lD
        have hbn : bnd r + 3 ^ r + 1 ≤ bnd (r + 1) := by
          have : ∀ j < 4, bnd j + 3 ^ j + 1 ≤ bnd (j + 1) := by decide
          exact this r hlt
        have hcr : cur = rowsL [n0, n1, n2] [R0, R1, R2] r [n0] := by rw [hrow, List.append_nil]
        have hgr2 : ∀ i < r + 1, ∃ a rv nn, (gv ++ [Value.ref C])[i]? = some (.ref a) ∧ (a, W.listOf rv.toArray nn) ∈ (C, W.listOf cv.toArray nC) :: dn ∧ IntsAre rv (rowsL [n0, n1, n2] [R0, R1, R2] i [n0]) := by
          intro i hi
          rcases Nat.lt_or_ge i r with h1 | h1
          · obtain ⟨a, rv, nn, e1, e2, e3⟩ := hgr i h1
            exact ⟨a, rv, nn, by rw [List.getElem?_append_left (Nat.lt_of_lt_of_le h1 (Nat.le_of_eq hgl.symm))]; exact e1, .tail _ e2, e3⟩
          · have : i = r := Nat.le_antisymm (Nat.le_of_lt_succ hi) h1
            subst this
            refine ⟨C, cv, nC, ?_, .head _, by rw [← hcr]; exact hcv⟩
            rw [List.getElem?_append_right (Nat.le_of_eq hgl), hgl, Nat.sub_self]; rfl
        by_cases hr3 : r < 3
        · have hr6 : ((r + 1 : Nat) : Int) < 4 := Int.ofNat_lt.mpr (Nat.succ_lt_succ hr3)
          rw [if_pos hr3] at hnx
          k_steps
          refine Hold.out ?_
          try dsimp only
          refine gen_toks fun tkh => ?_
          refine wpAny_call ?_
          rename Fr _ _ _ _ => F28
          rename News _ _ _ _ => N28
          k_dflt (refine' push_spec (x := x) (d := d) (p := p) (f1 := f1) ?B7 F28 ?X7 N28 ?T7 ?hk7 ?hdp7 ?hun7 ?hinst7 ?hdm7 ?hod7 (UpdF.tail (Ne.symm (Nat.ne_of_lt d3)) (UpdF.tail hCp (UpdF.tail hGp (UpdF.head hfp)))) hql ?_)
          case B7 => k_asm
          case X7 => k_asm
          case T7 => k_asm
          case hk7 => exact rfl
          case hdp7 => exact room1 (k := 1) (b := 60) hdp (Nat.le_of_ble_eq_true rfl)
          case hun7 => exact room1 (k := 3) (b := 600) hun (Nat.le_of_ble_eq_true rfl)
          case hinst7 => exact .tail _ (.tail _ (.tail _ (.tail _ (hinst'))))
          case hdm7 => exact .tail _ (.tail _ (.tail _ (.tail _ (hdm'))))
          case hod7 => exact ⟨_, _, _, _, _, _, rfl⟩
          intro h29 tk29 F29 N29
          k_steps
          rename Fr _ _ _ _ => F30
          rename News _ _ _ _ => N30
          refine qw _ _ (TurnEnd.mk (50 - (tr + 1)) F30 (news_perm1 N30) hs50 ⟨_, G, [], gv ++ [Value.ref C], qvs ++ [.str (spS bits 0) tq], _, _, _, r + 1, tr + 1, [], tl, (C, W.listOf cv.toArray nC) :: dn, _, rfl, rfl, rfl, rfl, rfl, rfl, rfl, rfl, Ne.symm (Nat.ne_of_lt d2), Ne.symm (Nat.ne_of_lt d3), hGp, ?e1, ?e2, ?e3, .nil, by rw [List.length_append, hgl]; rfl, hgr2, hlt, hdn.cons hfC, ?e4, ?e5, ?e6, rfl⟩)
          case e1 => exact List.forall_mem_cons.mpr ⟨Nat.ne_of_lt d1, mine_ne d4⟩
          case e2 => exact List.forall_mem_cons.mpr ⟨hCG, hfG⟩
          case e3 => exact List.forall_mem_cons.mpr ⟨hCp, hfp⟩
          case e4 =>
            intro _
            refine ⟨by rw [← hnx, hcr]; rfl, ?_⟩
            have hnil : (if r + 1 < 3 then roundL [n0, n1, n2] [R0, R1, R2] [] else []) = [] := by split <;> rfl
            rw [hnil, List.map_append]
            exact strsAre_snoc hqs _ _
          case e5 => exact ne4 (Nat.succ_lt_succ hr3)
          case e6 =>
            exact Nat.le_trans (Nat.succ_le_succ (Nat.le_trans htr (Nat.add_le_add_left hcur _))) hbn
        · have hr6 : ¬ ((r + 1 : Nat) : Int) < 4 := fun h => hr3 (Nat.lt_of_succ_lt_succ (Int.ofNat_lt.mp h))
          have hr33 : r = 3 := Nat.le_antisymm (Nat.le_of_lt_succ hlt) (Nat.not_lt.mp hr3)
          rw [if_neg hr3] at hnx
          subst hnx
          k_steps
          rename Fr _ _ _ _ => F30
          rename News _ _ _ _ => N30
          refine qw _ _ (TurnEnd.mk (50 - (tr + 1)) F30 (news_perm1 N30) hs50 ⟨_, G, [], gv ++ [Value.ref C], qvs, _, _, _, r + 1, tr + 1, [], [], (C, W.listOf cv.toArray nC) :: dn, _, rfl, rfl, rfl, rfl, rfl, rfl, rfl, rfl, Ne.symm (Nat.ne_of_lt d2), Ne.symm (Nat.ne_of_lt d3), hGp, ?e1, ?e2, ?e3, .nil, by rw [List.length_append, hgl]; rfl, hgr2, hlt, hdn.cons hfC, ?e4, ?e5, ?e6, rfl⟩)
          case e1 => exact List.forall_mem_cons.mpr ⟨Nat.ne_of_lt d1, mine_ne d4⟩
          case e2 => exact List.forall_mem_cons.mpr ⟨hCG, hfG⟩
          case e3 => exact List.forall_mem_cons.mpr ⟨hCp, hfp⟩
          case e4 => exact fun h => absurd (Nat.lt_of_succ_lt_succ h) hr3
          case e5 => intro _; cases hqs; rfl
          case e6 =>
            exact Nat.le_trans (Nat.succ_le_succ (Nat.le_trans htr (Nat.add_le_add_left hcur _))) hbn
      · have hv0b : (vh == 0) = false := by rw [beq_eq_false_iff_ne]; exact Int.ne_of_gt hv0
        have hcl : cv.length < 10000 := by
          exact Nat.lt_of_le_of_lt (Nat.le_trans (Nat.le_of_eq hcv.length) (Nat.le_trans hcur hpw.1)) (by decide)
        have hrow2 : cur ++ vh :: rest' = (cur ++ [vh]) ++ rest' := by simp
        k_steps
        refine Hold.out ?_
        try dsimp only
        refine gen_toks fun tkh => ?_
        rename Fr _ _ _ _ => F25
        rename News _ _ _ _ => N25
        refine append_N F25 N25 (UpdF.head (List.forall_mem_cons.mpr ⟨Ne.symm hCG, List.forall_mem_cons.mpr ⟨Ne.symm hCp, hfC⟩⟩)) hcl ?_
        intro h26 F26 N26
        k_steps
        refine Hold.out ?_
        try dsimp only
        refine gen_toks fun tkh => ?_
        rename Fr _ _ _ _ => F27
        rename News _ _ _ _ => N27
        refine len_N N27 (.tail _ (.head _)) hsz (fit63 hr4) ?_
        have hcv2 : IntsAre (cv ++ [.int vh t24]) (cur ++ [vh]) := hcv.append (.cons _ _ .nil)
        by_cases hr3 : r < 3
        · have hr6 : (((r : Nat) : Int) == 3) = false := by rw [beq_eq_false_iff_ne]; exact fun e => absurd (Int.ofNat_inj.mp (show ((r : Nat) : Int) = ((3 : Nat) : Int) from e)) (Nat.ne_of_lt hr3)
          rw [if_pos hr3] at hnx
          by_cases hvt : vh < 256
          · k_steps
            refine Hold.out ?_
            try dsimp only
            refine gen_toks fun tkh => ?_
            refine wpAny_call ?_
            rename Fr _ _ _ _ => F28
            rename News _ _ _ _ => N28
            k_dflt (refine' push_spec (x := x) (d := d) (p := p) (f1 := f1) ?B8 F28 ?X8 N28 ?T8 ?hk8 ?hdp8 ?hun8 ?hinst8 ?hdm8 ?hod8 (UpdF.tail hCp (UpdF.tail hGp (UpdF.head hfp))) hql ?_)
            case B8 => k_asm
            case X8 => k_asm
            case T8 => k_asm
            case hk8 => exact rfl
            case hdp8 => exact room1 (k := 1) (b := 60) hdp (Nat.le_of_ble_eq_true rfl)
            case hun8 => exact room1 (k := 3) (b := 600) hun (Nat.le_of_ble_eq_true rfl)
            case hinst8 => exact .tail _ (.tail _ (.tail _ (hinst')))
            case hdm8 => exact .tail _ (.tail _ (.tail _ (hdm')))
            case hod8 => exact ⟨_, _, _, _, _, _, rfl⟩
            intro h29 tk29 F29 N29
            k_steps
            rename Fr _ _ _ _ => F30
            rename News _ _ _ _ => N30
            refine qw _ _ (TurnEnd.mk (50 - (tr + 1)) F30 N30 hs50 ⟨C, G, cv ++ [.int vh t24], gv, qvs ++ [.str (spS bits vh) tq], _, _, _, r, tr + 1, cur ++ [vh], rest', dn, _, rfl, rfl, rfl, rfl, rfl, rfl, rfl, rfl, hCG, hCp, hGp, hfC, hfG, hfp, hcv2, hgl, hgr, hr4, hdn, ?e4, ?e5, ?e6, rfl⟩)
            case e4 =>
              intro _
              refine ⟨hrow.trans hrow2, ?_⟩
              rw [if_pos hr3, roundL_app]
              have : roundL [n0, n1, n2] [R0, R1, R2] [vh] = [vh] := by
                show (if vh < 256 then [vh] else _) ++ [] = _
                rw [if_pos hvt]; rfl
              rw [this, hnx, ← List.cons_append, ← List.append_assoc, List.map_append]
              exact strsAre_snoc hqs _ _
            case e5 => exact ne4 hlt
            case e6 => rw [List.length_append]; exact Nat.succ_le_succ htr
          · have hvn := rowsL_mem (names := [n0, n1, n2]) (rules := [R0, R1, R2]) (P := fun x => x ∈ [n0, n1, n2] ∨ x < 256) hz.sym (l := [n0]) (List.forall_mem_cons.mpr ⟨.inl (.head _), List.forall_mem_nil _⟩) r vh (by rw [hrow]; exact List.mem_append_right _ (.head _))
            obtain ⟨jx, rj, rvj, mj, Rj, hkf, hjl, hjr, hjm, hji, hjR, hje⟩ : ∃ (jx : Nat) (rj : Addr) (rvj : List Value) (mj : Nat) (Rj : List Int), kf_at vh [Value.int n0 t0, .int n1 t1, .int n2 t2] = some jx ∧ jx < 3 ∧ [Value.ref r0, .ref r1, .ref r2][((jx : Nat) : Int).toNat]? = some (.ref rj) ∧ (rj, W.listOf rvj.toArray mj) ∈ dn ++ fix ∧ IntsAre rvj Rj ∧ Rj ∈ [R0, R1, R2] ∧ roundL [n0, n1, n2] [R0, R1, R2] [vh] = Rj := by
              have hnd := hz.nodup
              simp only [List.nodup_cons, List.mem_cons, List.not_mem_nil, or_false, not_or] at hnd
              have hex : ∀ j, [n0, n1, n2].idxOf vh = j → roundL [n0, n1, n2] [R0, R1, R2] [vh] = [R0, R1, R2].getD j [] := by
                intro j hj
                show (if vh < 256 then [vh] else _) ++ [] = _
                rw [if_neg hvt, hj, List.append_nil]
              have hm := hvn.resolve_right hvt
              simp only [List.mem_cons, List.not_mem_nil, or_false] at hm
              rcases hm with rfl | rfl | rfl
              · exact ⟨0, r0, rv0, m0, R0, by rw [kf3, if_pos rfl], by decide, rfl, hr0', hi0, .head _, hex 0 (by simp)⟩
              · exact ⟨1, r1, rv1, m1, R1, by rw [kf3, if_neg hnd.1.1, if_pos rfl], by decide, rfl, hr1', hi1, .tail _ (.head _), hex 1 (by simp only [List.idxOf_cons, beq_eq_false_iff_ne.mpr hnd.1.1, beq_self_eq_true, cond_false, cond_true])⟩
              · exact ⟨2, r2, rv2, m2, R2, by rw [kf3, if_neg hnd.1.2, if_neg hnd.2.1, if_pos rfl], by decide, rfl, hr2', hi2, .tail _ (.tail _ (.head _)), hex 2 (by simp only [List.idxOf_cons, beq_eq_false_iff_ne.mpr hnd.1.2, beq_eq_false_iff_ne.mpr hnd.2.1, beq_self_eq_true, cond_false, cond_true])⟩
            k_steps
            refine Hold.out ?_
            try dsimp only
            refine gen_toks fun tkh => ?_
            refine wpAny_mono (E := fun _ _ => False) (wpAny_For ?_ (by intro _; rfl)) (fun _ _ x => x) fun _ _ x => x.elim
            k_steps
            refine Hold.out ?_
            try dsimp only
            refine gen_toks fun tkh => ?_
            rename News _ _ _ _ => N28
            refine kf_index N28 (.tail _ (.tail _ (.tail _ hK'))) rfl hkf rfl (by rw [sizeLine_eq]; exact Nat.le_of_ble_eq_true rfl) ?_
            k_steps
            rename Fr _ _ _ _ => F31
            rename News _ _ _ _ => N31
            have hRjl := hRlen Rj hjR
            have hkm := N31 _ (.tail _ (.tail _ (.tail _ hjm)))
            have hlN := news_lt N31
            have hlp := hlN _ (.tail _ (.tail _ (.head _)))
            refine wpAny_pyIter_list (items := rvj.toArray) (PySem.IsL.isList (n := mj) hkm.1) ?_
            k_dflt (refine' for_list ?hh ?h1 ?h2 F31 N31 (.tail _ (.tail _ (.tail _ hjm))) ?hsh (fun k m' news' => ∃ qk nQk tt', m' (Str.ofString "lexer") = some (.ref x) ∧ m' (Str.ofString "names") = some (.ref K) ∧ m' (Str.ofString "rules") = some (.ref Rl) ∧ m' (Str.ofString "bits") = some (.int bits tb) ∧ m' (Str.ofString "rows") = some (.ref G) ∧ m' (Str.ofString "row") = some (.ref C) ∧ m' (Str.ofString "turns") = some (.int ((tr + 1 : Nat) : Int) tt') ∧ news' = (C, W.listOf (cv ++ [Value.int vh t24]).toArray (nC + 1)) :: (G, W.listOf gv.toArray nG) :: (p, W.listOf qk.toArray nQk) :: (dn ++ fix) ∧ StrsAre qk (((rest' ++ 0 :: nx) ++ Rj.take k).map (spS bits))) ⟨_, _, _, rfl, rfl, rfl, rfl, rfl, rfl, rfl, rfl, ?hq0⟩ ?hJw ?turn ?done)
            case hh => exact rfl
            case h1 => exact rfl
            case h2 => exact rfl
            case hsh => exact rfl
            case hq0 => rw [List.take_zero, List.append_nil]; exact hqs
            case hJw =>
              rintro k m' news' ⟨qk, nQk, tt', _, _, _, _, _, _, _, rfl, _⟩ q hq
              simp only [List.mem_cons] at hq
              rcases hq with rfl | rfl | rfl | hq
              · exact Nat.ne_of_lt (hlN _ (.head _))
              · exact Nat.ne_of_lt (hlN _ (.tail _ (.head _)))
              · exact Nat.ne_of_lt hlp
              · exact Nat.ne_of_lt (hlN _ (.tail _ (.tail _ (.tail _ hq))))
            case done =>
              rintro m' news' h tk ⟨qk, nQk, tt', y1, y2, y3, y4, y5, y6, y7, rfl, hqk⟩ F32 N32
              rw [loc7 y1 y2 y3 y4 y5 y6 y7 (fun y _ _ _ _ _ _ _ => rfl)] at F32
              k_steps
              rename Fr _ _ _ _ => F33
              rename News _ _ _ _ => N33
              refine qw _ _ (TurnEnd.mk (50 - (tr + 1)) F33 N33 hs50 ⟨C, G, cv ++ [.int vh t24], gv, qk, _, _, _, r, tr + 1, cur ++ [vh], rest', dn, _, rfl, rfl, rfl, rfl, rfl, rfl, rfl, rfl, hCG, hCp, hGp, hfC, hfG, hfp, hcv2, hgl, hgr, hr4, hdn, ?e4, ?e5, ?e6, rfl⟩)
              case e4 =>
                intro _
                refine ⟨hrow.trans hrow2, ?_⟩
                rw [if_pos hr3, roundL_app, hje, hnx]
                rw [hji.length, List.take_length, List.append_assoc, List.cons_append] at hqk
                exact hqk
              case e5 => exact ne4 hlt
              case e6 => rw [List.length_append]; exact Nat.succ_le_succ htr
            case turn =>
              rintro k v m' news' own h tk hv ⟨qk, nQk, tt', y1, y2, y3, y4, y5, y6, y7, rfl, hqk⟩ hown hexx F32 N32
              refine gen_Q fun Pf qf => ?_
              rw [loc7 y1 y2 y3 y4 y5 y6 y7 (fun y _ _ _ _ _ _ _ => rfl)] at F32
              obtain ⟨sy, tsy, hsy, rfl⟩ := ints_at hji hv
              have hsyb := hRsym Rj hjR sy (List.mem_of_getElem? hsy)
              have hinst2 := List.mem_append_left own hinst'
              have hdm2 := List.mem_append_left own hdm'
              have hownp : ∀ q ∈ (dn ++ fix) ++ own, q.1 ≠ p := by
                intro q hq
                rcases List.mem_append.mp hq with hq | hq
                · exact hfp q hq
                · rcases hown q hq with h | h <;> rw [h]
                  · exact hfp _ hjm
                  · exact Ne.symm (Nat.ne_of_lt (hlN _ (.tail _ (.tail _ (.head _)))))
              have hqkl : qk.length < 10000 := by
                have h1 := hqk.length
                rw [List.length_map, List.length_append, List.length_take] at h1
                exact Nat.lt_of_le_of_lt (Nat.le_trans (Nat.le_of_eq h1) (Nat.add_le_add (Nat.le_of_succ_le hqb) (Nat.le_trans (Nat.min_le_right _ _) hRjl))) (by decide)
              k_steps
              refine Hold.out ?_
              try dsimp only
              refine gen_toks fun tkh => ?_
              rename Fr _ _ _ _ => F34
              rename News _ _ _ _ => N34
              k_dflt (refine' spelled_spec ?B9 F34 ?X9 N34 ?T9 ?hk9 ?hdp9 ?hun9 (.head _) (.cons _ _ .nil) ?hlen9 ?hrow9 hb0 hb1 ?_)
              case B9 => k_asm
              case X9 => k_asm
              case T9 => k_asm
              case hk9 => exact rfl
              case hdp9 => exact room1 (k := 1) (b := 20) hdp (Nat.le_of_ble_eq_true rfl)
              case hun9 => exact room1 (k := 3) (b := 200) hun (Nat.le_of_ble_eq_true rfl)
              case hlen9 => exact Nat.le_of_ble_eq_true rfl
              case hrow9 => exact List.forall_mem_cons.mpr ⟨⟨Int.le_of_lt hsyb.1, hsyb.2⟩, List.forall_mem_nil _⟩
              intro h35 tk35 t35 F35 N35
              replace N35 := news_drop0 N35
              k_steps
              refine Hold.out ?_
              try dsimp only
              refine gen_toks fun tkh => ?_
              refine wpAny_call ?_
              rename Fr _ _ _ _ => F36
              rename News _ _ _ _ => N36
              k_dflt (refine' push_spec (x := x) (d := d) (p := p) (f1 := f1) ?BA F36 ?XA N36 ?TA ?hkA ?hdpA ?hunA ?hinstA ?hdmA ?hodA (UpdF.tail hCp (UpdF.tail hGp (UpdF.head hownp))) hqkl ?_)
              case BA => k_asm
              case XA => k_asm
              case TA => k_asm
              case hkA => exact rfl
              case hdpA => exact room1 (k := 1) (b := 60) hdp (Nat.le_of_ble_eq_true rfl)
              case hunA => exact room1 (k := 3) (b := 600) hun (Nat.le_of_ble_eq_true rfl)
              case hinstA => exact .tail _ (.tail _ (.tail _ (hinst2)))
              case hdmA => exact .tail _ (.tail _ (.tail _ (hdm2)))
              case hodA => exact ⟨_, _, _, _, _, _, rfl⟩
              intro h37 tk37 F37 N37
              k_steps
              rename Fr _ _ _ _ => F38
              rename News _ _ _ _ => N38
              refine qf _ _ (LEnd.mk ((_, _) :: (_, _) :: (_, _) :: (dn ++ fix)) F38 N38 ⟨qk ++ [.str (spS bits sy) t35], _, _, rfl, rfl, rfl, rfl, rfl, rfl, rfl, rfl, ?_⟩)
              rw [List.take_add_one, hsy, ← List.append_assoc, List.map_append]
              exact strsAre_snoc hqk _ _
        · have hr6 : (((r : Nat) : Int) == 3) = true := by rw [Nat.le_antisymm (Nat.le_of_lt_succ hlt) (Nat.not_lt.mp hr3)]; rfl
          rw [if_neg hr3] at hnx
          k_steps
          rename Fr _ _ _ _ => F30
          rename News _ _ _ _ => N30
          refine qw _ _ (TurnEnd.mk (50 - (tr + 1)) F30 N30 hs50 ⟨C, G, cv ++ [.int vh t24], gv, qvs, _, _, _, r, tr + 1, cur ++ [vh], rest', dn, _, rfl, rfl, rfl, rfl, rfl, rfl, rfl, rfl, hCG, hCp, hGp, hfC, hfG, hfp, hcv2, hgl, hgr, hr4, hdn, ?e4, ?e5, ?e6, rfl⟩)
          case e4 =>
            intro _
            refine ⟨hrow.trans hrow2, ?_⟩
            rw [if_neg hr3, hnx]
            exact hqs
          case e5 => exact ne4 hlt
          case e6 => rw [List.length_append]; exact Nat.succ_le_succ htr
  · have hr5 : ¬ ((r : Nat) : Int) < 4 := fun h => hlt (Int.ofNat_lt.mp h)
    k_steps
    refine Hold.out ?_
    try dsimp only
    refine gen_toks fun tkh => ?_
    rename News _ _ _ _ => N15
    refine len_N N15 (.tail _ (.head _)) hsz (fit63 hr4) ?_
    k_steps
    refine pz _ _ ?_
    k_steps
    rename Fr h₀ L _ _ => F40
    rename News h₀ L _ _ => N40
    have hr44 : r = 4 := Nat.le_antisymm hr4 (Nat.not_lt.mp hlt)
    rw [hend hr44] at N40
    exact ret _ _ G gv _ _ dn F40 (news_drop0 N40) hdn hfG hGp hfp (hgl.trans hr44) (fun i hi => hgr i (Nat.lt_of_lt_of_le hi (Nat.le_of_eq hr44.symm)))
end
section
variable {prog : Program} {w : World} {loose : List Str} {mean : ExcName → Option Value} {mg mb : Str → Option Value} {dp un : Nat} {gd : Option (List Code)} {cn : Str} {cs : Scope} {a : Addr} {ccd : Value} {cl : List (Str × Addr)} {outer : List Env} {A₀ : Around} {base h₀ : Heap} {L : Addr} {m : Str → Option Value} {news : List (Addr × Obj)} {s : Shared} {Q E : Value → Shared → Prop}
theorem kf3b {n a b c : Int} {t u v : Tok} : kf_at n [.int a t, .int b u, .int c v] = if a = n then some 0 else if b = n then some 1 else if c = n then some 2 else none := by
  have e : ∀ (x : Int) (y : Tok), isInt n (.int x y) = decide (x = n) := fun x y => by show (x == n) = _; rw [Bool.eq_iff_iff]; simp
  simp only [kf_at, e]
  by_cases h1 : a = n
  · simp [h1]
  · by_cases h2 : b = n
    · simp [h1, h2]
    · by_cases h3 : c = n
      · simp [h1, h2, h3]
      · simp [h1, h2, h3]
theorem any3' {n a b c : Int} {t u v : Tok} : [Value.int a t, .int b u, .int c v].any (isInt n) = decide (n ∈ [a, b, c]) := by
  rw [any3]; exact decide_eq_decide.mpr (by simp)
theorem kf_idx {v n0 n1 n2 : Int} {t u w : Tok} (hm : v ∈ [n0, n1, n2]) : ∃ jx, kf_at v [Value.int n0 t, .int n1 u, .int n2 w] = some jx ∧ [n0, n1, n2].idxOf v = jx ∧ jx < 3 := by
  rw [kf3b]
  simp only [List.idxOf_cons]
  by_cases h1 : n0 = v
  · subst h1; exact ⟨0, by simp, by simp, by decide⟩
  · by_cases h2 : n1 = v
    · subst h2
      refine ⟨1, by rw [if_neg h1, if_pos rfl], ?_, by decide⟩
      simp only [beq_eq_false_iff_ne.mpr h1, beq_self_eq_true, cond_false, cond_true]
    · simp only [List.mem_cons, List.not_mem_nil, or_false] at hm
      have h3 : n2 = v := by
        rcases hm with h | h | h
        · exact absurd h.symm h1
        · exact absurd h.symm h2
        · exact h.symm
      subst h3
      refine ⟨2, by rw [if_neg h1, if_neg h2, if_pos rfl], ?_, by decide⟩
      simp only [beq_eq_false_iff_ne.mpr h1, beq_eq_false_iff_ne.mpr h2, beq_self_eq_true, cond_false, cond_true]
/-- a symbol's height pair is in the list `(z, ..)` -/
theorem height_spec {K H : Addr} {kv hv : List Value} {nk nh : Nat} {n0 n1 n2 v : Int} {hs : List (Int × Int)} {t : Tok}
   (B : Below A₀ base outer h₀) (F : Fr h₀ L s.heap m) (X : (hd.heap_1 w.params).In h₀) (N : News h₀ L s.heap news)
   (T : Top topProg loose mean mg mb h₀) (hk : cs.kind = .function)  (hdp : dp + 20 < recursionLimit) (hun : un + 200 < cLine)
   (hK : (K, W.listOf kv.toArray nk) ∈ news) (hkv : IntsAre kv [n0, n1, n2]) (hH : (H, W.listOf hv.toArray nh) ∈ news)
   (hhs : ∀ (i : Nat) (q : Int × Int), hs[i]? = some q → ∃ a nn u1 u2, hv[i]? = some (Value.ref a) ∧ (a, W.listOf [Value.int q.1 u1, .int q.2 u2].toArray nn) ∈ news) (hhl : hs.length = 3)
   (ret : ∀ h' tk' a nn u1 u2 new', Fr h₀ L h' m → News h₀ L h' (new' ++ news) → (a, W.listOf [Value.int (heightL [n0, n1, n2] hs v).1 u1, .int (heightL [n0, n1, n2] hs v).2 u2].toArray nn) ∈ new' ++ news → Q (.ref a) { s with heap := h', toks := tk' }) :
   wpAny (model prog w) (ktrTop dp un gd cn cs L a ccd cl outer) (call (.ref 165) [.int v t, .ref K, .ref H]) Q E s := by
  obtain ⟨t0, t1, t2, rfl⟩ := ints3 hkv
  refine wpAny_call ?_
  k_dflt cell_enter
  k_steps
  refine Hold.out ?_
  try dsimp only
  refine gen_toks fun tkh => ?_
  rename News _ _ _ _ => N1
  by_cases hvn : v ∈ [n0, n1, n2]
  · refine kf_in N1 hK rfl (any3'.trans (decide_eq_true hvn)) ?_
    k_steps
    refine Hold.out ?_
    try dsimp only
    refine gen_toks fun tkh => ?_
    rename News _ _ _ _ => N2
    obtain ⟨jx, hkf, hji, hjl⟩ := kf_idx (t := t0) (u := t1) (w := t2) hvn
    refine kf_index N2 hK rfl hkf rfl (by rw [sizeLine_eq]; exact Nat.le_of_ble_eq_true rfl) ?_
    obtain ⟨q, hq⟩ : ∃ q, hs[jx]? = some q := ⟨hs[jx], List.getElem?_eq_getElem (by omega)⟩
    obtain ⟨a, nn, u1, u2, ha, hm⟩ := hhs jx q hq
    have ha' : hv[((jx : Nat) : Int).toNat]? = some (Value.ref a) := ha
    k_steps
    rename Fr h₀ L _ _ => F9
    rename News h₀ L _ _ => N9
    have hqe : heightL [n0, n1, n2] hs v = q := by
      unfold heightL
      rw [if_pos hvn, hji, List.getD_eq_getElem?_getD, hq]; rfl
    refine ret _ _ a nn u1 u2 [] F9 N9 ?_
    rw [hqe]; exact hm
  · refine kf_in N1 hK rfl (any3'.trans (decide_eq_false hvn)) ?_
    k_steps
    · rename Fr h₀ L _ _ => F9
      rename News h₀ L _ _ => N9
      rename v = 7 => h7
      subst h7
      refine ret _ _ _ ?nn0 ?ua0 ?ub0 [_] F9 N9 ?mem0
      case mem0 =>
       unfold heightL
       rw [if_neg hvn, if_pos rfl]
       exact .head _
    · rename Fr h₀ L _ _ => F9
      rename News h₀ L _ _ => N9
      rename v = 8 => h8
      subst h8
      refine ret _ _ _ ?nn1 ?ua1 ?ub1 [_] F9 N9 ?mem1
      case mem1 =>
       unfold heightL
       rw [if_neg hvn, if_neg (by decide), if_pos rfl]
       exact .head _
    · rename Fr h₀ L _ _ => F9
      rename News h₀ L _ _ => N9
      rename v ≠ 8 => h8
      rename v ≠ 7 => h7
      refine ret _ _ _ ?nn2 ?ua2 ?ub2 [_] F9 N9 ?mem2
      case mem2 =>
       unfold heightL
       rw [if_neg hvn, if_neg h7, if_neg h8]
       exact .head _
theorem joined_spec {Rr K H : Addr} {rv kv hv : List Value} {nr nk nh : Nat} {n0 n1 n2 : Int} {R : List Int} {hs : List (Int × Int)}
   (B : Below A₀ base outer h₀) (F : Fr h₀ L s.heap m) (X : (hd.heap_1 w.params).In h₀) (N : News h₀ L s.heap news)
   (T : Top topProg loose mean mg mb h₀) (hk : cs.kind = .function)  (hdp : dp + 40 < recursionLimit) (hun : un + 400 < cLine)
   (hRr : (Rr, W.listOf rv.toArray nr) ∈ news) (hrv : IntsAre rv R)
   (hK : (K, W.listOf kv.toArray nk) ∈ news) (hkv : IntsAre kv [n0, n1, n2]) (hH : (H, W.listOf hv.toArray nh) ∈ news)
   (hhs : ∀ (i : Nat) (q : Int × Int), hs[i]? = some q → ∃ a nn u1 u2, hv[i]? = some (Value.ref a) ∧ (a, W.listOf [Value.int q.1 u1, .int q.2 u2].toArray nn) ∈ news) (hhl : hs.length = 3)
   (ret : ∀ h' tk' a nn u1 u2, Fr h₀ L h' m → News h₀ L h' ((a, W.listOf [Value.int (joinL [n0, n1, n2] hs R).1 u1, .int (joinL [n0, n1, n2] hs R).2 u2].toArray nn) :: news) → (∀ q ∈ news, q.1 < a) → Q (.ref a) { s with heap := h', toks := tk' }) :
   wpAny (model prog w) (ktrTop dp un gd cn cs L a ccd cl outer) (call (.ref 172) [.ref Rr, .ref K, .ref H]) Q E s := by
  refine wpAny_call ?_
  k_dflt cell_enter
  k_steps
  refine Hold.out ?_
  try dsimp only
  refine gen_toks fun tkh => ?_
  refine wpAny_mono (E := fun _ _ => False) (wpAny_For ?_ (by intro _; rfl)) (fun _ _ x => x) fun _ _ x => x.elim
  k_steps
  rename Fr _ _ _ _ => F1
  rename News _ _ _ _ => N1
  have hlN := news_lt N1
  have hkm := N1 _ hRr
  refine wpAny_pyIter_list (items := rv.toArray) (PySem.IsL.isList (n := nr) hkm.1) ?_
  k_dflt (refine' for_list ?hh ?h1 ?h2 F1 N1 hRr ?hsh (fun k m' news' => ∃ q tl te, m' (Str.ofString "names") = some (.ref K) ∧ m' (Str.ofString "heights") = some (.ref H) ∧ m' (Str.ofString "low") = some (.int q.1 tl) ∧ m' (Str.ofString "end") = some (.int q.2 te) ∧ news' = news ∧ (R.drop k).foldl (fun p x => (min p.1 (p.2 + (heightL [n0, n1, n2] hs x).1), p.2 + (heightL [n0, n1, n2] hs x).2)) q = joinL [n0, n1, n2] hs R) ⟨(0, 0), _, _, rfl, rfl, rfl, rfl, rfl, rfl⟩ ?hJw ?turn ?done)
  case hh => exact rfl
  case h1 => exact rfl
  case h2 => exact rfl
  case hsh => exact rfl
  case hJw =>
    rintro k m' news' ⟨q, tl, te, _, _, _, _, rfl, _⟩ p hp
    exact Nat.ne_of_lt (hlN p hp)
  case done =>
    rintro m' news' h tk ⟨q, tl, te, y1, y2, y3, y4, rfl, hq⟩ F2 N2
    rw [loc4 y1 y2 y3 y4 (fun y _ _ _ _ => rfl)] at F2
    rw [hrv.length, List.drop_length] at hq
    have hq' : q = joinL [n0, n1, n2] hs R := hq
    subst hq'
    have hlt := news_lt N2
    k_steps
    rename Fr h₀ L _ _ => F9
    rename News h₀ L _ _ => N9
    exact ret _ _ _ _ _ _ F9 N9 (by assumption)
  case turn =>
    rintro k v m' news' own h tk hv2 ⟨q, tl, te, y1, y2, y3, y4, rfl, hq⟩ hown hexx F2 N2
    refine gen_Q fun Pf qf => ?_
    rw [loc4 y1 y2 y3 y4 (fun y _ _ _ _ => rfl)] at F2
    obtain ⟨sy, tsy, hsy, rfl⟩ := ints_at hrv hv2
    k_steps
    refine Hold.out ?_
    try dsimp only
    refine gen_toks fun tkh => ?_
    rename Fr _ _ _ _ => F3
    rename News _ _ _ _ => N3
    k_dflt (refine' height_spec (hs := hs) ?B F3 ?X N3 ?T ?hk ?hdp ?hun (List.mem_append_left _ hK) hkv (List.mem_append_left _ hH) ?hhs hhl ?_)
    case B => k_asm
    case X => k_asm
    case T => k_asm
    case hk => exact rfl
    case hdp => exact room1 (k := 1) (b := 20) hdp (Nat.le_of_ble_eq_true rfl)
    case hun => exact room1 (k := 3) (b := 200) hun (Nat.le_of_ble_eq_true rfl)
    case hhs =>
      intro i q hq
      obtain ⟨a, nn, u1, u2, e1, e2⟩ := hhs i q hq
      exact ⟨a, nn, u1, u2, e1, List.mem_append_left _ e2⟩
    intro h4 tk4 a4 nn4 u1 u2 new4 F4 N4 hm4
    k_steps
    rename Fr _ _ _ _ => F5
    rename News _ _ _ _ => N5
    rw [drop_at hsy] at hq
    refine qf _ _ (LEnd.mk _ F5 (fun p hp => N5 p (List.mem_append_right _ hp)) ⟨(_, _), _, _, rfl, rfl, rfl, rfl, rfl, ?_⟩)
    have hmin : (if q.2 + (heightL [n0, n1, n2] hs sy).1 < q.1 then q.2 + (heightL [n0, n1, n2] hs sy).1 else q.1) = min q.1 (q.2 + (heightL [n0, n1, n2] hs sy).1) := by split <;> omega
    exact (congrArg (fun z => List.foldl (fun p x => (min p.1 (p.2 + (heightL [n0, n1, n2] hs x).1), p.2 + (heightL [n0, n1, n2] hs x).2)) (z, q.2 + (heightL [n0, n1, n2] hs sy).2) (List.drop (k + 1) R)) hmin).trans hq
end
section
open PySem PySem.W PyProof.Rows PyProof.Rows.LCg PySem.Calls PySem.Spec
section
variable {prog : Program} {w : World} {A : Around} {E : Value → Shared → Prop} {s : Shared} {h₀ : Heap} {L : Addr} {m : Str → Option Value} {env : Env}
noncomputable def ListEnd (h₀ : Heap) (L : Addr) (m : Str → Option Value) (s : Shared) (I : Addr) (oI : Obj) (C : Addr) (oC : Obj) (D : Addr) (oD : Obj) (rest : List (Addr × Obj)) (xs : List Int) (y : Value) (s₂ : Shared) : Prop :=
  ∃ h' tk' a rv nn, y = .ref a ∧ s₂ = { s with heap := h', toks := tk' } ∧ Fr h₀ L h' m ∧ News h₀ L h' ((I, oI) :: (C, oC) :: (D, oD) :: (a, W.listOf rv.toArray nn) :: rest) ∧ IntsAre rv xs ∧ (@Ne Nat a I) ∧ (@Ne Nat a C) ∧ (@Ne Nat a D) ∧ (∀ q ∈ rest, q.1 ≠ a)
theorem ListEnd.mk {s : Shared} {I C D a : Addr} {oI oC oD : Obj} {rest all : List (Addr × Obj)} {xs : List Int} {h' : Heap} {tk' : Nat} {rv : List Value} {nn : Nat} (F : Fr h₀ L h' m) (N : News h₀ L h' all) (hs : ∀ p ∈ (I, oI) :: (C, oC) :: (D, oD) :: (a, W.listOf rv.toArray nn) :: rest, p ∈ all) (hi : IntsAre rv xs)
    (h1 : @Ne Nat a I) (h2 : @Ne Nat a C) (h3 : @Ne Nat a D) (h4 : ∀ q ∈ rest, q.1 ≠ a) : ListEnd h₀ L m s I oI C oC D oD rest xs (.ref a) { s with heap := h', toks := tk' } := ⟨_, _, _, _, _, rfl, rfl, F, fun p hp => N p (hs p hp), hi, h1, h2, h3, h4⟩
theorem ListEnd.mk2 {s : Shared} {I C D a : Addr} {oI oC oD : Obj} {x1 x2 : Addr × Obj} {rest : List (Addr × Obj)} {xs : List Int} {h' : Heap} {tk' : Nat} {rv : List Value} {nn : Nat} (F : Fr h₀ L h' m) (N : News h₀ L h' ((a, W.listOf rv.toArray nn) :: x1 :: x2 :: (I, oI) :: (C, oC) :: (D, oD) :: rest)) (hi : IntsAre rv xs)
    (hne : ∀ p ∈ x1 :: x2 :: (I, oI) :: (C, oC) :: (D, oD) :: rest, p.1 ≠ a) : ListEnd h₀ L m s I oI C oC D oD rest xs (.ref a) { s with heap := h', toks := tk' } :=
  ListEnd.mk (nn := nn) F N (fun p hp => by
    simp only [List.mem_cons] at hp ⊢
    rcases hp with h | h | h | h | h <;> simp [h]) hi (Ne.symm (hne _ (.tail _ (.tail _ (.head _))))) (Ne.symm (hne _ (.tail _ (.tail _ (.tail _ (.head _)))))) (Ne.symm (hne _ (.tail _ (.tail _ (.tail _ (.tail _ (.head _))))))) (fun q hq => hne q (.tail _ (.tail _ (.tail _ (.tail _ (.tail _ hq))))))
theorem ListEnd.mk0 {s : Shared} {I C D a : Addr} {oI oC oD : Obj} {rest : List (Addr × Obj)} {xs : List Int} {h' : Heap} {tk' : Nat} {rv : List Value} {nn : Nat} (F : Fr h₀ L h' m) (N : News h₀ L h' ((a, W.listOf rv.toArray nn) :: (I, oI) :: (C, oC) :: (D, oD) :: rest)) (hi : IntsAre rv xs)
    (hne : ∀ p ∈ (I, oI) :: (C, oC) :: (D, oD) :: rest, p.1 ≠ a) : ListEnd h₀ L m s I oI C oC D oD rest xs (.ref a) { s with heap := h', toks := tk' } :=
  ListEnd.mk (nn := nn) F N (fun p hp => by
    simp only [List.mem_cons] at hp ⊢
    rcases hp with h | h | h | h | h <;> simp [h]) hi (Ne.symm (hne _ (.head _))) (Ne.symm (hne _ (.tail _ (.head _)))) (Ne.symm (hne _ (.tail _ (.tail _ (.head _))))) (fun q hq => hne q (.tail _ (.tail _ (.tail _ hq))))
noncomputable def Rows3 (n : Nat) (f : Nat → List Int) (ys : List Value) (ents : List (Addr × Obj)) : Prop := ys.length = n ∧ (∀ j < n, ∃ a rv nn, ys[j]? = some (Value.ref a) ∧ (a, W.listOf rv.toArray nn) ∈ ents ∧ IntsAre rv (f j)) ∧ (∀ q ∈ ents, ∃ xs n, q.2 = W.listOf xs n)
theorem Rows3.snoc {n : Nat} {f : Nat → List Int} {ys : List Value} {ents : List (Addr × Obj)} {a : Addr} {rv : List Value} {nn : Nat} (h : Rows3 n f ys ents) (hi : IntsAre rv (f n)) : Rows3 (n + 1) f (ys ++ [.ref a]) ((a, W.listOf rv.toArray nn) :: ents) := by
  refine ⟨by rw [List.length_append, h.1]; rfl, fun j hj => ?_, List.forall_mem_cons.mpr ⟨⟨_, _, rfl⟩, h.2.2⟩⟩
  rcases Nat.lt_or_ge j n with h1 | h1
  · obtain ⟨a', rv', nn', e1, e2, e3⟩ := h.2.1 j h1
    exact ⟨a', rv', nn', by rw [List.getElem?_append_left (by rw [h.1]; exact h1)]; exact e1, .tail _ e2, e3⟩
  · have : j = n := by omega
    subst this
    exact ⟨a, rv, nn, by rw [List.getElem?_append_right (by rw [h.1]; exact Nat.le_refl _), h.1, Nat.sub_self]; rfl, .head _, hi⟩
theorem len3 {α : Type} : ∀ {l : List α}, l.length = 3 → ∃ a b c, l = [a, b, c]
  | [a, b, c], _ => ⟨a, b, c, rfl⟩
theorem Rows3.three {f : Nat → List Int} {ys : List Value} {ents : List (Addr × Obj)} (h : Rows3 3 f ys ents) : ∃ a0 a1 a2 rv0 rv1 rv2 m0 m1 m2, ys = [Value.ref a0, .ref a1, .ref a2] ∧ (a0, W.listOf rv0.toArray m0) ∈ ents ∧ (a1, W.listOf rv1.toArray m1) ∈ ents ∧ (a2, W.listOf rv2.toArray m2) ∈ ents ∧ IntsAre rv0 (f 0) ∧ IntsAre rv1 (f 1) ∧ IntsAre rv2 (f 2) := by
  obtain ⟨hl, h, _⟩ := h
  obtain ⟨a0, rv0, m0, e0, i0, j0⟩ := h 0 (by decide)
  obtain ⟨a1, rv1, m1, e1, i1, j1⟩ := h 1 (by decide)
  obtain ⟨a2, rv2, m2, e2, i2, j2⟩ := h 2 (by decide)
  clear h
  obtain ⟨x, y, z, rfl⟩ := len3 hl
  cases e0; cases e1; cases e2
  exact ⟨a0, a1, a2, rv0, rv1, rv2, m0, m1, m2, rfl, i0, i1, i2, j0, j1, j2⟩
theorem list_ne_cell {h : Heap} {led fix : List (Addr × Obj)} {c : Addr} {o : Obj} {v : Option Value} (N : News h₀ L h led) (hq : ∀ q ∈ fix, ∃ xs n, q.2 = W.listOf xs n) (hs : ∀ q ∈ fix, q ∈ led) (hc : (c, o) ∈ led) (hd : o.data = .cell v) : ∀ q ∈ fix, q.1 ≠ c := by
  intro q hqm e
  obtain ⟨xs, n, hx⟩ := hq q hqm
  have h1 := (N q (hs q hqm)).1
  have h2 := (N _ hc).1
  rw [e, h2, hx] at h1
  have h3 : o = W.listOf xs n := Option.some.inj h1
  rw [h3] at hd
  cases hd
theorem comp_lists {elt : Expr} {x : Str} {scope : Scope} {cl : List (Str × Addr)} {S : List (Addr × Obj) → Prop} {P : Nat → Value → Prop} {Fin : List Value → List (Addr × Obj) → Prop} {led : List (Addr × Obj)} (n : Nat) (f : Nat → List Int)
    (hS : ∀ ents, S (led ++ ents))
    (turn : ∀ i v ys ents I oI C oC D m₂ h tk (E' : Value → Shared → Prop), i < n → P i v → Rows3 i f ys ents → NsObj oC m₂ → m₂ x = some v → Fr h₀ L h m → News h₀ L h ((I, oI) :: (C, oC) :: (D, lst ys) :: (led ++ ents)) → Off3 I C D (led ++ ents) → ((@Ne Nat I C) ∧ (@Ne Nat I D) ∧ (@Ne Nat C D)) →
      wpAny (model prog w) A (eval elt (compEnvC scope cl C env)) (ListEnd h₀ L m { s with heap := h, toks := tk } I oI C oC D (lst ys) (led ++ ents) (f i)) E' { s with heap := h, toks := tk })
    (fin : ∀ ys ents, Rows3 n f ys ents → (∀ e ∈ ents, ∀ q ∈ led, q.1 ≠ e.1) → Fin ys (led ++ ents)) :
    CompRest prog w A h₀ L m env elt x scope cl s S P Fin n 0 [] led := by
  refine compRest_inv n (fun i ys news => ∃ ents, news = led ++ ents ∧ Rows3 i f ys ents ∧ ∀ e ∈ ents, ∀ q ∈ led, q.1 ≠ e.1) ?_ ?_ n 0 [] led (Nat.zero_add _) ⟨[], (List.append_nil _).symm, ⟨rfl, (fun j hj => absurd hj (Nat.not_lt_zero _)), List.forall_mem_nil _⟩, List.forall_mem_nil _⟩
  · rintro i v ys news I oI C oC D m₂ h tk E' hi hP ⟨ents, rfl, hR, hE⟩ hn hm F N off hne
    refine wpAny_mono (turn i v ys ents I oI C oC D m₂ h tk E' hi hP hR hn hm F N off hne) (fun y s₂ h₂ => ?_) fun _ _ z => z
    obtain ⟨h', tk', a, rv, nn, rfl, rfl, F', N', hi', a1, a2, a3, a4⟩ := h₂
    refine LCg.CompEnd.intro F' N' (led ++ ((a, W.listOf rv.toArray nn) :: ents)) (fun p hp => ?_) (Off3.of fun p hp => ?_) (hS _) ⟨_, rfl, hR.snoc hi', List.forall_mem_cons.mpr ⟨fun q hq => a4 q (List.mem_append_left _ hq), hE⟩⟩
    · simp only [List.mem_cons, List.mem_append] at hp ⊢
      rcases hp with h | h | h | h | h | h <;> simp [h]
    · rcases List.mem_append.mp hp with hp | hp
      · exact off.mem p (List.mem_append_left _ hp)
      · rcases List.mem_cons.mp hp with rfl | hp
        · exact ⟨a1, a2, a3⟩
        · exact off.mem p (List.mem_append_right _ hp)
  · rintro ys news ⟨ents, rfl, hR, hE⟩
    exact fin ys ents hR hE
noncomputable def StrEnd (h₀ : Heap) (L : Addr) (m : Str → Option Value) (s : Shared) (rest : List (Addr × Obj)) (x : Str) (y : Value) (s₂ : Shared) : Prop :=
  ∃ h' tk' t, y = .str x t ∧ s₂ = { s with heap := h', toks := tk' } ∧ Fr h₀ L h' m ∧ News h₀ L h' rest
theorem StrEnd.mk {s : Shared} {rest all : List (Addr × Obj)} {x : Str} {t : Tok} {h' : Heap} {tk' : Nat} (F : Fr h₀ L h' m) (N : News h₀ L h' all) (hs : ∀ p ∈ rest, p ∈ all) : StrEnd h₀ L m s rest x (.str x t) { s with heap := h', toks := tk' } := ⟨_, _, _, rfl, rfl, F, fun p hp => N p (hs p hp)⟩
theorem comp_strs {elt : Expr} {x : Str} {scope : Scope} {cl : List (Str × Addr)} {S : List (Addr × Obj) → Prop} {P : Nat → Value → Prop} {Fin : List Value → List (Addr × Obj) → Prop} {led : List (Addr × Obj)} (xs : List Str) (hS : S led)
    (turn : ∀ i v ys c I oI C oC D m₂ h tk (E' : Value → Shared → Prop), xs[i]? = some c → P i v → NsObj oC m₂ → m₂ x = some v → Fr h₀ L h m → News h₀ L h ((I, oI) :: (C, oC) :: (D, lst ys) :: led) → Off3 I C D led → ((@Ne Nat I C) ∧ (@Ne Nat I D) ∧ (@Ne Nat C D)) →
      wpAny (model prog w) A (eval elt (compEnvC scope cl C env)) (StrEnd h₀ L m { s with heap := h, toks := tk } ((I, oI) :: (C, oC) :: (D, lst ys) :: led) c) E' { s with heap := h, toks := tk })
    (fin : ∀ ys, StrsAre ys xs → Fin ys led) :
    CompRest prog w A h₀ L m env elt x scope cl s S P Fin xs.length 0 [] led := by
  refine compRest_inv xs.length (fun i ys news => news = led ∧ StrsAre ys (xs.take i)) ?_ ?_ xs.length 0 [] led (Nat.zero_add _) ⟨rfl, .nil⟩
  · rintro i v ys news I oI C oC D m₂ h tk E' hi hP ⟨rfl, hR⟩ hn hm F N off hne
    refine wpAny_mono (turn i v ys xs[i] I oI C oC D m₂ h tk E' (List.getElem?_eq_getElem hi) hP hn hm F N off hne) (fun y s₂ h₂ => ?_) fun _ _ z => z
    obtain ⟨h', tk', t, rfl, rfl, F', N'⟩ := h₂
    refine LCg.CompEnd.intro F' N' _ (fun p hp => hp) off hS ⟨rfl, ?_⟩
    rw [List.take_add_one, List.getElem?_eq_getElem hi]
    exact strsAre_snoc hR _ _
  · rintro ys news ⟨rfl, hR⟩
    rw [List.take_length] at hR
    exact fin ys hR
end
end
section
variable {prog : Program} {w : World} {loose : List Str} {mean : ExcName → Option Value} {mg mb : Str → Option Value} {dp un : Nat} {gd : Option (List Code)} {cn : Str} {cs : Scope} {a : Addr} {ccd : Value} {cl : List (Str × Addr)} {outer : List Env} {A₀ : Around} {base h₀ : Heap} {L : Addr} {m : Str → Option Value} {news : List (Addr × Obj)} {s : Shared} {Q E : Value → Shared → Prop}
noncomputable def txtS (bits : Int) (R : List Int) : Str := ⟨(signsF bits 0 ((R ++ [0]).flatMap figs)).toArray⟩
theorem writtenS_len {J : Str} {b : Bool} (h : J.length ≤ 40) : (writtenS J b).length ≤ 4096 := by
  have h0 : J.cps.toList.length ≤ 40 := by rw [Array.length_toList]; exact h
  have h1 := rep_len (c := 92) (a := 92) (b := 92) J.cps.toList
  have h2 := rep_len (c := 34) (a := 92) (b := 34) (rep 92 [92, 92] J.cps.toList)
  have h3 := shw_len (shownL J) 4
  have h4 : (shownL J).length ≤ 160 := by show (rep 34 _ _).length ≤ _; omega
  unfold writtenS
  cases b with
  | true =>
    simp only [if_true]
    show (shw 4 (shownL J)).toArray.size ≤ _
    rw [List.size_toArray]
    omega
  | false =>
    simp only [Bool.false_eq_true, if_false]
    show (34 :: shownL J ++ [34]).toArray.size ≤ _
    rw [List.size_toArray]
    simp only [List.length_append, List.length_cons, List.length_nil]
    omega
theorem writtenS_tok {J : Str} {b : Bool} (h : J.cps.toList ≠ []) : tokAt (writtenS J b).cps.toList 0 J.cps.toList := by
  unfold writtenS
  cases b with
  | true => exact tok_bare _ h
  | false => exact tok_quoted _
theorem obj_ne {h : Heap} {led : List (Addr × Obj)} {a b : Addr} {o1 o2 : Obj} (N : News h₀ L h led) (h1 : (a, o1) ∈ led) (h2 : (b, o2) ∈ led) (hne : o1 ≠ o2) : a ≠ b := by
  intro e
  have e1 := (N _ h1).1
  have e2 := (N _ h2).1
  have e1' : h.get? a = some o1 := e1
  have e2' : h.get? b = some o2 := e2
  rw [e, e2'] at e1'
  exact hne (Option.some.inj e1').symm
theorem cell_tab {o : Obj} {v : Option Value} {ps : Array Value} (d : o.data = .cell v) : o ≠ tabObj ps := fun e => by rw [e] at d; cases d
theorem list_tab {o : Obj} {ps : Array Value} (d : ∃ xs n, o = W.listOf xs n) : o ≠ tabObj ps := fun e => by obtain ⟨xs, n, d⟩ := d; rw [e] at d; cases d
theorem same_strs : ∀ xs : List Str, PySem.Spec.sameAll (xs.map PyData.str) (xs.map PyData.str) = true
  | [] => by simp [PySem.Spec.sameAll]
  | x :: r => by simp [PySem.Spec.sameAll, PySem.Spec.same, same_strs r]
theorem carried_strs : ∀ {vs : List Value} {xs : List Str}, StrsAre vs xs → CarriedAll vs (xs.map PyData.str)
  | _, _, .nil => .nil
  | _, _, .cons _ t r => .cons (.str _ t) (carried_strs r)
theorem shaped_strs (xs : List Str) (hok : ∀ x ∈ xs, PyData.strOk x = true) : SeqAt.shaped (.list (xs.map PyData.str)) = true := by
  have h1 : PyData.canLayAll0 (xs.map PyData.str) = true := by
    induction xs with
    | nil => rfl
    | cons x r ih =>
      rw [List.forall_mem_cons] at hok
      simp [PyData.canLayAll0, PyData.canLay0, ih hok.2, hok.1]
  have h2 : ∀ xs : List Str, PyData.depthAll (xs.map PyData.str) = 0 := by
    intro xs
    induction xs with
    | nil => rfl
    | cons x r ih => simp [PyData.depthAll, PyData.depth, ih]
  simp [SeqAt.shaped, PyData.canLay0, PyData.depth, h1, h2]
theorem ne_strs {A : Around} {E : Value → Shared → Prop} {a b : Addr} {xs ys : List Value} {zs : List Str} {n1 n2 : Nat} {Q : Value → Shared → Prop} (N : News h₀ L s.heap news) (ha : (a, W.listOf xs.toArray n1) ∈ news) (hb : (b, W.listOf ys.toArray n2) ∈ news) (hi : StrsAre xs zs) (hj : StrsAre ys zs) (hok : ∀ x ∈ zs, PyData.strOk x = true) (hu : A.units + 64 < cLine) (h : Q (.bool false) s) :
    wpAny (model prog w) A (compareOp .NotEq (.ref a) (.ref b)) Q E s :=
  ne_dataH_same (reads_newData (PySem.IsL.isList (n := n1) (N _ ha).1) (carried_strs hi)) (reads_newData (PySem.IsL.isList (n := n2) (N _ hb).1) (carried_strs hj)) (shaped_strs _ hok) (shaped_strs _ hok) hu
    (SeqAt.noMix_of_shape (.list .str) rfl _ _ (list_map_has fun _ => rfl) (list_map_has fun _ => rfl)) (by
      have e : PySem.Spec.same (.list (zs.map PyData.str)) (.list (zs.map PyData.str)) = true := by simp only [PySem.Spec.same]; exact same_strs zs
      rw [e]; exact h)
theorem signsF_lt {bits : Int} : ∀ (l : List Int) (k : Nat), (∀ o ∈ l, 0 ≤ o ∧ o < 128) → ∀ c ∈ signsF bits k l, c < 256
  | [], _, _, c, hc => by simp [signsF] at hc
  | o :: r, k, h, c, hc => by
    rw [List.forall_mem_cons] at h
    rcases List.mem_cons.mp (show c ∈ signC bits k o :: signsF bits (k + 1) r from hc) with rfl | hc
    · unfold signC
      split <;> omega
    · exact signsF_lt r (k + 1) h.2 c hc
theorem txtS_ok {bits : Int} (R : List Int) : PyData.strOk (txtS bits R) = true := by
  show (signsF bits 0 ((R ++ [0]).flatMap figs)).toArray.all (· < 0x110000) = true
  rw [← Array.all_toList, List.all_eq_true]
  intro c hc
  have h1 : ∀ o ∈ (R ++ [0]).flatMap figs, 0 ≤ o ∧ o < 128 := fun o ho => by
    obtain ⟨x, _, hx⟩ := List.mem_flatMap.mp ho
    exact figs_range hx
  have h2 : c ∈ signsF bits 0 ((R ++ [0]).flatMap figs) := hc
  have := signsF_lt _ 0 h1 c h2
  simp only [decide_eq_true_eq]; omega
theorem ne_rows {A : Around} {E : Value → Shared → Prop} {a b a0 a1 a2 b0 b1 b2 : Addr} {r0 r1 r2 q0 q1 q2 : List Value} {R0 R1 R2 : List Int} {n n0 n1 n2 k k0 k1 k2 : Nat} {Q : Value → Shared → Prop} (N : News h₀ L s.heap news)
    (ha : (a, W.listOf [Value.ref a0, .ref a1, .ref a2].toArray n) ∈ news) (ha0 : (a0, W.listOf r0.toArray n0) ∈ news) (ha1 : (a1, W.listOf r1.toArray n1) ∈ news) (ha2 : (a2, W.listOf r2.toArray n2) ∈ news) (hi0 : IntsAre r0 R0) (hi1 : IntsAre r1 R1) (hi2 : IntsAre r2 R2)
    (hb : (b, W.listOf [Value.ref b0, .ref b1, .ref b2].toArray k) ∈ news) (hb0 : (b0, W.listOf q0.toArray k0) ∈ news) (hb1 : (b1, W.listOf q1.toArray k1) ∈ news) (hb2 : (b2, W.listOf q2.toArray k2) ∈ news) (hj0 : IntsAre q0 R0) (hj1 : IntsAre q1 R1) (hj2 : IntsAre q2 R2)
    (hu : A.units + 64 < cLine) (h : Q (.bool false) s) : wpAny (model prog w) A (compareOp .NotEq (.ref a) (.ref b)) Q E s := by
  have rd : ∀ {x : Addr} {vs : List Value} {ns : List Int} {m : Nat}, (x, W.listOf vs.toArray m) ∈ news → IntsAre vs ns → Reads s.heap (.ref x) (.list (ns.map PyData.int)) [x] := fun hm hi => reads_newData (PySem.IsL.isList (N _ hm).1) (ke_carried hi)
  have hra : Reads s.heap (.ref a) (.list [.list (R0.map PyData.int), .list (R1.map PyData.int), .list (R2.map PyData.int)]) _ := reads_list_at (N _ ha).1 rfl rfl (.cons (rd ha0 hi0) (.cons (rd ha1 hi1) (.cons (rd ha2 hi2) .nil)))
  have hrb : Reads s.heap (.ref b) (.list [.list (R0.map PyData.int), .list (R1.map PyData.int), .list (R2.map PyData.int)]) _ := reads_list_at (N _ hb).1 rfl rfl (.cons (rd hb0 hj0) (.cons (rd hb1 hj1) (.cons (rd hb2 hj2) .nil)))
  have hsh : SeqAt.shaped (.list [.list (R0.map PyData.int), .list (R1.map PyData.int), .list (R2.map PyData.int)]) = true := by
    simp [SeqAt.shaped, PyData.canLay0, PyData.canLayAll0, PyData.depth, PyData.depthAll, ke_canLayAll0, ke_depthAll]
  refine ne_dataH hra hrb hsh hsh hu ?_
  have e : PyData.eqv (.list [.list (R0.map PyData.int), .list (R1.map PyData.int), .list (R2.map PyData.int)]) (.list [.list (R0.map PyData.int), .list (R1.map PyData.int), .list (R2.map PyData.int)]) = true := by
    simp [PyData.eqv, PyData.eqvAll, ked_eqvAll]
  rw [e]; exact h
end
section
variable {prog : Program} {w : World} {loose : List Str} {mean : ExcName → Option Value} {mg mb : Str → Option Value} {dp un : Nat} {gd : Option (List Code)} {cn : Str} {cs : Scope} {a : Addr} {ccd : Value} {cl : List (Str × Addr)} {outer : List Env} {A₀ : Around} {base h₀ : Heap} {L : Addr} {m : Str → Option Value} {news : List (Addr × Obj)} {s : Shared} {Q E : Value → Shared → Prop}
/-- the ledger without some addresses -/
noncomputable def without (as : List Nat) (l : List (Addr × Obj)) : List (Addr × Obj) := l.filter fun q => !(as.any fun a => Nat.beq q.1 a)
theorem without_ne {as : List Nat} {l : List (Addr × Obj)} {a : Nat} (ha : a ∈ as) : ∀ q ∈ without as l, @Ne Nat q.1 a := by
  intro q hq e
  have h := (List.mem_filter.mp hq).2
  have h2 : (as.any fun a => Nat.beq q.1 a) = true := List.any_eq_true.mpr ⟨a, ha, by rw [e]; exact Nat.beq_refl a⟩
  rw [h2] at h; cases h
theorem without_mem {as : List Nat} {l : List (Addr × Obj)} {q : Addr × Obj} (hq : q ∈ l) (hn : ∀ a ∈ as, @Ne Nat q.1 a) : q ∈ without as l := by
  refine List.mem_filter.mpr ⟨hq, ?_⟩
  cases h : as.any fun a => Nat.beq q.1 a
  · rfl
  · obtain ⟨a, ha, hb⟩ := List.any_eq_true.mp h
    exact absurd (Nat.eq_of_beq_eq_true hb) (hn a ha)
theorem without_news {h : Heap} {as : List Nat} {l : List (Addr × Obj)} (N : News h₀ L h l) : News h₀ L h (without as l) := fun p hp => N p (List.mem_filter.mp hp).1
theorem names_ok {c0 c1 c2 m op : Int} {kinds : List Int} (hk : [256, 257 + m, 258 + m, 7, 8, op] = kinds) (hm : 0 ≤ m) (ho : op < 256) (R0 R1 R2 : List Int) (h0 : ∀ x ∈ R0, x ∈ kinds) (h1 : ∀ x ∈ R1, x ∈ kinds) (h2 : ∀ x ∈ R2, x ∈ kinds) : NamesOk [256, 257 + m, 258 + m] [R0, R1, R2] := by
  have hs : ∀ x ∈ kinds, x ∈ [256, 257 + m, 258 + m] ∨ x < 256 := by
    rw [← hk]
    intro x hx
    simp only [List.mem_cons, List.not_mem_nil, or_false] at hx ⊢
    omega
  refine ⟨rfl, ?_, ?_, ?_⟩
  · simp only [List.nodup_cons, List.mem_cons, List.not_mem_nil, or_false, not_or, List.nodup_nil, and_true, not_false_eq_true]
    omega
  · intro n hn
    simp only [List.mem_cons, List.not_mem_nil, or_false] at hn
    omega
  · intro r hr x hx
    simp only [List.mem_cons, List.not_mem_nil, or_false] at hr
    rcases hr with rfl | rfl | rfl
    · exact hs x (h0 x hx)
    · exact hs x (h1 x hx)
    · exact hs x (h2 x hx)
theorem news_two {h : Heap} {d l : Addr} {od ol : Obj} {led : List (Addr × Obj)} (N : News h₀ L h led) (m1 : (d, od) ∈ led) (m2 : (l, ol) ∈ led) : News h₀ L h ((d, od) :: (l, ol) :: without [d, l] led) := fun p hp => by
  simp only [List.mem_cons] at hp
  rcases hp with rfl | rfl | hp
  · exact N _ m1
  · exact N _ m2
  · exact without_news N p hp
theorem news_three {h : Heap} {a b c : Addr} {oa ob oc : Obj} {led : List (Addr × Obj)} (N : News h₀ L h led) (m1 : (a, oa) ∈ led) (m2 : (b, ob) ∈ led) (m3 : (c, oc) ∈ led) : News h₀ L h ((a, oa) :: (b, ob) :: (c, oc) :: without [a, b, c] led) := fun p hp => by
  simp only [List.mem_cons] at hp
  rcases hp with rfl | rfl | rfl | hp
  · exact N _ m1
  · exact N _ m2
  · exact N _ m3
  · exact without_news N p hp
theorem two_ne {q : Addr × Obj} {a b : Addr} (h1 : q.1 ≠ a) (h2 : q.1 ≠ b) : ∀ c ∈ ([a, b] : List Nat), @Ne Nat q.1 c := fun c hc => by
  rcases List.mem_cons.mp hc with rfl | hc
  · exact h1
  · rw [List.mem_singleton.mp hc]; exact h2
theorem three_ne {q : Addr × Obj} {a b c : Addr} (h1 : q.1 ≠ a) (h2 : q.1 ≠ b) (h3 : q.1 ≠ c) : ∀ z ∈ ([a, b, c] : List Nat), @Ne Nat q.1 z := fun z hz => by
  rcases List.mem_cons.mp hz with rfl | hz
  · exact h1
  · rcases List.mem_cons.mp hz with rfl | hz
    · exact h2
    · rw [List.mem_singleton.mp hz]; exact h3
theorem lex_of2 {text : Str} {x d l p f1 Ds f2 : Addr} {ods : Obj} {fd1 : FuncData} {own fy : List (Addr × Obj)} (hx : (x, instObj 87 d) ∈ fy) (hnd : ∀ q ∈ fy, q.1 ≠ d) (hnl : ∀ q ∈ fy, q.1 ≠ l) (hld : l ≠ d) (hl : text.length ≤ 4096)
    (s1 : FnDict ods "read" (.ref f2)) (s2 : (Ds, ods) ∈ own) (s3 : (f1, ({ cls := .type "function", dict := some Ds, data := .func fd1 } : Obj)) ∈ own) (s4 : ReadOk prog w loose mean mg mb text f2 l own) (s5 : ∃ oc od fd sl, (f2, (⟨oc, od, .func fd, sl⟩ : Obj)) ∈ own) (hs : ∀ q ∈ own, q ∈ fy) :
    LexFix prog w loose mean mg mb text x d l p f1 fy := by
  obtain ⟨a1, a2, a3, a4, a5⟩ := s5
  exact ⟨hx, ⟨Ds, ods, f2, fd1, own, s1, hs _ s2, hs _ s3, fun q hq => hs _ hq, s4, a1, a2, a3, a4, hs _ a5⟩, hnd, hnl, hld, hl⟩
theorem phaseB {h : Heap} {a b c ds : Addr} {oa ob oc ods : Obj} {va vb vc : Option Value} {t1 t2 : Addr × Obj} {fy : List (Addr × Obj)} (N : News h₀ L h ((ds, ods) :: t1 :: t2 :: fy)) (ma : (a, oa) ∈ fy) (mb' : (b, ob) ∈ fy) (mc : (c, oc) ∈ fy) (da : oa.data = .cell va) (db : ob.data = .cell vb) (dc : oc.data = .cell vc) (hds : ∀ q ∈ t1 :: t2 :: fy, q.1 < ds) :
    ∃ fz, News h₀ L h ((a, oa) :: (b, ob) :: (c, oc) :: fz) ∧ (∀ q ∈ fz, q.1 ≠ a) ∧ (∀ q ∈ fz, q.1 ≠ b) ∧ (∀ q ∈ fz, q.1 ≠ c) ∧ (ds, ods) ∈ fz ∧ (∀ q ∈ fy, (∃ xs n, q.2 = W.listOf xs n) → q ∈ fz) ∧ (∀ q ∈ fy, (∃ ps, q.2 = tabObj ps) → q ∈ fz) ∧ (∀ q ∈ fy, q.1 ≠ a → q.1 ≠ b → q.1 ≠ c → q ∈ fz) := by
  have up : ∀ q ∈ fy, q ∈ (ds, ods) :: t1 :: t2 :: fy := fun q hq => .tail _ (.tail _ (.tail _ hq))
  have lst_ne : ∀ q ∈ fy, (∃ xs n, q.2 = W.listOf xs n) → ∀ {e : Addr} {o : Obj} {v : Option Value}, (e, o) ∈ fy → o.data = .cell v → q.1 ≠ e := fun q hq hx e o v he hd => by
    refine obj_ne (o1 := q.2) N (up q hq) (up _ he) ?_
    intro e2
    obtain ⟨xs, n, hx⟩ := hx
    rw [← e2, hx] at hd
    cases hd
  have tab_ne : ∀ q ∈ fy, (∃ ps, q.2 = tabObj ps) → ∀ {e : Addr} {o : Obj} {v : Option Value}, (e, o) ∈ fy → o.data = .cell v → q.1 ≠ e := fun q hq hx e o v he hd => by
    refine obj_ne (o1 := q.2) N (up q hq) (up _ he) ?_
    intro e2
    obtain ⟨ps, hx⟩ := hx
    rw [← e2, hx] at hd
    cases hd
  refine ⟨_, news_three N (up _ ma) (up _ mb') (up _ mc), without_ne (.head _), without_ne (.tail _ (.head _)), without_ne (.tail _ (.tail _ (.head _))), ?_, ?_, ?_, ?_⟩
  · exact without_mem (.head _) (three_ne (Ne.symm (Nat.ne_of_lt (hds _ (.tail _ (.tail _ ma))))) (Ne.symm (Nat.ne_of_lt (hds _ (.tail _ (.tail _ mb'))))) (Ne.symm (Nat.ne_of_lt (hds _ (.tail _ (.tail _ mc))))))
  · exact fun q hq hx => without_mem (up q hq) (three_ne (lst_ne q hq hx ma da) (lst_ne q hq hx mb' db) (lst_ne q hq hx mc dc))
  · exact fun q hq hx => without_mem (up q hq) (three_ne (tab_ne q hq hx ma da) (tab_ne q hq hx mb' db) (tab_ne q hq hx mc dc))
  · exact fun q hq h1 h2 h3 => without_mem (up q hq) (three_ne h1 h2 h3)
end
section
open PySem PySem.W PyProof.Rows PyProof.Rows.LCg PySem.Calls PySem.Spec
theorem turn_in (elt t1 iter1 : Expr) (g0 : Comprehension) (scope : Scope) (pos : Pos) (it acc : Value) (env : Env) :
    compTurn (.ListComp elt [g0, ⟨t1, iter1, [], 0⟩] scope pos) 1 it acc env = (do
      standAt iter1.pos
      match ← pyNext it with
      | none => pure (.done .next)
      | some v =>
        letOwnedTupleGo t1 it v
        assign t1 env v
        let mut ok := true
        for c in ([] : List Expr) do
          if ok then ok ← isTrue c env (eval c env)
        if ok then
          (do let _ ← call (.builtin "list.append") [acc, ← eval elt env])
        again (.compLoop (.ListComp elt [g0, ⟨t1, iter1, [], 0⟩] scope pos) 1 it acc env)) := by rfl
theorem turn_out (elt t0 iter0 t1 iter1 : Expr) (scope : Scope) (pos : Pos) (it acc : Value) (env : Env) :
    compTurn (.ListComp elt [⟨t0, iter0, [], 0⟩, ⟨t1, iter1, [], 0⟩] scope pos) 0 it acc env = (do
      standAt iter0.pos
      match ← pyNext it with
      | none => pure (.done .next)
      | some v =>
        letOwnedTupleGo t0 it v
        assign t0 env v
        let mut ok := true
        for c in ([] : List Expr) do
          if ok then ok ← isTrue c env (eval c env)
        if ok then
          let x ← eval iter1 env
          standAt iter1.pos
          let x ← foldedSetIterable iter1 env x
          let _ ← runOwn (.compStart (.ListComp elt [⟨t0, iter0, [], 0⟩, ⟨t1, iter1, [], 0⟩] scope pos) 1 (← holding [x] (pyIter x)) acc env) env
        again (.compLoop (.ListComp elt [⟨t0, iter0, [], 0⟩, ⟨t1, iter1, [], 0⟩] scope pos) 0 it acc env)) := by rfl
section
variable {prog : Program} {w : World} {A : Around} {E : Value → Shared → Prop} {R : Result → Shared → Prop} {s : Shared}
theorem loop_in {elt t1 iter1 : Expr} {g0 : Comprehension} {scope : Scope} {pos : Pos} {it acc : Value} {env : Env} (I : Nat → Shared → Prop)
    (turn : ∀ n s, I n s → wpAny (model prog w) A (pyNext it) (fun r s₁ => match r with
      | none => R (.ok .next) s₁
      | some v => wpAny (model prog w) A (assign t1 env v) (fun _ s₂ =>
          wpAny (model prog w) A (eval elt env) (fun x s₄ => wpAny (model prog w) A (call (.builtin "list.append") [acc, x]) (fun _ s₅ => ∃ m, m < n ∧ I m s₅) (fun _ _ => False) s₄) (fun _ _ => False) s₂) (fun _ _ => False) s₁) (fun _ _ => False) s)
    (n : Nat) (h : I n s) (ht : ∀ v, letOwnedTupleGo t1 it v = pure () := by intro _; rfl) :
    codeAny (model prog w) A (.compLoop (.ListComp elt [g0, ⟨t1, iter1, [], 0⟩] scope pos) 1 it acc env) R s := by
  refine codeAny_loop rfl I (fun n s hI => ?_) n h
  show wpAny _ A ((compTurn (.ListComp elt [g0, ⟨t1, iter1, [], 0⟩] scope pos) 1 it acc env).onRaise (fun x => do noteFrame x env; theTreesLotGoes x)) _ _ s
  refine wpAny_noted ?_
  rw [turn_in]
  refine wpAny_bind (wpAny_standAt (wpAny_bind (wpAny_mono (turn n s hI) (fun r s₁ h₁ => ?_) fun _ _ h' => h'.elim)))
  cases r with
  | none => exact wpAny_pure h₁
  | some v =>
    refine wpAny_bind (wpAny_of_eq (ht v) ?_)
    refine wpAny_bind (wpAny_mono h₁ (fun _ s₂ h₂ => wpAny_bind (wpAny_tests_nil ?_)) fun _ _ h' => h'.elim)
    exact wpAny_bind (wpAny_bind (wpAny_mono h₂ (fun x s₄ h₄ => wpAny_bind (wpAny_mono h₄ (fun _ s₅ h₅ => wpAny_pure (wpAny_pure ⟨rfl, h₅⟩)) fun _ _ h' => h'.elim)) fun _ _ h' => h'.elim))
theorem start_in {elt t1 iter1 : Expr} {g0 : Comprehension} {scope : Scope} {pos : Pos} {it acc : Value} {env : Env}
    (h0 : codeAny (model prog w) A (.compLoop (.ListComp elt [g0, ⟨t1, iter1, [], 0⟩] scope pos) 1 it acc env) R s)
    (h : wpAny (model prog w) A (pyIter it) (fun it' s' => codeAny (model prog w) A (.compLoop (.ListComp elt [g0, ⟨t1, iter1, [], 0⟩] scope pos) 1 it' acc env) R s') (fun _ _ => False) s) :
    codeAny (model prog w) A (.compStart (.ListComp elt [g0, ⟨t1, iter1, [], 0⟩] scope pos) 1 it acc env) R s := by
  refine codeAny_of_tree ?_
  show wpAny _ _ ((compStart (.ListComp elt [g0, ⟨t1, iter1, [], 0⟩] scope pos) 1 it acc env).onRaise (fun x => do noteFrame x env; standAt theWindowsPlace)) _ _ s
  refine wpAny_notedAt ?_
  unfold compStart
  show wpAny _ _ (ask >>= _) _ _ s
  refine wpAny_bind (wpAny_askSetting (wpAny_ite ?_))
  split
  · first
      | exact wpAny_bind (wpAny_pure (wpAny_pure (And.intro rfl h0)))
      | exact wpAny_pure (And.intro rfl h0)
  · first
      | exact wpAny_bind (wpAny_rule (wpAny_bind (wpAny_standAt (wpAny_bind (wpAny_mono h (fun it' s' h' => wpAny_pure (And.intro rfl h')) fun _ _ x => x.elim)))))
      | (refine wpAny_bind (wpAny_rule ?_); show wpAny _ _ (standAt iter1.pos >>= _) _ _ s; exact wpAny_bind (wpAny_standAt (wpAny_bind (wpAny_mono h (fun it' s' h' => wpAny_pure (And.intro rfl h')) fun _ _ x => x.elim))))
theorem loop_out {elt t0 iter0 t1 iter1 : Expr} {scope : Scope} {pos : Pos} {it acc : Value} {env : Env} (I : Nat → Shared → Prop)
    (turn : ∀ n s, I n s → wpAny (model prog w) A (pyNext it) (fun r s₁ => match r with
      | none => R (.ok .next) s₁
      | some v => wpAny (model prog w) A (assign t0 env v) (fun _ s₂ =>
          wpAny (model prog w) A (eval iter1 env) (fun x s₃ => wpAny (model prog w) A (pyIter x) (fun it1 s₄ =>
            codeAny (model prog w) A (.compStart (.ListComp elt [⟨t0, iter0, [], 0⟩, ⟨t1, iter1, [], 0⟩] scope pos) 1 it1 acc env) (fun r s₅ => r = .ok .next ∧ ∃ m, m < n ∧ I m s₅) s₄) (fun _ _ => False) s₃) (fun _ _ => False) s₂) (fun _ _ => False) s₁) (fun _ _ => False) s)
    (n : Nat) (h : I n s) (ht : ∀ v, letOwnedTupleGo t0 it v = pure () := by intro _; rfl) (hf : ∀ x, foldedSetIterable iter1 env x = pure x := by intro _; rfl) :
    codeAny (model prog w) A (.compLoop (.ListComp elt [⟨t0, iter0, [], 0⟩, ⟨t1, iter1, [], 0⟩] scope pos) 0 it acc env) R s := by
  refine codeAny_loop rfl I (fun n s hI => ?_) n h
  show wpAny _ A ((compTurn (.ListComp elt [⟨t0, iter0, [], 0⟩, ⟨t1, iter1, [], 0⟩] scope pos) 0 it acc env).onRaise (fun x => do noteFrame x env; theTreesLotGoes x)) _ _ s
  refine wpAny_noted ?_
  rw [turn_out]
  refine wpAny_bind (wpAny_standAt (wpAny_bind (wpAny_mono (turn n s hI) (fun r s₁ h₁ => ?_) fun _ _ h' => h'.elim)))
  cases r with
  | none => exact wpAny_pure h₁
  | some v =>
    refine wpAny_bind (wpAny_of_eq (ht v) ?_)
    refine wpAny_bind (wpAny_mono h₁ (fun _ s₂ h₂ => wpAny_bind (wpAny_tests_nil ?_)) fun _ _ h' => h'.elim)
    refine wpAny_bind (wpAny_mono h₂ (fun x s₃ h₃ => wpAny_bind (wpAny_standAt (wpAny_bind (wpAny_of_eq (hf x) ?_)))) fun _ _ h' => h'.elim)
    refine wpAny_bind (wpAny_holding (wpAny_mono h₃ (fun it1 s₄ h₄ => ?_) fun _ _ h' => h'.elim))
    refine wpAny_bind (wpAny_runOwn (codeAny_mono h₄ fun r s₅ hr => ?_) ?_)
    · obtain ⟨rfl, hm⟩ := hr
      exact wpAny_pure ⟨rfl, hm⟩
    · intro z; cases z
end
end
section
open PySem PySem.W PyProof.Rows PyProof.Rows.LCg PySem.Calls PySem.Spec
/-- what stands between the turns of a comprehension of two clauses -/
structure CS (h₀ : Heap) (L : Addr) (m : Str → Option Value) (led : List (Addr × Obj)) (I ax : Addr) (its : Array Value) (C D : Addr) (i : Nat) (m₂ : Str → Option Value) (zs : List Value) (h : Heap) : Prop where
  F : Fr h₀ L h m
  N : News h₀ L h led
  hD : h.get? D = some (lst zs)
  hC : h.Ns C m₂
  st : h.IsListIter I ax i ∧ h.IsList ax its
/-- the fresh places -/
structure CF (h₀ : Heap) (L : Addr) (led : List (Addr × Obj)) (I ax C D : Addr) : Prop where
  IL : I ≠ L
  CL : C ≠ L
  DL : D ≠ L
  I0 : h₀.get? I = none
  C0 : h₀.get? C = none
  D0 : h₀.get? D = none
  IC : I ≠ C
  ID : I ≠ D
  CD : C ≠ D
  In : ∀ q ∈ led, q.1 ≠ I
  Cn : ∀ q ∈ led, q.1 ≠ C
  Dn : ∀ q ∈ led, q.1 ≠ D
theorem CS.keep {h₀ : Heap} {L : Addr} {m : Str → Option Value} {led : List (Addr × Obj)} {I ax : Addr} {its : Array Value} {C D : Addr} {i : Nat} {m₂ : Str → Option Value} {zs : List Value} {h h' : Heap} (c : CS h₀ L m led I ax its C D i m₂ zs h) {a : Addr}
    (hk : ∀ b o, b ∉ [a] → h.get? b = some o → h'.get? b = some o) (h1 : L ≠ a) (h2 : h₀.get? a = none) (h3 : ∀ q ∈ led, q.1 ≠ a) (h4 : D ≠ a) (h5 : C ≠ a) (h6 : I ≠ a) (h7 : ax ≠ a) : CS h₀ L m led I ax its C D i m₂ zs h' :=
  ⟨fr_but c.F hk h1 h2, news_but c.N hk h3, hk _ _ (by simpa using h4) c.hD, c.hC.at' fun o e => hk _ o (by simpa using h5) e, ⟨c.st.1.at fun o e => hk _ o (by simpa using h6) e, c.st.2.at fun o e => hk _ o (by simpa using h7) e⟩⟩
section
variable {prog : Program} {w : World} {A : Around} {E : Value → Shared → Prop} {s : Shared} {h₀ : Heap} {L : Addr} {m : Str → Option Value} {env : Env}
theorem inner_loop {R : Result → Shared → Prop} {g0 : Comprehension} {y : Str} {py py2 : Pos} {iter1 : Expr} {scope : Scope} {cl : List (Str × Addr)} {pos : Pos} {led : List (Addr × Obj)} {I ax C D I1 l : Addr} {its : Array Value} {i : Nat} {ys rv : List Value} {m₂ : Str → Option Value}
    (hh : A.handled = none) (hkind : scope.kind = .function) (hy : scope.names.lookup y = some .local) (hdb : (y == ("__debug__" : Str)) = false) (f : CF h₀ L led I ax C D) (hax : ∃ o, (ax, o) ∈ led)
    (n1 : L ≠ I1) (n2 : h₀.get? I1 = none) (n3 : ∀ q ∈ led, q.1 ≠ I1) (n4 : D ≠ I1) (n5 : C ≠ I1) (n6 : I ≠ I1) (l1 : l ≠ I1) (l2 : l ≠ C) (l3 : l ≠ D) (hsz : ys.length + rv.length ≤ 10000)
    (c : CS h₀ L m led I ax its C D i m₂ ys s.heap) (st : s.heap.IsListIter I1 l 0 ∧ s.heap.IsList l rv.toArray)
    (done : ∀ h tk m₃, CS h₀ L m led I ax its C D i m₃ (ys ++ rv) h → R (.ok .next) { s with heap := h, toks := tk }) :
    codeAny (model prog w) A (.compLoop (.ListComp (.Name y py) [g0, ⟨.Name y py2, iter1, [], 0⟩] scope pos) 1 (.ref I1) (.ref D) (compEnvC scope cl C env)) R s := by
  obtain ⟨oax, hoax⟩ := hax
  have hax1 := n3 _ hoax
  have W1 := Walks.list (prog := prog) (w := w) hh I1 l l1 rv.toArray
  refine loop_in (fun n s' => ∃ h tk j m₃, s' = { s with heap := h, toks := tk } ∧ j ≤ rv.length ∧ n = rv.length + 1 - j ∧ CS h₀ L m led I ax its C D i m₃ (ys ++ rv.take j) h ∧ (h.IsListIter I1 l j ∧ h.IsList l rv.toArray)) ?_ (rv.length + 1)
    ⟨s.heap, s.toks, 0, m₂, rfl, Nat.zero_le _, rfl, by simpa using c, st⟩
  rintro n s' ⟨h, tk, j, m₃, rfl, hj, rfl, cj, stj⟩
  rcases Nat.lt_or_ge j rv.length with hlt | hge
  · refine W1.item j _ _ _ (by simpa using hlt) stj fun v h2 tk2 hv st2 hk2 => ?_
    have c2 := cj.keep hk2 n1 n2 n3 n4 n5 n6 hax1
    refine wpAny_assign_Name (wpAny_storeName_local (lookup_relabel_local hy) c2.hC (fun h3 hn3 hs3 => ?_) (by simp [compEnvC, relabel, hkind]))
    replace hs3 : Heap.SameBut C h2 h3 := hs3
    have hk3 : ∀ b o, b ≠ C → h2.get? b = some o → h3.get? b = some o := fun b o hb e => hs3.extBut b o hb e
    have F3 := fr_but (I := C) c2.F (fun b o hb e => hk3 b o (by simpa using hb) e) (Ne.symm f.CL) f.C0
    have N3 := news_but (I := C) c2.N (fun b o hb e => hk3 b o (by simpa using hb) e) f.Cn
    have st3 : h3.IsListIter I1 l (j + 1) ∧ h3.IsList l rv.toArray := ⟨st2.1.at fun o e => hk3 _ o (Ne.symm n5) e, st2.2.at fun o e => hk3 _ o l2 e⟩
    have sto : h3.IsListIter I ax i ∧ h3.IsList ax its := ⟨c2.st.1.at fun o e => hk3 _ o f.IC e, c2.st.2.at fun o e => hk3 _ o (f.Cn _ hoax) e⟩
    refine ldVarK (v := v) (x := y) (m := fun z => if z = y then some v else m₃ z) hn3 (if_pos rfl) ?_ hkind (lookup_relabel_local hy) hdb
    have hzl : (ys ++ rv.take j).toArray.size ≤ sizeLine := by
      rw [List.size_toArray, List.length_append, List.length_take, sizeLine_eq]; omega
    refine append_at (hsz := hzl) (hk3 _ _ (Ne.symm f.CD) c2.hD) fun h4 hs4 hD4 => ?_
    have hk4 : ∀ b o, b ≠ D → h3.get? b = some o → h4.get? b = some o := fun b o hb e => hs4.extBut b o hb e
    have hvv : rv[j]? = some v := by simpa using hv
    refine ⟨rv.length + 1 - (j + 1), by omega, h4, _, j + 1, _, rfl, hlt, rfl, ⟨fr_but (I := D) F3 (fun b o hb e => hk4 b o (by simpa using hb) e) (Ne.symm f.DL) f.D0, news_but (I := D) N3 (fun b o hb e => hk4 b o (by simpa using hb) e) f.Dn, ?_, hn3.at' fun o e => hk4 _ o f.CD e, ⟨sto.1.at fun o e => hk4 _ o f.ID e, sto.2.at fun o e => hk4 _ o (f.Dn _ hoax) e⟩⟩, ⟨st3.1.at fun o e => hk4 _ o (Ne.symm n4) e, st3.2.at fun o e => hk4 _ o l3 e⟩⟩
    rw [List.take_add_one, hvv, ← List.append_assoc]
    exact hD4.trans (congrArg some (lst_snoc (ys ++ rv.take j) v))
  · have : j = rv.length := by omega
    subst this
    refine W1.done _ _ _ (by simpa using stj) fun h2 tk2 hk2 => ?_
    rw [List.take_length] at cj
    exact done h2 tk2 m₃ (cj.keep hk2 n1 n2 n3 n4 n5 n6 hax1)
noncomputable def L2End (h₀ : Heap) (L : Addr) (m : Str → Option Value) (s₁ : Shared) (I : Addr) (oI : Obj) (C : Addr) (oC : Obj) (D : Addr) (ys : List Value) (led : List (Addr × Obj)) (xs : List Int) (q : Value) (s₂ : Shared) : Prop :=
  ∃ (h' : Heap) (tk' : Nat) (l : Addr) (rv : List Value) (nn : Nat), q = .ref l ∧ s₂ = { s₁ with heap := h', toks := tk' } ∧ Fr h₀ L h' m ∧ News h₀ L h' ((I, oI) :: (C, oC) :: (D, lst ys) :: (l, W.listOf rv.toArray nn) :: led) ∧ (@Ne Nat l I) ∧ (@Ne Nat l C) ∧ (@Ne Nat l D) ∧ IntsAre rv xs
theorem L2End.mk {s₁ : Shared} {I C D l : Addr} {oI oC : Obj} {ys rv : List Value} {nn : Nat} {led all : List (Addr × Obj)} {xs : List Int} {h' : Heap} {tk' : Nat} (F : Fr h₀ L h' m) (N : News h₀ L h' all) (hs : ∀ p ∈ (I, oI) :: (C, oC) :: (D, lst ys) :: (l, W.listOf rv.toArray nn) :: led, p ∈ all) (h1 : @Ne Nat l I) (h2 : @Ne Nat l C) (h3 : @Ne Nat l D) (hi : IntsAre rv xs) :
    L2End h₀ L m s₁ I oI C oC D ys led xs (.ref l) { s₁ with heap := h', toks := tk' } := ⟨_, _, _, _, _, rfl, rfl, F, fun p hp => N p (hs p hp), h1, h2, h3, hi⟩
noncomputable def Src2 (prog : Program) (w : World) (A : Around) (h₀ : Heap) (L : Addr) (m : Str → Option Value) (env : Env) (x : Str) (iter1 : Expr) (scope : Scope) (cl : List (Str × Addr)) (Q : Value → Shared → Prop) (xv : Value) (s₁ : Shared) : Prop :=
  ∃ (ax : Addr) (its : List Value) (nits : Nat) (led : List (Addr × Obj)) (G : Nat → List Int), xv = .ref ax ∧ Fr h₀ L s₁.heap m ∧ News h₀ L s₁.heap led ∧ (ax, W.listOf its.toArray nits) ∈ led ∧ its.length ≤ 8 ∧ (∀ k, (G k).length ≤ 200) ∧
  (∀ (k : Nat) (v : Value), its[k]? = some v → ∀ (I : Addr) (oI : Obj) (C : Addr) (oC : Obj) (D : Addr) (m₂ : Str → Option Value) (ys : List Value) (h : Heap) (tk : Nat), NsObj oC m₂ → m₂ x = some v → Fr h₀ L h m → News h₀ L h ((I, oI) :: (C, oC) :: (D, lst ys) :: led) → Off3 I C D led → ((@Ne Nat I C) ∧ (@Ne Nat I D) ∧ (@Ne Nat C D)) →
    wpAny (model prog w) A (eval iter1 (compEnvC scope cl C env)) (L2End h₀ L m s₁ I oI C oC D ys led (G k)) (fun _ _ => False) { s₁ with heap := h, toks := tk }) ∧
  (∀ (D : Addr) (ys : List Value) (h : Heap) (tk : Nat), Fr h₀ L h m → News h₀ L h ((D, lst ys) :: led) → (∀ q ∈ led, q.1 ≠ D) → IntsAre ys ((List.range its.length).flatMap G) → Q (.ref D) { s₁ with heap := h, toks := tk })
theorem ListComp2 {x y : Str} {px py py2 : Pos} {iter0 iter1 : Expr} {scope : Scope} {cl : List (Str × Addr)} {pos : Pos} {Q : Value → Shared → Prop} (F₀ : Fr h₀ L s.heap m) (hh : A.handled = none)
    (hclos : closureFor scope env = pure cl) (hcell : ∀ z ∈ scope.names, z.2 ≠ .cell) (hkind : scope.kind = .function)
    (hnames : ∀ z ∈ scope.names, z.2 = .local → scope.names.lookup z.1 = some .local) (hx : scope.names.lookup x = some .local) (hy : scope.names.lookup y = some .local) (hdb : (y == ("__debug__" : Str)) = false)
    (h : wpAny (model prog w) A (eval iter0 env) (Src2 prog w A h₀ L m env x iter1 scope cl Q) E s)
    (hs : ∀ z, foldedSetIterable iter0 env z = pure z := by intro _; rfl) (hs1 : ∀ C z, foldedSetIterable iter1 (compEnvC scope cl C env) z = pure z := by intro _ _; rfl) :
    wpAny (model prog w) A (eval (.ListComp (.Name y py) [⟨.Name x px, iter0, [], 0⟩, ⟨.Name y py2, iter1, [], 0⟩] scope pos) env) Q E s := by
  rw [eval_ListComp]
  refine wpAny_comprehension_free (use := none) rfl hs hclos hkind hnames (wpAny_mono h (fun xv s₁ h₁ => ?_) fun _ _ e => e)
  obtain ⟨ax, its, nits, led, G, rfl, F, N, hm, hn8, hG, turn, fin⟩ := h₁
  have hl : s₁.heap.IsList ax its.toArray := PySem.IsL.isList (n := nits) (N _ hm).1
  have hlt : ax < s₁.heap.objs.size := Heap.lt_size (N _ hm).1
  refine wpAny_pyIter_list hl ?_
  refine wpAny_newObj_type (wpAny_newFunctionEnv hcell (by intro y hy; simp at hy) (fun h₁ hns₁ hsb₁ => ?_) hkind)
  dsimp only at hns₁ hsb₁ ⊢
  have hLI : @LT.lt Nat _ L s₁.heap.objs.size := F.ns.lt
  have hsize1 : (s₁.heap.push { cls := .type "list_iterator", data := .fields #[.ref ax, .int 0 0] }).objs.size = s₁.heap.objs.size + 1 := Heap.size_push ..
  have hsize2 : ((s₁.heap.push { cls := .type "list_iterator", data := .fields #[.ref ax, .int 0 0] }).push { cls := .type "list", dict := none, data := .seq ([] : List Value).toArray }).objs.size = s₁.heap.objs.size + 1 + 1 := (Heap.size_push ..).trans (congrArg (· + 1) hsize1)
  have gI : ((s₁.heap.push { cls := .type "list_iterator", data := .fields #[.ref ax, .int 0 0] }).push { cls := .type "list", dict := none, data := .seq ([] : List Value).toArray }).get? s₁.heap.objs.size = some { cls := .type "list_iterator", data := .fields #[.ref ax, .int 0 0] } := Heap.get?_push_of_some _ (Heap.get?_push_size _ rfl)
  have gD : ((s₁.heap.push { cls := .type "list_iterator", data := .fields #[.ref ax, .int 0 0] }).push { cls := .type "list", dict := none, data := .seq ([] : List Value).toArray }).get? (s₁.heap.push { cls := .type "list_iterator", data := .fields #[.ref ax, .int 0 0] }).objs.size = some (lst []) := Heap.get?_push_size _ rfl
  have gO : ∀ b o, s₁.heap.get? b = some o → ((s₁.heap.push { cls := .type "list_iterator", data := .fields #[.ref ax, .int 0 0] }).push { cls := .type "list", dict := none, data := .seq ([] : List Value).toArray }).get? b = some o := fun b o e => Heap.get?_push_of_some _ (Heap.get?_push_of_some _ e)
  generalize hH2 : (s₁.heap.push { cls := .type "list_iterator", data := .fields #[.ref ax, .int 0 0] }).push { cls := .type "list", dict := none, data := .seq ([] : List Value).toArray } = H2 at *
  generalize hDe : (s₁.heap.push { cls := .type "list_iterator", data := .fields #[.ref ax, .int 0 0] }).objs.size = D at *
  generalize hCe : H2.objs.size = C at *
  have hledI : ∀ q ∈ led, @LT.lt Nat _ q.1 s₁.heap.objs.size := fun q hq => Heap.lt_size (N q hq).1
  have fresh : ∀ b, @LE.le Nat _ s₁.heap.objs.size b → h₀.get? b = none := fun b hb => no_old F (Nat.le_trans (Nat.le_of_lt hLI) hb)
  generalize hIe : s₁.heap.objs.size = I at *
  have f : CF h₀ L led I ax C D := by
    refine ⟨?_, ?_, ?_, fresh _ (Nat.le_refl _), fresh _ ?_, fresh _ ?_, ?_, ?_, ?_, fun q hq => Nat.ne_of_lt (hledI q hq), fun q hq => ?_, fun q hq => ?_⟩
    · exact Ne.symm (Nat.ne_of_lt hLI)
    · exact Ne.symm (Nat.ne_of_lt (Nat.lt_of_lt_of_le hLI (by rw [hsize2]; exact Nat.le_trans (Nat.le_succ _) (Nat.le_succ _))))
    · exact Ne.symm (Nat.ne_of_lt (Nat.lt_of_lt_of_le hLI (by rw [hsize1]; exact Nat.le_succ _)))
    · rw [hsize2]; exact Nat.le_trans (Nat.le_succ _) (Nat.le_succ _)
    · rw [hsize1]; exact Nat.le_succ _
    · rw [hsize2]; exact Nat.ne_of_lt (Nat.lt_succ_of_lt (Nat.lt_succ_self _))
    · rw [hsize1]; exact Nat.ne_of_lt (Nat.lt_succ_self _)
    · rw [hsize2, hsize1]; exact Ne.symm (Nat.ne_of_lt (Nat.lt_succ_self _))
    · rw [hsize2]; exact Nat.ne_of_lt (Nat.lt_succ_of_lt (Nat.lt_succ_of_lt (hledI q hq)))
    · rw [hsize1]; exact Nat.ne_of_lt (Nat.lt_succ_of_lt (hledI q hq))
  have upC : ∀ b o, b ≠ C → H2.get? b = some o → h₁.get? b = some o := fun b o hb e => hsb₁.extBut b o hb (Heap.get?_push_of_some _ e)
  have old : ∀ b o, s₁.heap.get? b = some o → h₁.get? b = some o := fun b o e => upC b o (by
    have h1 : @LT.lt Nat _ b I := hIe ▸ Heap.lt_size e
    rw [hsize2]; exact Nat.ne_of_lt (Nat.lt_succ_of_lt (Nat.lt_succ_of_lt h1))) (gO b o e)
  have c0 : CS h₀ L m led I ax its.toArray C D 0 _ [] h₁ := ⟨F.keeps old, N.grown old, upC _ _ (Ne.symm f.CD) gD, hns₁, ⟨_, upC _ _ f.IC gI, rfl, rfl⟩, PySem.IsL.isList (n := nits) (N.grown old _ hm).1⟩
  have W0 := Walks.list (prog := prog) (w := w) hh I ax (f.In _ hm) its.toArray
  have hGl : ∀ i, ((List.range i).flatMap G).length ≤ 200 * i := by
    intro i
    induction i with
    | zero => simp
    | succ i ih =>
      rw [List.range_succ, List.flatMap_append, List.length_append, List.flatMap_cons, List.flatMap_nil, List.append_nil]
      have := hG i
      omega
  have loop : codeAny (model prog w) A (.compLoop (.ListComp (.Name y py) [⟨.Name x px, iter0, [], 0⟩, ⟨.Name y py2, iter1, [], 0⟩] scope pos) 0 (.ref I) (.ref D) (compEnvC scope cl C env)) (compPost (model prog w) A E none Q (.ref D) C) { s₁ with heap := h₁, toks := s₁.toks + ([] : List (Str × Value)).length } := by
    refine loop_out (fun n s' => ∃ h tk i m₂ ys, s' = { s₁ with heap := h, toks := tk } ∧ i ≤ its.length ∧ n = its.length + 1 - i ∧ CS h₀ L m led I ax its.toArray C D i m₂ ys h ∧ IntsAre ys ((List.range i).flatMap G)) ?_ (its.length + 1) ⟨h₁, _, 0, _, [], rfl, Nat.zero_le _, rfl, c0, .nil⟩ (hf := hs1 C)
    rintro n s' ⟨h, tk, i, m₂, ys, rfl, hi, rfl, c, hys⟩
    rcases Nat.lt_or_ge i its.length with hlt2 | hge
    · refine W0.item i _ _ _ (by simpa using hlt2) c.st fun v h2 tk2 hv st2 hk2 => ?_
      have F2 := fr_but (I := I) c.F hk2 (Ne.symm f.IL) f.I0
      have N2 := news_but (I := I) c.N hk2 f.In
      have D2 := hk2 D _ (by simpa using Ne.symm f.ID) c.hD
      have C2 := c.hC.at' fun o e => hk2 _ o (by simpa using Ne.symm f.IC) e
      refine wpAny_assign_Name (wpAny_storeName_local (lookup_relabel_local hx) C2 (fun h3 hn3 hs3 => ?_) (by simp [compEnvC, relabel, hkind]))
      replace hs3 : Heap.SameBut C h2 h3 := hs3
      have hk3 : ∀ b o, b ≠ C → h2.get? b = some o → h3.get? b = some o := fun b o hb e => hs3.extBut b o hb e
      have F3 := fr_but (I := C) F2 (fun b o hb e => hk3 b o (by simpa using hb) e) (Ne.symm f.CL) f.C0
      have N3 := news_but (I := C) N2 (fun b o hb e => hk3 b o (by simpa using hb) e) f.Cn
      have D3 := hk3 D _ (Ne.symm f.CD) D2
      obtain ⟨⟨oI, hoI, hoI2⟩, _⟩ := st2
      have hoI3 := hk3 I _ f.IC hoI
      obtain ⟨oC, hoC, hnC⟩ := ns_obj hn3
      have N9 : News h₀ L h3 ((I, oI) :: (C, oC) :: (D, lst ys) :: led) := fun p hp => by
        rcases List.mem_cons.mp hp with rfl | hp
        · exact ⟨hoI3, f.IL, f.I0⟩
        rcases List.mem_cons.mp hp with rfl | hp
        · exact ⟨hoC, f.CL, f.C0⟩
        rcases List.mem_cons.mp hp with rfl | hp
        · exact ⟨D3, f.DL, f.D0⟩
        exact N3 p hp
      have hvl : its[i]? = some v := by simpa using hv
      refine wpAny_mono (turn i v hvl I oI C oC D _ ys h3 _ hnC (if_pos rfl) F3 N9 (Off3.of fun p hp => ⟨f.In p hp, f.Cn p hp, f.Dn p hp⟩) ⟨f.IC, f.ID, f.CD⟩) (fun q s4 h4 => ?_) fun _ _ z => z
      obtain ⟨h', tk', l, rv, nn, rfl, rfl, F', N', l1, l2, l3, hrv⟩ := h4
      have hlr := N' (l, W.listOf rv.toArray nn) (.tail _ (.tail _ (.tail _ (.head _))))
      refine wpAny_pyIter_list (items := rv.toArray) (PySem.IsL.isList (n := nn) hlr.1) ?_
      have up : ∀ b o, h'.get? b = some o → (h'.push { cls := .type "list_iterator", data := .fields #[.ref l, .int 0 0] }).get? b = some o := fun b o e => Heap.get?_push_of_some _ e
      have c4 : CS h₀ L m led I ax its.toArray C D (i + 1) (fun z => if z = x then some v else m₂ z) ys (h'.push { cls := .type "list_iterator", data := .fields #[.ref l, .int 0 0] }) :=
        ⟨F'.push _, fun p hp => (N'.grown up) p (.tail _ (.tail _ (.tail _ (.tail _ hp)))), up _ _ (N' _ (.tail _ (.tail _ (.head _)))).1, hnC.ns (up _ _ (N' _ (.tail _ (.head _))).1), ⟨oI, up _ _ (N' _ (.head _)).1, hoI2⟩, PySem.IsL.isList (n := nits) ((N'.grown up) _ (.tail _ (.tail _ (.tail _ (.tail _ hm))))).1⟩
      have hsz' : ∀ p ∈ (I, oI) :: (C, oC) :: (D, lst ys) :: (l, W.listOf rv.toArray nn) :: led, p.1 < h'.objs.size := fun p hp => Heap.lt_size (N' p hp).1
      have nL : L ≠ h'.objs.size := Nat.ne_of_lt F'.ns.lt
      have hl2 := hys.length
      have hl3 := hrv.length
      have hl4 := hGl i
      have hl5 := hG i
      have inner := inner_loop (prog := prog) (w := w) (A := A) (s := { s₁ with heap := h'.push { cls := .type "list_iterator", data := .fields #[.ref l, .int 0 0] }, toks := tk' }) (R := fun r s₅ => r = .ok .next ∧ ∃ k, k < its.length + 1 - i ∧ ∃ h tk i m₂ ys, s₅ = { s₁ with heap := h, toks := tk } ∧ i ≤ its.length ∧ k = its.length + 1 - i ∧ CS h₀ L m led I ax its.toArray C D i m₂ ys h ∧ IntsAre ys ((List.range i).flatMap G))
        (py := py) (py2 := py2) (iter1 := iter1) (g0 := ⟨.Name x px, iter0, [], 0⟩) (env := env) (cl := cl) (pos := pos) hh hkind hy hdb f ⟨_, hm⟩ nL (no_old F' (Nat.le_of_lt F'.ns.lt)) (fun q hq => Nat.ne_of_lt (hsz' q (.tail _ (.tail _ (.tail _ (.tail _ hq)))))) (Nat.ne_of_lt (hsz' _ (.tail _ (.tail _ (.head _))))) (Nat.ne_of_lt (hsz' _ (.tail _ (.head _)))) (Nat.ne_of_lt (hsz' _ (.head _))) (Nat.ne_of_lt (hsz' _ (.tail _ (.tail _ (.tail _ (.head _)))))) l2 l3 (by omega) c4 ⟨⟨_, Heap.get?_push_size _ rfl, rfl, rfl⟩, PySem.IsL.isList (n := nn) (up _ _ hlr.1)⟩
        (fun h9 tk9 m₃ c9 => ⟨rfl, its.length + 1 - (i + 1), by omega, h9, tk9, i + 1, m₃, ys ++ rv, rfl, hlt2, rfl, c9, by
          rw [List.range_succ, List.flatMap_append, List.flatMap_cons, List.flatMap_nil, List.append_nil]
          exact hys.append hrv⟩)
      exact start_in inner (wpAny_pyIter_listiter ⟨_, Heap.get?_push_size _ rfl, rfl, rfl⟩ inner)
    · have : i = its.length := by omega
      subst this
      refine W0.done _ _ _ (by simpa using c.st) fun h2 tk2 hk2 => ?_
      have F2 := fr_but (I := I) c.F hk2 (Ne.symm f.IL) f.I0
      have N2 := news_but (I := I) c.N hk2 f.In
      have D2 := hk2 D _ (by simpa using Ne.symm f.ID) c.hD
      refine ⟨m₂, c.hC.at' fun o e => hk2 _ o (by simpa using Ne.symm f.IC) e, fun h'' hs'' => ?_⟩
      have hkC : ∀ b o, b ∉ [C] → h2.get? b = some o → h''.get? b = some o := fun b o hb e => hs''.extBut b o (by simpa using hb) e
      refine fin D ys h'' tk2 (fr_but (I := C) F2 hkC (Ne.symm f.CL) f.C0) (fun p hp => ?_) f.Dn hys
      rcases List.mem_cons.mp hp with rfl | hp
      · exact ⟨hkC _ _ (by simpa using Ne.symm f.CD) D2, f.DL, f.D0⟩
      · exact news_but (I := C) N2 hkC f.Cn p hp
  exact codeAny_compStart_list loop (W0.self 0 _ _ _ c0.st loop)
end
end
section
open PySem PySem.W PyProof.Rows PyProof.Rows.LCg PySem.Calls PySem.Spec
section
variable {prog : Program} {w : World} {A : Around} {E : Value → Shared → Prop} {s : Shared} {h₀ : Heap} {m : Str → Option Value} {env : Env} {news : List (Addr × Obj)}
noncomputable def GTurn (h₀ : Heap) (L I : Addr) (oI : Obj) (J : (Str → Option Value) → List (Addr × Obj) → Prop) (s s₃ : Shared) : Prop :=
  ∃ h' tk' gg' m'' news'', s₃ = { s with heap := h', toks := tk', gens := gg' } ∧ AllBare gg' ∧ Fr h₀ L h' m'' ∧ News h₀ L h' ((I, oI) :: news'') ∧ J m'' news''
theorem GTurn.mk {h₀ : Heap} {L I : Addr} {oI : Obj} {J : (Str → Option Value) → List (Addr × Obj) → Prop} {s : Shared} {h' : Heap} {tk' : Nat} {gg' : Array GenState} {m'' : Str → Option Value} {all : List (Addr × Obj)} (news'' : List (Addr × Obj)) (hb : AllBare gg') (F : Fr h₀ L h' m'') (N : News h₀ L h' all) (hs : ∀ q ∈ (I, oI) :: news'', q ∈ all) (hJ : J m'' news'') : GTurn h₀ L I oI J s { s with heap := h', toks := tk', gens := gg' } :=
  ⟨_, _, _, _, news'', rfl, hb, F, fun p hp => N p (hs p hp), hJ⟩
theorem for_listG {R : Result → Shared → Prop} {xv : Str} {pv : Pos} {body : List Stmt} {sh : Heap} {D : Addr} {vs : List Value} {nn : Nat}
    (hh : A.handled = none) (hxv : env.kindOf xv = some .local) (hpp : (env.scope.kind == .class || (env.scope.kind == .module && env.locals != env.globals)) = false)
    (F : Fr h₀ env.locals sh m) (N : News h₀ env.locals sh news) (hsh : s.heap = sh.push { cls := .type "list_iterator", data := .fields #[.ref D, .int 0 0] }) (hb : AllBare s.gens)
    (J : Nat → (Str → Option Value) → List (Addr × Obj) → Prop) (h0 : J 0 m news) (hJw : ∀ k m' news', J k m' news' → ∀ p ∈ news', p.1 ≠ sh.objs.size) (hJD : ∀ k m' news', J k m' news' → (D, W.listOf vs.toArray nn) ∈ news')
    (turn : ∀ (k : Nat) (v : Value) (m' : Str → Option Value) (news' : List (Addr × Obj)) (h : Heap) (tk : Nat) (gg : Array GenState) (oI : Obj), vs[k]? = some v → J k m' news' → AllBare gg → Fr h₀ env.locals h (fun y => if y = xv then some v else m' y) → News h₀ env.locals h ((sh.objs.size, oI) :: news') → (∀ p ∈ news', p.1 ≠ sh.objs.size) → LiIter oI D (k + 1) →
      wpAny (model prog w) A (execs body env) (fun f s₃ => match f with
        | .next | .cont => GTurn h₀ env.locals sh.objs.size oI (J (k + 1)) s s₃
        | .brk => R (.ok .next) s₃
        | .ret v => R (.ok (.ret v)) s₃) (fun _ _ => False) { s with heap := h, toks := tk, gens := gg })
    (done : ∀ m' news' h tk gg, J vs.length m' news' → AllBare gg → Fr h₀ env.locals h m' → News h₀ env.locals h news' → R (.ok .next) { s with heap := h, toks := tk, gens := gg }) :
    codeAny (model prog w) A (.forLoop (.Name xv pv) (.ref sh.objs.size) body [] env) R s := by
  have hLs := L_lt F
  have hm0 := hJD 0 m news h0
  have hDs : D < sh.objs.size := Heap.lt_size (N _ hm0).1
  have hup : ∀ b o, sh.get? b = some o → s.heap.get? b = some o := fun b o e => by rw [hsh]; exact Heap.get?_push_of_some _ e
  have W1 := Walks.list (prog := prog) (w := w) hh sh.objs.size D (Nat.ne_of_lt hDs) vs.toArray
  refine codeAny_forLoop_any (fun n s' => ∃ i h tk gg m' news' oI, s' = { s with heap := h, toks := tk, gens := gg } ∧ i ≤ vs.length ∧ n = vs.length - i ∧ AllBare gg ∧ J i m' news' ∧ Fr h₀ env.locals h m' ∧ News h₀ env.locals h ((sh.objs.size, oI) :: news') ∧ LiIter oI D i) ?_ vs.length
    ⟨0, _, _, _, m, news, { cls := .type "list_iterator", data := .fields #[.ref D, .int 0 0] }, rfl, Nat.zero_le _, rfl, hb, h0, F.grownK hup, ?_, ⟨rfl, rfl⟩⟩
  · rintro n s' ⟨i, h, tk, gg, m', news', oI, rfl, hi, rfl, hgb, hJ, F2, N2, hli⟩
    have hoff := hJw i m' news' hJ
    have hIt := N2 _ (.head _)
    have hst : h.IsListIter sh.objs.size D i ∧ h.IsList D vs.toArray := ⟨hli.at hIt.1, PySem.IsL.isList (n := nn) (N2 _ (.tail _ (hJD i m' news' hJ))).1⟩
    rcases Nat.lt_or_ge i vs.length with hlt | hge
    · refine W1.item i _ _ _ (by simpa using hlt) hst fun v h2 tk2 hv st2 hk2 => ?_
      have F3 := LCg.fr_but (I := sh.objs.size) F2 hk2 (Nat.ne_of_lt hLs) hIt.2.2
      have N3 := LCg.news_but (I := sh.objs.size) (fun p hp => N2 p (.tail _ hp)) hk2 hoff
      obtain ⟨⟨oI2, hoI2, hoI3⟩, _⟩ := st2
      refine wpAny_of_eq (a := ()) rfl ?_
      refine wpAny_assign_Name (wpAny_storeName_local hxv F3.ns (fun h₄ hn₄ hs₄ => ?_) hpp)
      have F4 := F3.set hn₄ hs₄
      have N4 : News h₀ env.locals h₄ ((sh.objs.size, oI2) :: news') := fun p hp => by
        rcases List.mem_cons.mp hp with rfl | hp
        · exact ⟨hs₄.extBut _ _ (Ne.symm (Nat.ne_of_lt hLs)) hoI2, hIt.2.1, hIt.2.2⟩
        · exact (N3.set hs₄) p hp
      have hvl : vs[i]? = some v := by simpa using hv
      refine wpAny_mono (turn i v m' news' h₄ _ gg oI2 hvl hJ hgb F4 N4 hoff hoI3) (fun fl s₃ h₃ => ?_) fun _ _ x => x.elim
      have key : GTurn h₀ env.locals sh.objs.size oI2 (J (i + 1)) s s₃ → ∃ k, k < vs.length - i ∧ ∃ i h tk gg m' news' oI, s₃ = { s with heap := h, toks := tk, gens := gg } ∧ i ≤ vs.length ∧ k = vs.length - i ∧ AllBare gg ∧ J i m' news' ∧ Fr h₀ env.locals h m' ∧ News h₀ env.locals h ((sh.objs.size, oI) :: news') ∧ LiIter oI D i := by
        rintro ⟨h', tk', gg', m'', news'', rfl, hb', F', N', hJ'⟩
        exact ⟨vs.length - (i + 1), by omega, i + 1, h', tk', gg', m'', news'', oI2, rfl, hlt, rfl, hb', hJ', F', N', hoI3⟩
      cases fl with
      | next => exact key h₃
      | cont => exact key h₃
      | brk => exact h₃
      | ret v => exact h₃
    · have : i = vs.length := by omega
      subst this
      refine W1.done _ _ _ (by simpa using hst) fun h2 tk2 hk2 => ?_
      refine wpAny_execs_nil ?_
      exact done m' news' h2 tk2 gg hJ hgb (LCg.fr_but (I := sh.objs.size) F2 hk2 (Nat.ne_of_lt hLs) hIt.2.2) (LCg.news_but (I := sh.objs.size) (fun p hp => N2 p (.tail _ hp)) hk2 hoff)
  · intro p hp
    rcases List.mem_cons.mp hp with rfl | hp
    · exact ⟨by rw [hsh]; exact Heap.get?_push_size _ rfl, Ne.symm (Nat.ne_of_lt hLs), no_old F (Nat.le_of_lt hLs)⟩
    · exact (N.grown hup) p hp
end
end
section
variable {prog : Program} {w : World} {loose : List Str} {mean : ExcName → Option Value} {mg mb : Str → Option Value} {dp un : Nat} {gd : Option (List Code)} {cn : Str} {cs : Scope} {a : Addr} {ccd : Value} {cl : List (Str × Addr)} {outer : List Env} {A₀ : Around} {base h₀ : Heap} {L : Addr} {m : Str → Option Value} {news : List (Addr × Obj)} {s : Shared} {Q E : Value → Shared → Prop}
noncomputable def txF (kvs : List (Int × Value)) (y : Int) : Str := match valueAt kvs y with
  | some (.str x _) => x
  | _ => Str.empty
noncomputable def tkF (n0 n1 n2 : Int) (kvs : List (Int × Value)) (y : Int) : List (List Nat) := if y = n0 then [[34, 41, 34]] else if y = n1 then [[92, 40]] else if y = n2 then [[92, 34]] else (txF kvs y).cps.toList.map fun c => [c]
theorem map_flat : ∀ l : List Nat, (l.map fun c => [c]).flatten = l
  | [] => rfl
  | c :: r => by rw [List.map_cons, List.flatten_cons, map_flat r]; rfl
theorem zeros_h : ∀ l : List Nat, (∀ c ∈ l, c ≠ 40 ∧ c ≠ 41) → hOf (dls (l.map fun c => [c])) = (0, 0)
  | [], _ => rfl
  | c :: r, h => by
    rw [List.forall_mem_cons] at h
    have ih := zeros_h r h.2
    have e : dls ((c :: r).map fun c => [c]) = 0 :: dls (r.map fun c => [c]) := by
      unfold dls
      rw [List.map_cons, List.filter_cons_of_pos (by simp), List.map_cons]
      congr 1
      unfold dlt
      rw [if_neg (by simpa using h.1.1), if_neg (by simpa using h.1.2)]
    unfold hOf at ih ⊢
    rw [e, List.sum_cons]
    have h1 := congrArg Prod.fst ih
    have h2 := congrArg Prod.snd ih
    dsimp only at h1 h2
    rw [h2]
    show (min 0 (0 + lo _), _) = _
    rw [h1]; rfl
theorem seen_ok {n0 n1 n2 op : Int} {kvs : List (Int × Value)} (h : seenFin n0 n1 n2 op kvs) (h01 : n0 ≠ n1) (h02 : n0 ≠ n2) (h12 : n1 ≠ n2) (hn0 : 256 ≤ n0) (hn1 : 256 ≤ n1) (hn2 : 256 ≤ n2) (ho : op < 256) {y : Int} (hy : y ∈ [n0, n1, n2, 7, 8, op]) :
    (∃ t, valueAt kvs y = some (.str (txF kvs y) t)) ∧ (txF kvs y).length ≤ 3 ∧ (txF kvs y).cps.toList = (tkF n0 n1 n2 kvs y).flatten ∧ (∀ t ∈ tkF n0 n1 n2 kvs y, okT t) ∧ (∀ c ∈ (tkF n0 n1 n2 kvs y).flatten, c < 128) ∧
      ((y = n0 ∨ y = n1 ∨ y = n2) → hOf (dls (tkF n0 n1 n2 kvs y)) = (0, 0)) ∧ (y < 256 → hOf (dls (tkF n0 n1 n2 kvs y)) = if y = 7 then (0, 1) else if y = 8 then (-1, -1) else (0, 0)) := by
  obtain ⟨⟨s0, e0⟩, ⟨s1, e1⟩, ⟨s2, e2⟩, hs⟩ := h
  have name : ∀ {x : Str} {t : Tok}, valueAt kvs y = some (.str x t) → txF kvs y = x := fun e => by unfold txF; rw [e]
  by_cases y0 : y = n0
  · subst y0
    have hx := name e0
    have hk : tkF y n1 n2 kvs y = [[34, 41, 34]] := if_pos rfl
    rw [hx, hk]
    exact ⟨⟨s0, e0⟩, by decide +kernel, by decide +kernel, by simp [okT], by decide, fun _ => by decide, fun h => by omega⟩
  by_cases y1 : y = n1
  · subst y1
    have hx := name e1
    have hk : tkF n0 y n2 kvs y = [[92, 40]] := by unfold tkF; rw [if_neg y0, if_pos rfl]
    rw [hx, hk]
    exact ⟨⟨s1, e1⟩, by decide +kernel, by decide +kernel, by simp [okT], by decide, fun _ => by decide, fun h => by omega⟩
  by_cases y2 : y = n2
  · subst y2
    have hx := name e2
    have hk : tkF n0 n1 y kvs y = [[92, 34]] := by unfold tkF; rw [if_neg y0, if_neg y1, if_pos rfl]
    rw [hx, hk]
    exact ⟨⟨s2, e2⟩, by decide +kernel, by decide +kernel, by simp [okT], by decide, fun _ => by decide, fun h => by omega⟩
  have hv : y = 7 ∨ y = 8 ∨ y = op := by
    simp only [List.mem_cons, List.not_mem_nil, or_false] at hy
    rcases hy with h | h | h | h | h | h
    · exact absurd h y0
    · exact absurd h y1
    · exact absurd h y2
    · exact .inl h
    · exact .inr (.inl h)
    · exact .inr (.inr h)
  obtain ⟨x, t, e, g1, g2, g3, g4, g5⟩ := hs y hv
  have hx := name e
  have hk : tkF n0 n1 n2 kvs y = x.cps.toList.map fun c => [c] := by unfold tkF; rw [if_neg y0, if_neg y1, if_neg y2, hx]
  rw [hx, hk, map_flat]
  refine ⟨⟨t, e⟩, g5, rfl, fun z hz => ?_, fun c hc => (g1 c hc).2.2, fun h => ?_, fun _ => ?_⟩
  · obtain ⟨c, hc, rfl⟩ := List.mem_map.mp hz
    exact .inr (.inr ⟨c, rfl, (g1 c hc).1, (g1 c hc).2.1⟩)
  · rcases h with h | h | h
    · exact absurd h y0
    · exact absurd h y1
    · exact absurd h y2
  · by_cases h7 : y = 7
    · rw [if_pos h7, g2 h7]; decide
    · rw [if_neg h7]
      by_cases h8 : y = 8
      · rw [if_pos h8, g3 h8]; decide
      · rw [if_neg h8]
        exact zeros_h _ (g4 h7 h8)
end
section
open PySem PySem.W PyProof.Rows PyProof.Rows.LCg PySem.Calls PySem.Spec
theorem foldl_rep (c : Nat) : ∀ (n : Nat) (acc : Array Nat), (List.replicate n #[c]).foldl (· ++ ·) acc = acc ++ (List.replicate n c).toArray
  | 0, acc => by simp
  | n + 1, acc => by
    rw [List.replicate_succ, List.foldl_cons, foldl_rep c n, List.replicate_succ]
    apply Array.toList_inj.mp
    simp
theorem mul_one (c : Nat) (n : Int) : Txt.mul ⟨#[c]⟩ n = ⟨(List.replicate n.toNat c).toArray⟩ := by
  unfold Txt.mul
  by_cases h1 : n < 1
  · rw [if_pos h1]
    have : n.toNat = 0 := by omega
    rw [this]; rfl
  · rw [if_neg h1]
    by_cases h2 : n = 1
    · subst h2; rfl
    · have h3 : (n == 1 || (⟨#[c]⟩ : Str).length == 0) = false := by
        have : (n == 1) = false := by rw [beq_eq_false_iff_ne]; exact h2
        rw [this]; rfl
      rw [h3]
      simp only [Bool.false_eq_true, if_false]
      rw [foldl_rep]
      simp
section
variable {prog : Program} {w : World} {A : Around} {E : Value → Shared → Prop} {s : Shared} {x y : Str} {t u : Tok} {Q : Value → Shared → Prop}
theorem mul_K {c : Nat} {n : Int} (hx : x = ⟨#[c]⟩) (hlo : -100000 ≤ n) (hhi : n ≤ 100000) (h : ∀ t' k, Q (.str ⟨(List.replicate n.toNat c).toArray⟩ t') { s with toks := k }) : wpAny (model prog w) A (binaryOp .Mult (.str x t) (.int n u)) Q E s := by
  subst hx
  refine SB.mul (mulOk_of 16 1048576 (by show 1 ≤ 16; decide) (by omega) (by omega) (by decide) (by decide)) fun t' k => ?_
  rw [mul_one]
  exact h t' k
theorem add_K {a b : List Nat} (hsz : a.length + b.length ≤ 1000000) (hx : x = ⟨a.toArray⟩) (hy : y = ⟨b.toArray⟩) (h : ∀ t' k, Q (.str ⟨(a ++ b).toArray⟩ t') { s with toks := k }) : wpAny (model prog w) A (binaryOp .Add (.str x t) (.str y u)) Q E s := by
  subst hx hy
  refine PySem.P.add_str ?_
  by_cases h1 : ((⟨a.toArray⟩ : Str).length == 0) = true
  · rw [if_pos h1]
    have ha : a = [] := by
      have : (⟨a.toArray⟩ : Str).length = 0 := by simpa using h1
      have h2 : a.toArray.size = 0 := this
      rw [List.size_toArray] at h2
      exact List.length_eq_zero_iff.mp h2
    subst ha
    exact h u s.toks
  · rw [if_neg h1]
    by_cases h2 : ((⟨b.toArray⟩ : Str).length == 0) = true
    · rw [if_pos h2]
      have hb : b = [] := by
        have : (⟨b.toArray⟩ : Str).length = 0 := by simpa using h2
        have h3 : b.toArray.size = 0 := this
        rw [List.size_toArray] at h3
        exact List.length_eq_zero_iff.mp h3
      subst hb
      have h4 := h t s.toks
      rw [List.append_nil] at h4
      exact h4
    · rw [if_neg h2, str_app]
      show (Made.str _).post Q s
      refine ⟨?_, h _ _⟩
      rw [sizeLine_eq]
      show (a ++ b).toArray.size ≤ _
      rw [List.size_toArray, List.length_append]; omega
end
end
section
variable {prog : Program} {w : World} {loose : List Str} {mean : ExcName → Option Value} {mg mb : Str → Option Value} {dp un : Nat} {gd : Option (List Code)} {cn : Str} {cs : Scope} {a : Addr} {ccd : Value} {cl : List (Str × Addr)} {outer : List Env} {A₀ : Around} {base h₀ : Heap} {L : Addr} {m : Str → Option Value} {news : List (Addr × Obj)} {s : Shared} {Q E : Value → Shared → Prop}
theorem cellsR_ok : ∀ (ns : List Int) (k : Nat) (a b c : Int) (M : Int), 0 ≤ a → 0 ≤ b → 0 ≤ c → a ≤ M → b ≤ M → c ≤ M → ∃ a' b' c', cellsR [a, b, c] k ns = [a', b', c'] ∧ (0 ≤ a' ∧ a' ≤ M + 1000000 * ns.length) ∧ (0 ≤ b' ∧ b' ≤ M + 1000000 * ns.length) ∧ (0 ≤ c' ∧ c' ≤ M + 1000000 * ns.length)
  | [], k, a, b, c, M, ha, hb, hc, ha', hb', hc' => ⟨a, b, c, rfl, ⟨ha, by simpa using ha'⟩, ⟨hb, by simpa using hb'⟩, ⟨hc, by simpa using hc'⟩⟩
  | x :: r, k, a, b, c, M, ha, hb, hc, ha', hb', hc' => by
    have h0 : 0 ≤ Int.fmod x 1000000 := Int.fmod_nonneg_of_pos _ (by decide)
    have h1 : Int.fmod x 1000000 < 1000000 := Int.fmod_lt_of_pos _ (by decide)
    have hk : k % 3 = 0 ∨ k % 3 = 1 ∨ k % 3 = 2 := by omega
    have fin : ∀ a b c, 0 ≤ a → 0 ≤ b → 0 ≤ c → a ≤ M + 1000000 → b ≤ M + 1000000 → c ≤ M + 1000000 → ∃ a' b' c', cellsR [a, b, c] (k + 1) r = [a', b', c'] ∧ (0 ≤ a' ∧ a' ≤ M + 1000000 * (x :: r).length) ∧ (0 ≤ b' ∧ b' ≤ M + 1000000 * (x :: r).length) ∧ (0 ≤ c' ∧ c' ≤ M + 1000000 * (x :: r).length) := by
      intro a b c g1 g2 g3 g4 g5 g6
      obtain ⟨a', b', c', e, p, q, z⟩ := cellsR_ok r (k + 1) a b c (M + 1000000) g1 g2 g3 g4 g5 g6
      have hl : ((x :: r).length : Int) = r.length + 1 := by simp
      refine ⟨a', b', c', e, ?_, ?_, ?_⟩ <;> omega
    show ∃ a' b' c', cellsR (addAt [a, b, c] k x) (k + 1) r = [a', b', c'] ∧ _
    unfold addAt
    rcases hk with h | h | h <;> rw [h]
    · exact fin (a + Int.fmod x 1000000) b c (by omega) hb hc (by omega) (by omega) (by omega)
    · exact fin a (b + Int.fmod x 1000000) c ha (by omega) hc (by omega) (by omega) (by omega)
    · exact fin a b (c + Int.fmod x 1000000) ha hb (by omega) (by omega) (by omega) (by omega)
theorem cells_ok {vs vs3 : List Value} {ns : List Int} (h : IntsAre vs ns) (h3 : IntsAre vs3 (cellsR [27691, 9739503, 143379] 0 (ns.take 60))) (hl : vs3.length = 3) :
    ∃ c0 c1 c2, cellsR [27691, 9739503, 143379] 0 (ns.take 60) = [c0, c1, c2] ∧ (0 ≤ c0 ∧ c0 < 70000000) ∧ (0 ≤ c1 ∧ c1 < 70000000) ∧ (0 ≤ c2 ∧ c2 < 70000000) := by
  obtain ⟨a, b, c, e, p, q, z⟩ := cellsR_ok (ns.take 60) 0 27691 9739503 143379 9739503 (by decide) (by decide) (by decide) (by decide) (by decide) (by decide)
  have hl : ((ns.take 60).length : Int) ≤ 60 := by rw [List.length_take]; omega
  exact ⟨a, b, c, e, by omega, by omega, by omega⟩
noncomputable def ruleL (kinds : List Int) (c : Int) : List Int := (rangeKs 0 (Int.fmod (Int.fmod c 864) 4 - 0).toNat).map fun k => kinds.getD (Int.toNat (Int.fmod (Int.fdiv (Int.fdiv (Int.fmod c 864) 4) (6 ^ k.toNat)) 6)) 0
theorem ruleL_ok {kinds : List Int} (hl : kinds.length = 6) (c : Int) : (ruleL kinds c).length ≤ 3 ∧ ∀ x ∈ ruleL kinds c, x ∈ kinds := by
  have h4 : 0 ≤ Int.fmod (Int.fmod c 864) 4 ∧ Int.fmod (Int.fmod c 864) 4 < 4 := ⟨Int.fmod_nonneg_of_pos _ (by decide), Int.fmod_lt_of_pos _ (by decide)⟩
  unfold ruleL
  refine ⟨by rw [List.length_map, rangeKs_length]; omega, fun x hx => ?_⟩
  obtain ⟨k, hk, rfl⟩ := List.mem_map.mp hx
  have h6 : 0 ≤ Int.fmod (Int.fdiv (Int.fdiv (Int.fmod c 864) 4) (6 ^ k.toNat)) 6 ∧ Int.fmod (Int.fdiv (Int.fdiv (Int.fmod c 864) 4) (6 ^ k.toNat)) 6 < 6 := ⟨Int.fmod_nonneg_of_pos _ (by decide), Int.fmod_lt_of_pos _ (by decide)⟩
  rw [List.getD_eq_getElem?_getD, List.getElem?_eq_getElem (by omega)]
  exact List.getElem_mem _
theorem kn_postG {M : Model} {A : Around} {cd : Code} {s s₁ : Shared} {cw : ClaimW} {cl : Str → Option Addr} {mean : ExcName → Option Value} {args : List WData} {tabs : List (Addr × Addr)} (hT : TabsAt tabs s₁.heap) (hr : ∀ a x, cw.raises a x = false)
    (h : codeAny M A cd (fun r s' => (∃ b d, r = .ok (.ret (.bool b)) ∧ ReadsW cw.records cl s'.heap (.bool b) d [] ∧ cw.post args d args = true) ∧ (∀ a o, (ghostOf s₁.heap tabs).get? a = some o → s'.heap.get? a = some o) ∧ s'.os = s₁.os ∧ AllBare s'.gens ∧ GrownAll tabs s'.heap) s) : codeAny M A cd (GoodWG cw cl mean args s₁) s := by
  refine codeAny_mono h ?_
  rintro r s' ⟨⟨b, d, hr1, hr2, hr3⟩, hkeep, hos, hbare, hgr⟩
  have look : ∀ a o, s₁.heap.get? a = some o → (a ∈ tabs.map (·.2) ∧ isCodeTable s₁.heap a ∧ o = tabObj #[] ∧ ∃ ps, s'.heap.get? a = some (tabObj ps)) ∨ s'.heap.get? a = some o := by
    intro a o e
    by_cases ha : a ∈ tabs.map (·.2)
    · obtain ⟨q, hq, hqa⟩ := List.mem_map.mp ha
      subst hqa
      have e2 := (hT q hq).2
      rw [e] at e2
      exact .inl ⟨ha, ((hT q hq).1.tab (hT q hq).2).isCodeTable, Option.some.inj e2, hgr.get q hq⟩
    · exact .inr (hkeep a o (ghost_ne e ha))
  refine ⟨.inl ⟨_, d, [], hr1, fun x => hr _ _, hr2, hr3, fun _ => ⟨List.nodup_nil, fun a ha => nomatch ha⟩⟩, ⟨fun a o e => ?_, fun a o e => ?_⟩, hos, hbare⟩
  · rcases look a o e with ⟨_, ht, rfl, ps, hP⟩ | h1
    · exact .inr (.inl ⟨ht, rfl, #[], ps, rfl, by rw [Array.empty_append]; exact hP⟩)
    · exact .inl h1
  · rcases look a o e with ⟨_, _, _, ps, hP⟩ | h1
    · exact ⟨_, hP⟩
    · exact ⟨_, h1⟩
end
section
variable {prog : Program} {w : World} {loose : List Str} {mean : ExcName → Option Value} {mg mb : Str → Option Value} {dp un : Nat} {gd : Option (List Code)} {cn : Str} {cs : Scope} {a : Addr} {ccd : Value} {cl : List (Str × Addr)} {outer : List Env} {A₀ : Around} {base h₀ : Heap} {L : Addr} {m : Str → Option Value} {news : List (Addr × Obj)} {s : Shared} {Q E : Value → Shared → Prop}
noncomputable def lawBody : List Stmt := match PySem.Challenge.pw_sr0054_01.main.body.drop 75 with
  | .FunctionDef _ _ b _ _ _ _ _ _ _ :: _ => b
  | _ => []
noncomputable def lawScope : Scope := match PySem.Challenge.pw_sr0054_01.main.body.drop 75 with
  | .FunctionDef _ _ _ _ _ _ sc _ _ _ :: _ => sc
  | _ => default
noncomputable def loopBody : List Stmt := match lawBody.drop 17 with
  | .For _ _ b _ _ :: _ => b
  | _ => []
end
section
variable {prog : Program} {w : World} {loose : List Str} {mean : ExcName → Option Value} {mg mb : Str → Option Value} {dp un : Nat} {gd : Option (List Code)} {cn : Str} {cs : Scope} {a : Addr} {ccd : Value} {cl : List (Str × Addr)} {outer : List Env} {A₀ : Around} {base h₀ : Heap} {L : Addr} {m : Str → Option Value} {news : List (Addr × Obj)} {s : Shared} {Q E : Value → Shared → Prop}
theorem escEnd_toks : ∀ ts : List (List Nat), (∀ t ∈ ts, okT t) → escEnd false ts.flatten = false
  | [], _ => rfl
  | t :: r, h => by
    rw [List.forall_mem_cons] at h
    have ih := escEnd_toks r h.2
    rcases h.1 with rfl | ⟨c, rfl⟩ | ⟨c, rfl, h1, h2⟩
    · exact ih
    · exact ih
    · show escEnd (c == 92) r.flatten = false
      have : (c == 92) = false := by rw [beq_eq_false_iff_ne]; exact h2
      rw [this]; exact ih
noncomputable def around (a : Nat) (ts : List (List Nat)) (b : Nat) : List (List Nat) := List.replicate a [40] ++ ts ++ List.replicate b [41]
theorem around_flat (a : Nat) (ts : List (List Nat)) (b : Nat) : (around a ts b).flatten = List.replicate a 40 ++ ts.flatten ++ List.replicate b 41 := by
  unfold around
  rw [List.flatten_append, List.flatten_append, flat_repl, flat_repl]
theorem around_ok {a b : Nat} {ts : List (List Nat)} (h : ∀ t ∈ ts, okT t) : ∀ t ∈ around a ts b, okT t := by
  intro t ht
  unfold around at ht
  rw [List.mem_append, List.mem_append, List.mem_replicate, List.mem_replicate] at ht
  rcases ht with (⟨_, rfl⟩ | ht) | ⟨_, rfl⟩
  · exact .inr (.inr ⟨_, rfl, by decide, by decide⟩)
  · exact h t ht
  · exact .inr (.inr ⟨_, rfl, by decide, by decide⟩)
theorem filter_len (ts : List (List Nat)) (p : List Nat → Bool) : (ts.filter p).flatten.length ≤ ts.flatten.length := by
  induction ts with
  | nil => exact Nat.le_refl _
  | cons t r ih =>
    rw [List.filter_cons]
    split
    · simp only [List.flatten_cons, List.length_append]; omega
    · simp only [List.flatten_cons, List.length_append]; omega
theorem check_K {a9 : Addr} {x : Str} {t : Tok} {a b : Nat} {ts : List (List Nat)}
   (B : Below A₀ base outer h₀) (F : Fr h₀ L s.heap m) (X : (hd.heap_1 w.params).In h₀) (N : News h₀ L s.heap news) 
   (T : Top topProg loose mean mg mb h₀) (hk : cs.kind = .function)  (hdp : dp + 20 < recursionLimit) (hun : un + 200 < cLine) (hb : AllBare s.gens)
   (hx : x = ⟨(List.replicate a 40 ++ ts.flatten ++ List.replicate b 41).toArray⟩) (ha : a ≤ 1000) (hbb : b ≤ 1000) (hts : ∀ t ∈ ts, okT t) (htl : ts.flatten.length ≤ 1000) (ht128 : ∀ c ∈ ts.flatten, c < 128)
   (ret : ∀ h' tk' gg, Fr h₀ L h' m → News h₀ L h' news → AllBare gg → Q (.bool (decide (0 ≤ (a : Int) + lo (dls ts) ∧ (a : Int) + (dls ts).sum = b))) { s with heap := h', toks := tk', gens := gg }) :
   wpAny (model prog w) (ktrTop dp un gd cn cs L a9 ccd cl outer) (call (.ref 42) [.str x t]) Q E s := by
  subst hx
  have hfl := around_flat a ts b
  have hs : stripS (List.replicate a 40 ++ ts.flatten ++ List.replicate b 41) = ((around a ts b).filter (· ≠ [34, 41, 34])).flatten := by rw [← hfl]; exact stripS_toks _ (around_ok hts)
  have hok2 : ∀ t ∈ (around a ts b).filter (· ≠ [34, 41, 34]), okT t := fun t ht => around_ok hts t (List.mem_filter.mp ht).1
  have hlen : (List.replicate a 40 ++ ts.flatten ++ List.replicate b 41).length ≤ 3000 := by
    simp only [List.length_append, List.length_replicate]; omega
  have h128 : ∀ c ∈ List.replicate a 40 ++ ts.flatten ++ List.replicate b 41, c < 128 := by
    intro c hc
    rw [List.mem_append, List.mem_append, List.mem_replicate, List.mem_replicate] at hc
    rcases hc with (⟨_, rfl⟩ | hc) | ⟨_, rfl⟩
    · decide
    · exact ht128 c hc
    · decide
  have hchk := check_around ts hts a b
  refine check_spec B F X N T hk hdp hun ?_ ?_ ?_ ?_ ?_ ?_ hb ?_
  · show (List.replicate a 40 ++ ts.flatten ++ List.replicate b 41).toArray.size ≤ _
    rw [List.size_toArray]; omega
  · exact h128
  · show escEnd false (List.replicate a 40 ++ ts.flatten ++ List.replicate b 41) = false
    rw [← hfl]; exact escEnd_toks _ (around_ok hts)
  · show (stripS (List.replicate a 40 ++ ts.flatten ++ List.replicate b 41)).length ≤ _
    rw [hs]
    have := filter_len (around a ts b) (· ≠ [34, 41, 34])
    rw [hfl] at this
    omega
  · intro c hc
    have hc' : c ∈ stripS (List.replicate a 40 ++ ts.flatten ++ List.replicate b 41) := hc
    rw [hs] at hc'
    obtain ⟨t, ht, hct⟩ := List.mem_flatten.mp hc'
    refine h128 c ?_
    rw [← hfl]
    exact List.mem_flatten.mpr ⟨t, (List.mem_filter.mp ht).1, hct⟩
  · show escEnd false (stripS (List.replicate a 40 ++ ts.flatten ++ List.replicate b 41)) = false
    rw [hs]; exact escEnd_toks _ hok2
  · intro h' tk' gg F' N' hg
    show Q (.bool (chkY 0 (escs 0 false (stripS (List.replicate a 40 ++ ts.flatten ++ List.replicate b 41))))) _
    rw [hchk]
    exact ret h' tk' gg F' N' hg
theorem dlt_b (t : List Nat) : -1 ≤ dlt t ∧ dlt t ≤ 1 := by
  unfold dlt
  split
  · omega
  · split <;> omega
theorem lo_b : ∀ l : List Int, (∀ d ∈ l, -1 ≤ d ∧ d ≤ 1) → -(l.length : Int) ≤ lo l ∧ l.sum ≤ l.length ∧ -(l.length : Int) ≤ l.sum
  | [], _ => by simp [lo]
  | d :: r, h => by
    rw [List.forall_mem_cons] at h
    have ih := lo_b r h.2
    have hl : ((d :: r).length : Int) = r.length + 1 := by simp
    rw [List.sum_cons]
    show -((d :: r).length : Int) ≤ min 0 (d + lo r) ∧ _
    omega
theorem toks_len : ∀ ts : List (List Nat), (∀ t ∈ ts, okT t) → ts.length ≤ ts.flatten.length
  | [], _ => Nat.le_refl _
  | t :: r, h => by
    rw [List.forall_mem_cons] at h
    have ih := toks_len r h.2
    have h1 : 1 ≤ t.length := by
      rcases h.1 with rfl | ⟨c, rfl⟩ | ⟨c, rfl, _⟩ <;> simp
    rw [List.flatten_cons, List.length_append, List.length_cons]; omega
theorem dls_b {ts : List (List Nat)} (hok : ∀ t ∈ ts, okT t) (hl : ts.flatten.length ≤ 300) : -300 ≤ lo (dls ts) ∧ lo (dls ts) ≤ 0 ∧ lo (dls ts) ≤ (dls ts).sum ∧ (dls ts).sum ≤ 300 := by
  have h1 := lo_b (dls ts) (fun d hd => by obtain ⟨t, _, rfl⟩ := List.mem_map.mp hd; exact dlt_b t)
  have h2 : (dls ts).length ≤ ts.length := by
    unfold dls
    rw [List.length_map]
    exact List.length_filter_le ..
  have h3 := toks_len ts hok
  have h4 := lo_le (dls ts)
  have h5 := lo_sum (dls ts)
  omega
theorem flat_map_len {P : List Int} {tk : Int → List (List Nat)} (h : ∀ y ∈ P, (tk y).flatten.length ≤ 3) : (P.flatMap tk).flatten.length ≤ 3 * P.length := by
  induction P with
  | nil => simp
  | cons y r ih =>
    rw [List.forall_mem_cons] at h
    have := ih h.2
    have := h.1
    rw [List.flatMap_cons, List.flatten_append, List.length_append, List.length_cons]; omega
theorem texts_flat {P : List Int} {tx : Int → Str} {tk : Int → List (List Nat)} (h : ∀ y ∈ P, (tx y).cps.toList = (tk y).flatten) : ((P.map tx).map (·.cps.toList)).flatten = (P.flatMap tk).flatten := by
  induction P with
  | nil => rfl
  | cons y r ih =>
    rw [List.forall_mem_cons] at h
    rw [List.map_cons, List.map_cons, List.flatten_cons, ih h.2, h.1, List.flatMap_cons, List.flatten_append]
theorem texts_sum {P : List Int} {tx : Int → Str} (h : ∀ y ∈ P, (tx y).length ≤ 3) : ((P.map tx).map (·.length)).sum ≤ 3 * P.length := by
  induction P with
  | nil => simp
  | cons y r ih =>
    rw [List.forall_mem_cons] at h
    have := ih h.2
    have := h.1
    rw [List.map_cons, List.map_cons, List.sum_cons, List.length_cons]; omega
end
local macro_rules | `(tactic| walk_at "exec Assign cons ListComp") => `(tactic| refine Hold.mk ?_)
local macro_rules | `(tactic| walk_at "compareOp NotEq ref ref") => `(tactic| refine Hold.mk ?_)
local macro_rules | `(tactic| walk_at "CompSrc") => `(tactic| refine Hold.mk ?_)
section
variable {prog : Program} {w : World} {loose : List Str} {mean : ExcName → Option Value} {mg mb : Str → Option Value} {dp un : Nat} {gd : Option (List Code)} {cn : Str} {cs : Scope} {a : Addr} {ccd : Value} {cl : List (Str × Addr)} {outer : List Env} {A₀ : Around} {base h₀ : Heap} {L : Addr} {m : Str → Option Value} {news : List (Addr × Obj)} {s : Shared} {Q E : Value → Shared → Prop}
theorem range_flat {α : Type} (f : Int → List α) : ∀ R : List Int, (List.range R.length).flatMap (fun k => f (R.getD k 0)) = R.flatMap f
  | [] => rfl
  | x :: r => by
    rw [List.length_cons, List.range_succ_eq_map, List.flatMap_cons, List.flatMap_map, List.flatMap_cons, ← range_flat f r]
    rfl
theorem subst_len {n0 n1 n2 : Int} {P0 P1 P2 : List Int} (h0 : P0.length ≤ 100) (h1 : P1.length ≤ 100) (h2 : P2.length ≤ 100) (x : Int) : (substL [n0, n1, n2] [P0, P1, P2] x).length ≤ 200 := by
  unfold substL
  split
  · rw [List.getD_eq_getElem?_getD]
    rcases h : [P0, P1, P2][[n0, n1, n2].idxOf x]? with _ | r
    · exact Nat.zero_le _
    · have := List.mem_of_getElem? h
      simp only [List.mem_cons, List.not_mem_nil, or_false] at this
      show r.length ≤ 200
      rcases this with rfl | rfl | rfl <;> omega
  · exact Nat.le_of_ble_eq_true rfl
theorem mem7 {a1 a2 a3 a4 a5 a6 a7 q : Addr × Obj} {l : List (Addr × Obj)} (h : q ∈ l) : q ∈ a1 :: a2 :: a3 :: a4 :: a5 :: a6 :: a7 :: l := by simp [h]
theorem news_next {h : Heap} {a b c d e : Addr × Obj} {l : List (Addr × Obj)} (N : News h₀ L h (a :: b :: c :: d :: e :: l)) : News h₀ L h (c :: d :: e :: a :: b :: l) := fun p hp => N p (by
  simp only [List.mem_cons] at hp ⊢
  rcases hp with h | h | h | h | h | h <;> simp [h])
theorem next_part {o5 o4 o3 o2 : Obj} {O Hh ds K Rl o0 o1 o2a h0 h1 h2 a0 a1 a2 : Addr} {kv ov0 ov1 ov2 rv0 rv1 rv2 : List Value} {nO n0' n1' n2' nH m0 m1 m2 nk nr l0 l1 l2 : Nat} {n0 n1 n2 : Int} {x0 x1 x2 y0 y1 y2 : Int} {u0 u1 u2 v0 v1 v2 : Tok} {P0 P1 P2 R0 R1 R2 : List Int} {fq : List (Addr × Obj)} {QF : Flow → Shared → Prop} {EF : Value → Shared → Prop}
   (B : Below A₀ base outer h₀) (F : Fr h₀ L s.heap m) (X : (hd.heap_1 w.params).In h₀)
   (N : News h₀ L s.heap ((L + 1 + 1 + 1 + 1 + 1 + 1, o5) :: (L + 1 + 1 + 1 + 1 + 1, o4) :: (L + 1 + 1 + 1 + 1, o3) :: fq))
   (T : Top topProg loose mean mg mb h₀) (hdp : dp + 200 < recursionLimit) (hun : un + 2000 < cLine)
   (hz5 : ∀ q ∈ fq, q.1 ≠ L + 1 + 1 + 1 + 1 + 1 + 1) (hz4 : ∀ q ∈ fq, q.1 ≠ L + 1 + 1 + 1 + 1 + 1) (hz3 : ∀ q ∈ fq, q.1 ≠ L + 1 + 1 + 1 + 1)
   (d5 : o5.data = .cell (some (.ref Hh))) (d4 : o4.data = .cell (some (.ref O))) (d3 : o3.data = .cell (some (.ref ds))) (hc2 : (L + 1 + 1 + 1, o2) ∈ fq) (d2 : o2.data = .cell (some (.ref K)))
   (hK : (K, W.listOf kv.toArray nk) ∈ fq) (hkv : IntsAre kv [n0, n1, n2])
   (hO : (O, W.listOf [Value.ref o0, .ref o1, .ref o2a].toArray nO) ∈ fq) (ho0 : (o0, W.listOf ov0.toArray n0') ∈ fq) (hi0 : IntsAre ov0 P0) (ho1 : (o1, W.listOf ov1.toArray n1') ∈ fq) (hi1 : IntsAre ov1 P1) (ho2 : (o2a, W.listOf ov2.toArray n2') ∈ fq) (hi2 : IntsAre ov2 P2)
   (hp0 : P0.length ≤ 100) (hp1 : P1.length ≤ 100) (hp2 : P2.length ≤ 100)
   (hH : (Hh, W.listOf [Value.ref h0, .ref h1, .ref h2].toArray nH) ∈ fq) (hh0 : (h0, W.listOf [Value.int x0 u0, .int y0 v0].toArray m0) ∈ fq) (hh1 : (h1, W.listOf [Value.int x1 u1, .int y1 v1].toArray m1) ∈ fq) (hh2 : (h2, W.listOf [Value.int x2 u2, .int y2 v2].toArray m2) ∈ fq)
   (hRm : (Rl, W.listOf [Value.ref a0, .ref a1, .ref a2].toArray nr) ∈ fq) (ha0 : (a0, W.listOf rv0.toArray l0) ∈ fq) (hr0 : IntsAre rv0 R0) (ha1 : (a1, W.listOf rv1.toArray l1) ∈ fq) (hr1 : IntsAre rv1 R1) (ha2 : (a2, W.listOf rv2.toArray l2) ∈ fq) (hr2 : IntsAre rv2 R2)
   (hrl : ∀ r ∈ [R0, R1, R2], r.length ≤ 3)
   (hRl : m (Str.ofString "rules") = some (.ref Rl))
   (ret : ∀ (h' : Heap) (tk' : Nat) (Ow Hw : Addr) (ysO : List Value) (entsO : List (Addr × Obj)) (ysH : List Value) (entsH : List (Addr × Obj)) (o5' o4' : Obj) (fq' : List (Addr × Obj)), Fr h₀ L h' (fun y => if y = Str.ofString "rules" then some (.ref Rl) else m y) →
     News h₀ L h' ((L + 1 + 1 + 1 + 1 + 1 + 1, o5') :: (L + 1 + 1 + 1 + 1 + 1, o4') :: (L + 1 + 1 + 1 + 1, o3) :: fq') → (∀ q ∈ fq, q ∈ fq') → (∀ q ∈ fq', q.1 ≠ L + 1 + 1 + 1 + 1 + 1 + 1) → (∀ q ∈ fq', q.1 ≠ L + 1 + 1 + 1 + 1 + 1) → (∀ q ∈ fq', q.1 ≠ L + 1 + 1 + 1 + 1) →
     o5'.data = .cell (some (.ref Hw)) → o4'.data = .cell (some (.ref Ow)) → Rows3 3 (fun j => ([R0, R1, R2].getD j []).flatMap (substL [n0, n1, n2] [P0, P1, P2])) ysO entsO →
     Rows3 3 (fun j => [(joinL [n0, n1, n2] [(x0, y0), (x1, y1), (x2, y2)] ([R0, R1, R2].getD j [])).1, (joinL [n0, n1, n2] [(x0, y0), (x1, y1), (x2, y2)] ([R0, R1, R2].getD j [])).2]) ysH entsH →
     (Ow, LCg.lst ysO) ∈ fq' → (Hw, LCg.lst ysH) ∈ fq' → (∀ q ∈ entsO, q ∈ fq') → (∀ q ∈ entsH, q ∈ fq') → QF .next { s with heap := h', toks := tk' }) :
   wpAny (model prog w) (ktrTop dp un gd (Str.ofString "law") lawScope L a ccd (cellsFrom (L + 1) lawScope.names []) outer) (execs (loopBody.drop 7) (envX (Str.ofString "law") lawScope L a ccd (cellsFrom (L + 1) lawScope.names []))) QF EF s := by
  have e : lawScope = lawScope := rfl
  conv at e => rhs; whnf
  rw [e]
  clear e
  conv => arg 3; arg 1; whnf
  rw [loc1 hRl (fun y _ => rfl)] at F
  obtain ⟨t0, t1, t2, rfl⟩ := ints3 hkv
  k_steps
  refine Hold.out ?_
  with_reducible refine wpAny_Assign_Name ?_ ?_
  rotate_left
  · with_unfolding_all rfl
  k_dflt (refine LCg.ListComp_U (F₀ := by k_asm) (by with_unfolding_all rfl) (by decide) (by rfl) (by decide) (by rfl) ?_)
  k_steps
  refine Hold.out ?_
  rename Fr _ _ _ _ => F2
  rename News _ _ _ _ => N2
  have hRm3 : (Rl, W.listOf [Value.ref a0, .ref a1, .ref a2].toArray nr) ∈ (L + 1 + 1 + 1 + 1 + 1 + 1, o5) :: (L + 1 + 1 + 1 + 1 + 1, o4) :: (L + 1 + 1 + 1 + 1, o3) :: fq := .tail _ (.tail _ (.tail _ hRm))
  refine LCg.CompSrc.ledger (by rfl) F2 N2 hRm3 (by rw [sizeLine_eq]; exact Nat.le_of_ble_eq_true rfl) ?_
  intro g3
  refine comp_lists 3 (fun j => ([R0, R1, R2].getD j []).flatMap (substL [n0, n1, n2] [P0, P1, P2])) ?hS ?turn ?fin
  case hS => exact fun ents => .inr ⟨_, List.mem_append_left _ hRm3, rfl, _, rfl⟩
  case turn =>
    intro i v ys ents I oI C1 oC D m₂ h tk E' hi hv hR hn hm F3 N3 off hne
    refine gen_Q fun Pf qf => ?_
    simp only [List.cons_append, List.nil_append] at N3
    obtain ⟨aj, rvj, lj, Rj, rfl, haj, hij, hRj, hlj⟩ : ∃ aj rvj lj Rj, v = .ref aj ∧ (aj, W.listOf rvj.toArray lj) ∈ fq ∧ IntsAre rvj Rj ∧ [R0, R1, R2].getD i [] = Rj ∧ Rj.length ≤ 3 := by
      match i, hi, hv with
      | 0, _, e => cases e; exact ⟨a0, rv0, l0, R0, rfl, ha0, hr0, rfl, hrl _ (.head _)⟩
      | 1, _, e => cases e; exact ⟨a1, rv1, l1, R1, rfl, ha1, hr1, rfl, hrl _ (.tail _ (.head _))⟩
      | 2, _, e => cases e; exact ⟨a2, rv2, l2, R2, rfl, ha2, hr2, rfl, hrl _ (.tail _ (.tail _ (.head _)))⟩
    k_steps
    refine Hold.out ?_
    k_dflt (refine ListComp2 (F₀ := by k_asm) (by rfl) (by with_unfolding_all rfl) (by decide) (by rfl) (by decide) (by rfl) (by rfl) (by decide) ?_)
    k_steps
    rename Fr _ _ _ _ => F4
    rename News _ _ _ _ => N4
    have hajm : (aj, W.listOf rvj.toArray lj) ∈ (I, oI) :: (C1, oC) :: (D, LCg.lst ys) :: (L + 1 + 1 + 1 + 1 + 1 + 1, o5) :: (L + 1 + 1 + 1 + 1 + 1, o4) :: (L + 1 + 1 + 1 + 1, o3) :: (fq ++ ents) := .tail _ (.tail _ (.tail _ (.tail _ (.tail _ (.tail _ (List.mem_append_left _ haj))))))
    have hrl8 : rvj.length ≤ 8 := by have := hij.length; omega
    refine ⟨aj, rvj, lj, _, fun k => substL [n0, n1, n2] [P0, P1, P2] (Rj.getD k 0), rfl, F4, N4, hajm, hrl8, ?hG2, ?turn2, ?fin2⟩
    case hG2 =>
      intro k
      exact subst_len hp0 hp1 hp2 _
    case fin2 =>
      intro D2 ys2 h5 tk5 F5 N5 hne5 hys5
      rw [hij.length, range_flat] at hys5
      refine qf _ _ (ListEnd.mk0 F5 N5 ?_ hne5)
      show IntsAre ys2 (([R0, R1, R2].getD i []).flatMap _)
      rw [hRj]; exact hys5
    case turn2 =>
      intro k v2 hv2 I2 oI2 C2 oC2 D2 m3 ys2 h5 tk5 hn2 hm2 F5 N5 off2 hne2
      refine gen_Q fun Pg qg => ?_
      obtain ⟨sy, tsy, hsy, rfl⟩ := ints_at hij hv2
      have hgk : Rj.getD k 0 = sy := by rw [List.getD_eq_getElem?_getD, hsy]; rfl
      have hlt5 := news_lt N5
      have fqm : ∀ q, q ∈ fq → q ∈ fq ++ ents := fun q hq => List.mem_append_left _ hq
      have hc2' := fqm _ hc2
      have hK' := fqm _ hK
      have hO' := fqm _ hO
      k_steps
      refine Hold.out ?_
      rename News _ _ _ _ => N6
      by_cases hin : sy ∈ [n0, n1, n2]
      · obtain ⟨jx, hkf, hji, hjl⟩ := kf_idx (t := t0) (u := t1) (w := t2) hin
        obtain ⟨ox, ovx, nx, hox, hoxm, hix, hPx⟩ : ∃ ox ovx nx, [Value.ref o0, .ref o1, .ref o2a][((jx : Nat) : Int).toNat]? = some (.ref ox) ∧ (ox, W.listOf ovx.toArray nx) ∈ fq ∧ IntsAre ovx ([P0, P1, P2].getD jx []) ∧ True := by
          match jx, hjl with
          | 0, _ => exact ⟨_, _, _, rfl, ho0, hi0, trivial⟩
          | 1, _ => exact ⟨_, _, _, rfl, ho1, hi1, trivial⟩
          | 2, _ => exact ⟨_, _, _, rfl, ho2, hi2, trivial⟩
        refine kf_in N6 (by k_mem) rfl (any3'.trans (decide_eq_true hin)) ?_
        k_steps
        refine Hold.out ?_
        rename News _ _ _ _ => N7
        refine kf_index N7 (by k_mem) rfl hkf rfl (by rw [sizeLine_eq]; exact Nat.le_of_ble_eq_true rfl) ?_
        k_steps
        have hPs : substL [n0, n1, n2] [P0, P1, P2] (Rj.getD k 0) = [P0, P1, P2].getD jx [] := by
          rw [hgk]
          unfold substL
          rw [if_pos hin, hji]
        have hoxl : (ox, W.listOf ovx.toArray nx) ∈ (I, oI) :: (C1, oC) :: (D, LCg.lst ys) :: (L + 1 + 1 + 1 + 1 + 1 + 1, o5) :: (L + 1 + 1 + 1 + 1 + 1, o4) :: (L + 1 + 1 + 1 + 1, o3) :: (fq ++ ents) := .tail _ (.tail _ (.tail _ (.tail _ (.tail _ (.tail _ (List.mem_append_left _ hoxm))))))
        have hoff := off2.mem _ hoxl
        rename Fr _ _ _ _ => F8
        rename News _ _ _ _ => N8
        refine qg _ _ (L2End.mk (rv := ovx) (nn := nx) F8 N8 (fun p hp => ?_) hoff.1 hoff.2.1 hoff.2.2 (by show IntsAre _ (substL [n0, n1, n2] [P0, P1, P2] (Rj.getD k 0)); rw [hPs]; exact hix))
        rcases List.mem_cons.mp hp with rfl | hp
        · exact .head _
        rcases List.mem_cons.mp hp with rfl | hp
        · exact .tail _ (.head _)
        rcases List.mem_cons.mp hp with rfl | hp
        · exact .tail _ (.tail _ (.head _))
        rcases List.mem_cons.mp hp with rfl | hp
        · exact .tail _ (.tail _ (.tail _ hoxl))
        · exact .tail _ (.tail _ (.tail _ hp))
      · refine kf_in N6 (by k_mem) rfl (any3'.trans (decide_eq_false hin)) ?_
        k_steps
        have hPs : substL [n0, n1, n2] [P0, P1, P2] (Rj.getD k 0) = [sy] := by
          rw [hgk]
          unfold substL
          rw [if_neg hin]
        rename Fr _ _ _ _ => F8
        rename News _ _ _ _ => N8
        rename _ ∧ _ => l8
        refine qg _ _ (L2End.mk (rv := [.int sy tsy]) (nn := 0) F8 N8 (fun p hp => ?_) (Ne.symm (Nat.ne_of_lt l8.1)) (Ne.symm (Nat.ne_of_lt l8.2.1)) (Ne.symm (Nat.ne_of_lt l8.2.2.1)) (by show IntsAre _ (substL [n0, n1, n2] [P0, P1, P2] (Rj.getD k 0)); rw [hPs]; exact .cons _ _ .nil))
        rcases List.mem_cons.mp hp with rfl | hp
        · exact .tail _ (.head _)
        rcases List.mem_cons.mp hp with rfl | hp
        · exact .tail _ (.tail _ (.head _))
        rcases List.mem_cons.mp hp with rfl | hp
        · exact .tail _ (.tail _ (.tail _ (.head _)))
        rcases List.mem_cons.mp hp with rfl | hp
        · exact .head _
        · exact .tail _ (.tail _ (.tail _ (.tail _ hp)))
  case fin =>
    intro ysO entsO hRO hEO
    unfold LCg.FinE
    intro Ow h5 tk5 F5 N5 off5
    have hOwo := off1_mem off5
    clear off5
    simp only [List.cons_append] at N5 hOwo
    have hze5 : ∀ q ∈ fq ++ entsO, q.1 ≠ L + 1 + 1 + 1 + 1 + 1 + 1 := fun q hq => (List.mem_append.mp hq).elim (hz5 q) (fun h => Ne.symm (hEO q h _ (.head _)))
    have hze4 : ∀ q ∈ fq ++ entsO, q.1 ≠ L + 1 + 1 + 1 + 1 + 1 := fun q hq => (List.mem_append.mp hq).elim (hz4 q) (fun h => Ne.symm (hEO q h _ (.tail _ (.head _))))
    have hze3 : ∀ q ∈ fq ++ entsO, q.1 ≠ L + 1 + 1 + 1 + 1 := fun q hq => (List.mem_append.mp hq).elim (hz3 q) (fun h => Ne.symm (hEO q h _ (.tail _ (.tail _ (.head _)))))
    have hOw5 := Ne.symm (hOwo _ (.head _))
    have hOw4 := Ne.symm (hOwo _ (.tail _ (.head _)))
    have hOw3 := Ne.symm (hOwo _ (.tail _ (.tail _ (.head _))))
    dsimp only at hOw5 hOw4 hOw3
    have fqm : ∀ q, q ∈ fq → q ∈ fq ++ entsO := fun q hq => List.mem_append_left _ hq
    have hc2' := fqm _ hc2
    have hK' := fqm _ hK
    dsimp only
    k_steps
    refine Hold.out ?_
    with_reducible refine wpAny_Assign_Name ?_ ?_
    rotate_left
    · with_unfolding_all rfl
    k_dflt (refine LCg.ListComp_U (F₀ := by k_asm) (by with_unfolding_all rfl) (by decide) (by rfl) (by decide) (by rfl) ?_)
    k_steps
    refine Hold.out ?_
    rename Fr _ _ _ _ => F6
    rename News _ _ _ _ => N6
    refine LCg.CompSrc.ledger (by rfl) F6 N6 (.tail _ (.tail _ (.tail _ (.tail _ (fqm _ hRm))))) (by rw [sizeLine_eq]; exact Nat.le_of_ble_eq_true rfl) ?_
    intro g7
    refine comp_lists 3 (fun j => [(joinL [n0, n1, n2] [(x0, y0), (x1, y1), (x2, y2)] ([R0, R1, R2].getD j [])).1, (joinL [n0, n1, n2] [(x0, y0), (x1, y1), (x2, y2)] ([R0, R1, R2].getD j [])).2]) ?hS2 ?turn3 ?fin3
    case hS2 => exact fun ents => .inr ⟨_, List.mem_append_left _ (.tail _ (.tail _ (.tail _ (.tail _ (fqm _ hRm))))), rfl, _, rfl⟩
    case turn3 =>
      intro i v ys ents I oI C1 oC D m₂ h tk E' hi hv hR hn hm F8 N8 off hne
      refine gen_Q fun Ph qh => ?_
      simp only [List.cons_append] at N8
      obtain ⟨aj, rvj, lj, Rj, rfl, haj, hij, hRj, hlj⟩ : ∃ aj rvj lj Rj, v = .ref aj ∧ (aj, W.listOf rvj.toArray lj) ∈ fq ∧ IntsAre rvj Rj ∧ [R0, R1, R2].getD i [] = Rj ∧ Rj.length ≤ 3 := by
        match i, hi, hv with
        | 0, _, e => cases e; exact ⟨a0, rv0, l0, R0, rfl, ha0, hr0, rfl, hrl _ (.head _)⟩
        | 1, _, e => cases e; exact ⟨a1, rv1, l1, R1, rfl, ha1, hr1, rfl, hrl _ (.tail _ (.head _))⟩
        | 2, _, e => cases e; exact ⟨a2, rv2, l2, R2, rfl, ha2, hr2, rfl, hrl _ (.tail _ (.tail _ (.head _)))⟩
      have fqm2 : ∀ q, q ∈ fq → q ∈ (fq ++ entsO) ++ ents := fun q hq => List.mem_append_left _ (List.mem_append_left _ hq)
      have hc2'' := fqm2 _ hc2
      k_steps
      refine Hold.out ?_
      rename Fr _ _ _ _ => F9
      rename News _ _ _ _ => N9
      k_dflt (refine' joined_spec (hs := [(x0, y0), (x1, y1), (x2, y2)]) ?B1 F9 ?X1 N9 ?T1 ?hk1 ?hdp1 ?hun1 (mem7 (fqm2 _ haj)) hij (mem7 (fqm2 _ hK)) hkv (mem7 (fqm2 _ hH)) ?hhs1 rfl ?_)
      case B1 => k_asm
      case X1 => k_asm
      case T1 => k_asm
      case hk1 => exact rfl
      case hdp1 => exact room0 (b := 40) hdp (Nat.le_of_ble_eq_true rfl)
      case hun1 => exact room0 (b := 400) hun (Nat.le_of_ble_eq_true rfl)
      case hhs1 =>
        intro i q hq
        match i, hq with
        | 0, e => cases e; exact ⟨h0, m0, u0, v0, rfl, mem7 (fqm2 _ hh0)⟩
        | 1, e => cases e; exact ⟨h1, m1, u1, v1, rfl, mem7 (fqm2 _ hh1)⟩
        | 2, e => cases e; exact ⟨h2, m2, u2, v2, rfl, mem7 (fqm2 _ hh2)⟩
        | n + 3, e => cases e
      intro h10 tk10 a10 nn10 u10 v10 F10 N10 hlt10
      k_steps
      refine qh _ _ (ListEnd.mk0 (rv := [_, _]) F10 N10 ?_ (fun p hp => Nat.ne_of_lt (hlt10 p hp)))
      show IntsAre _ [(joinL _ _ ([R0, R1, R2].getD i [])).1, (joinL _ _ ([R0, R1, R2].getD i [])).2]
      rw [hRj]
      exact .cons _ _ (.cons _ _ .nil)
    case fin3 =>
      intro ysH entsH hRH hEH
      unfold LCg.FinE
      intro Hw h8 tk8 F8 N8 off8
      have hHwo := off1_mem off8
      clear off8
      simp only [List.cons_append] at N8 hHwo
      have hzf5 : ∀ q ∈ (fq ++ entsO) ++ entsH, q.1 ≠ L + 1 + 1 + 1 + 1 + 1 + 1 := fun q hq => (List.mem_append.mp hq).elim (hze5 q) (fun h => Ne.symm (hEH q h _ (.tail _ (.head _))))
      have hzf4 : ∀ q ∈ (fq ++ entsO) ++ entsH, q.1 ≠ L + 1 + 1 + 1 + 1 + 1 := fun q hq => (List.mem_append.mp hq).elim (hze4 q) (fun h => Ne.symm (hEH q h _ (.tail _ (.tail _ (.head _)))))
      have hzf3 : ∀ q ∈ (fq ++ entsO) ++ entsH, q.1 ≠ L + 1 + 1 + 1 + 1 := fun q hq => (List.mem_append.mp hq).elim (hze3 q) (fun h => Ne.symm (hEH q h _ (.tail _ (.tail _ (.tail _ (.head _))))))
      have hHw5 := Ne.symm (hHwo _ (.tail _ (.head _)))
      have hHw4 := Ne.symm (hHwo _ (.tail _ (.tail _ (.head _))))
      have hHw3 := Ne.symm (hHwo _ (.tail _ (.tail _ (.tail _ (.head _)))))
      dsimp only at hHw5 hHw4 hHw3
      dsimp only
      k_steps
      rename Fr _ _ _ _ => F9
      rename News _ _ _ _ => N9
      refine ret _ _ Ow Hw ysO entsO ysH entsH _ _ ((Hw, LCg.lst ysH) :: (Ow, LCg.lst ysO) :: ((fq ++ entsO) ++ entsH)) F9 (news_next N9) (fun q hq => .tail _ (.tail _ (List.mem_append_left _ (fqm q hq)))) ?r5 ?r4 ?r3 (by assumption) (by assumption) hRO hRH (.tail _ (.head _)) (.head _) (fun q hq => .tail _ (.tail _ (List.mem_append_left _ (List.mem_append_right _ hq)))) (fun q hq => .tail _ (.tail _ (List.mem_append_right _ hq)))
      case r5 => exact List.forall_mem_cons.mpr ⟨hHw5, List.forall_mem_cons.mpr ⟨hOw5, hzf5⟩⟩
      case r4 => exact List.forall_mem_cons.mpr ⟨hHw4, List.forall_mem_cons.mpr ⟨hOw4, hzf4⟩⟩
      case r3 => exact List.forall_mem_cons.mpr ⟨hHw3, List.forall_mem_cons.mpr ⟨hOw3, hzf3⟩⟩
end
section
variable {prog : Program} {w : World} {loose : List Str} {mean : ExcName → Option Value} {mg mb : Str → Option Value} {dp un : Nat} {gd : Option (List Code)} {cn : Str} {cs : Scope} {a : Addr} {ccd : Value} {cl : List (Str × Addr)} {outer : List Env} {A₀ : Around} {base h₀ : Heap} {L : Addr} {m : Str → Option Value} {news : List (Addr × Obj)} {s : Shared} {Q E : Value → Shared → Prop}
local macro_rules | `(tactic| walk_at "subscriptTail") => `(tactic| (k_here; (with_reducible show wpAny _ _ (subscriptTail _ (Expr.Name _ _) (Value.ref _) _) _ _ _); refine Hold.mk ?_))
local macro_rules | `(tactic| walk_at "binaryOp Mult str int") => `(tactic| refine Hold.mk ?_)
local macro_rules | `(tactic| walk_at "binaryOp Add str str") => `(tactic| refine Hold.mk ?_)
local macro_rules | `(tactic| walk_at "execs cons") => `(tactic| (k_here; (with_reducible show wpAny _ _ (execs (Stmt.Assign _ (Expr.ListComp _ _ _ _) _ :: _) _) _ _ _); refine Hold.mk ?_))
theorem news_d {h : Heap} {a b c d : Addr × Obj} {l : List (Addr × Obj)} (N : News h₀ L h (a :: b :: c :: d :: l)) : News h₀ L h (b :: c :: d :: (a :: l)) := fun p hp => N p (by
  simp only [List.mem_cons] at hp ⊢
  rcases hp with h | h | h | h | h <;> simp [h])
noncomputable def B3 (p : Int) : Prop := -100000 ≤ p ∧ p ≤ 100000 ∧ p.toNat ≤ 1000
theorem B3.of {p : Int} (h : -301 ≤ p) (h2 : p ≤ 601) : B3 p := ⟨Int.le_trans (by decide) h, Int.le_trans h2 (by decide), Int.toNat_le.mpr (Int.le_trans h2 (by decide))⟩
theorem ask_b {x y : Int} (h : -300 ≤ x ∧ x ≤ 0 ∧ x ≤ y ∧ y ≤ 300) : 0 ≤ -x ∧ 0 ≤ -x + y ∧ B3 (-x) ∧ B3 (-x + 1) ∧ B3 (-x - 1) ∧ B3 (-x + y) ∧ B3 (-x + y - 1) := by
  have a : 0 ≤ -x := Int.neg_nonneg_of_nonpos h.2.1
  have b : -x ≤ 300 := Int.neg_le_neg h.1
  have c : 0 ≤ -x + y := by rw [Int.add_comm]; exact Int.sub_nonneg_of_le h.2.2.1
  have d : -x + y ≤ 600 := Int.add_le_add b h.2.2.2
  exact ⟨a, c, .of (Int.le_trans (by decide) a) (Int.le_trans b (by decide)), .of (Int.add_le_add (Int.le_trans (show (-302 : Int) ≤ 0 by decide) a) (Int.le_refl 1)) (Int.le_trans (Int.add_le_add_right b 1) (by decide)),
    .of (Int.add_le_add (Int.le_trans (show (-300 : Int) ≤ 0 by decide) a) (Int.le_refl (-1))) (Int.le_trans (Int.add_le_add_right b (-1)) (by decide)), .of (Int.le_trans (by decide) c) (Int.le_trans d (by decide)),
    .of (Int.add_le_add (Int.le_trans (show (-300 : Int) ≤ 0 by decide) c) (Int.le_refl (-1))) (Int.le_trans (Int.add_le_add_right d (-1)) (by decide))⟩
theorem ask_t {x y : Int} (h : -300 ≤ x ∧ x ≤ 0 ∧ x ≤ y ∧ y ≤ 300) : 0 ≤ ((-x).toNat : Int) + x ∧ ((-x).toNat : Int) + y = ((-x + y).toNat : Int) := by
  have k := ask_b h
  rw [Int.toNat_of_nonneg k.1, Int.toNat_of_nonneg k.2.1, Int.add_left_neg]
  exact ⟨Int.le_refl 0, rfl⟩
theorem ask_f {x y : Int} {P : Prop} (h : -300 ≤ x ∧ x ≤ 0 ∧ x ≤ y ∧ y ≤ 300) : ¬ (P ∧ ((-x + 1).toNat : Int) + y = ((-x + y).toNat : Int)) := by
  have k := ask_b h
  rw [Int.toNat_of_nonneg (Int.add_nonneg k.1 (by decide)), Int.toNat_of_nonneg k.2.1, Int.add_right_comm]
  exact fun e => absurd e.2 (Int.ne_of_gt (Int.lt_succ _))
theorem ask_g {x : Int} {P : Prop} (h : x ≤ 0) (hx : x ≠ 0) : ¬ (0 ≤ ((-x - 1).toNat : Int) + x ∧ P) := by
  have k : 0 ≤ -x - 1 := Int.sub_nonneg_of_le (show (1 : Int) ≤ -x from Int.neg_pos_of_neg (Int.lt_iff_le_and_ne.mpr ⟨h, hx⟩))
  rw [Int.toNat_of_nonneg k, Int.sub_eq_add_neg, Int.add_right_comm, Int.add_left_neg]
  exact fun e => absurd e.1 (by decide)
theorem sz2 {n c : Nat} {l : List Nat} (h : n ≤ 1000) (hl : l.length ≤ 300) : (List.replicate n c).length + l.length ≤ 1000000 := by
  rw [List.length_replicate]; exact Nat.le_trans (Nat.add_le_add h hl) (by decide)
theorem sz3 {n c k d : Nat} {l : List Nat} (h : n ≤ 1000) (hl : l.length ≤ 300) (hk : k ≤ 1000) : (List.replicate n c ++ l).length + (List.replicate k d).length ≤ 1000000 := by
  rw [List.length_append, List.length_replicate, List.length_replicate]; exact Nat.le_trans (Nat.add_le_add (Nat.add_le_add h hl) hk) (by decide)
theorem turn_part {o5 o4 o3 o2 : Obj} {O Hh ds K Rl rw o0 o1 o2a h0 h1 h2 a0 a1 a2 : Addr} {ods : Obj} {kv ov0 ov1 ov2 rv rv0 rv1 rv2 : List Value} {nO n0' n1' n2' nH m0 m1 m2 nk nr nw l0 l1 l2 : Nat} {n0 n1 n2 : Int} {x0 x1 x2 y0 y1 y2 : Int} {u0 u1 u2 v0 v1 v2 : Tok} {P0 P1 P2 R0 R1 R2 : List Int} {fq : List (Addr × Obj)} {kvs : List (Int × Value)} {QF : Flow → Shared → Prop} {EF : Value → Shared → Prop}
   (B : Below A₀ base outer h₀) (F : Fr h₀ L s.heap m) (X : (hd.heap_1 w.params).In h₀)
   (N : News h₀ L s.heap ((L + 1 + 1 + 1 + 1 + 1 + 1, o5) :: (L + 1 + 1 + 1 + 1 + 1, o4) :: (L + 1 + 1 + 1 + 1, o3) :: fq))
   (T : Top topProg loose mean mg mb h₀) (hdp : dp + 200 < recursionLimit) (hun : un + 2000 < cLine) (hb : AllBare s.gens)
   (hz5 : ∀ q ∈ fq, q.1 ≠ L + 1 + 1 + 1 + 1 + 1 + 1) (hz4 : ∀ q ∈ fq, q.1 ≠ L + 1 + 1 + 1 + 1 + 1) (hz3 : ∀ q ∈ fq, q.1 ≠ L + 1 + 1 + 1 + 1)
   (d5 : o5.data = .cell (some (.ref Hh))) (d4 : o4.data = .cell (some (.ref O))) (d3 : o3.data = .cell (some (.ref ds))) (hc2 : (L + 1 + 1 + 1, o2) ∈ fq) (d2 : o2.data = .cell (some (.ref K)))
   (hK : (K, W.listOf kv.toArray nk) ∈ fq) (hkv : IntsAre kv [n0, n1, n2])
   (hO : (O, W.listOf [Value.ref o0, .ref o1, .ref o2a].toArray nO) ∈ fq) (ho0 : (o0, W.listOf ov0.toArray n0') ∈ fq) (hi0 : IntsAre ov0 P0) (ho1 : (o1, W.listOf ov1.toArray n1') ∈ fq) (hi1 : IntsAre ov1 P1) (ho2 : (o2a, W.listOf ov2.toArray n2') ∈ fq) (hi2 : IntsAre ov2 P2)
   (hp0 : P0.length ≤ 100) (hp1 : P1.length ≤ 100) (hp2 : P2.length ≤ 100)
   (hRm : (Rl, W.listOf [Value.ref a0, .ref a1, .ref a2].toArray nr) ∈ fq) (ha0 : (a0, W.listOf rv0.toArray l0) ∈ fq) (hr0 : IntsAre rv0 R0) (ha1 : (a1, W.listOf rv1.toArray l1) ∈ fq) (hr1 : IntsAre rv1 R1) (ha2 : (a2, W.listOf rv2.toArray l2) ∈ fq) (hr2 : IntsAre rv2 R2)
   (hrl3 : ∀ r ∈ [R0, R1, R2], r.length ≤ 3)
   (hh1 : (h1, W.listOf [Value.int x1 u1, .int y1 v1].toArray m1) ∈ fq) (hh2 : (h2, W.listOf [Value.int x2 u2, .int y2 v2].toArray m2) ∈ fq)
   (hH : (Hh, W.listOf [Value.ref h0, .ref h1, .ref h2].toArray nH) ∈ fq) (hh0 : (h0, W.listOf [Value.int x0 u0, .int y0 v0].toArray m0) ∈ fq)
   (hds : (ds, ods) ∈ fq) (hdict : ods.IsDictOf (PySem.intKind prog w) kvs)
   (hrw : (rw, W.listOf rv.toArray nw) ∈ fq) (hrv : IntsAre rv P0) (hrl : rv.length ≤ 100)
   {tx : Int → Str} (htx : ∀ y ∈ P0, ∃ t, valueAt kvs y = some (.str (tx y) t)) (htl : ∀ y ∈ P0, (tx y).length ≤ 3)
   {tkf : Int → List (List Nat)} (htk1 : ∀ y ∈ P0, (tx y).cps.toList = (tkf y).flatten) (htk2 : ∀ t ∈ P0.flatMap tkf, okT t) (htk3 : ∀ c ∈ (P0.flatMap tkf).flatten, c < 128) (hx0 : x0 = lo (dls (P0.flatMap tkf))) (hy0 : y0 = (dls (P0.flatMap tkf)).sum)
   (hrow : m (Str.ofString "row") = some (.ref rw)) (hRl : m (Str.ofString "rules") = some (.ref Rl))
   (ret : ∀ (h' : Heap) (tk' : Nat) (gg : Array GenState) (m' : Str → Option Value) (Ow Hw : Addr) (ysO : List Value) (entsO : List (Addr × Obj)) (ysH : List Value) (entsH : List (Addr × Obj)) (o5' o4' : Obj) (fq' : List (Addr × Obj)), AllBare gg → Fr h₀ L h' m' → m' (Str.ofString "rules") = some (.ref Rl) →
     News h₀ L h' ((L + 1 + 1 + 1 + 1 + 1 + 1, o5') :: (L + 1 + 1 + 1 + 1 + 1, o4') :: (L + 1 + 1 + 1 + 1, o3) :: fq') → (∀ q ∈ fq, q ∈ fq') → (∀ q ∈ fq', q.1 ≠ L + 1 + 1 + 1 + 1 + 1 + 1) → (∀ q ∈ fq', q.1 ≠ L + 1 + 1 + 1 + 1 + 1) → (∀ q ∈ fq', q.1 ≠ L + 1 + 1 + 1 + 1) →
     o5'.data = .cell (some (.ref Hw)) → o4'.data = .cell (some (.ref Ow)) → Rows3 3 (fun j => ([R0, R1, R2].getD j []).flatMap (substL [n0, n1, n2] [P0, P1, P2])) ysO entsO →
     Rows3 3 (fun j => [(joinL [n0, n1, n2] [(x0, y0), (x1, y1), (x2, y2)] ([R0, R1, R2].getD j [])).1, (joinL [n0, n1, n2] [(x0, y0), (x1, y1), (x2, y2)] ([R0, R1, R2].getD j [])).2]) ysH entsH →
     (Ow, LCg.lst ysO) ∈ fq' → (Hw, LCg.lst ysH) ∈ fq' → (∀ q ∈ entsO, q ∈ fq') → (∀ q ∈ entsH, q ∈ fq') → QF .next { s with heap := h', toks := tk', gens := gg }) :
   wpAny (model prog w) (ktrTop dp un gd (Str.ofString "law") lawScope L a ccd (cellsFrom (L + 1) lawScope.names []) outer) (execs loopBody (envX (Str.ofString "law") lawScope L a ccd (cellsFrom (L + 1) lawScope.names []))) QF EF s := by
  have e : lawScope = lawScope := rfl
  conv at e => rhs; whnf
  rw [e]
  clear e
  conv => arg 3; arg 1; whnf
  rw [loc2 hrow hRl (fun y _ _ => rfl)] at F
  k_steps
  refine Hold.out ?_
  rename News _ _ _ _ => N1
  refine ke_ne_ints (News.isList N1 (.tail _ (.tail _ (.tail _ hrw)))) (News.isList N1 (.tail _ (.tail _ (.tail _ ho0)))) hrv hi0 (by units_room) ?_
  rw [decide_eq_true rfl]
  k_steps
  refine Hold.out ?_
  k_dflt (refine LCg.ListComp_U (F₀ := by k_asm) (by with_unfolding_all rfl) (by decide) (by rfl) (by decide) (by rfl) ?_)
  k_steps
  refine Hold.out ?_
  rename Fr _ _ _ _ => F2
  rename News _ _ _ _ => N2
  have hrwm : (rw, W.listOf rv.toArray nw) ∈ (L + 1 + 1 + 1 + 1 + 1 + 1, o5) :: (L + 1 + 1 + 1 + 1 + 1, o4) :: (L + 1 + 1 + 1 + 1, o3) :: fq := .tail _ (.tail _ (.tail _ hrw))
  refine LCg.CompSrc.ledger (by rfl) F2 N2 hrwm (by rw [sizeLine_eq, List.size_toArray]; omega) ?_
  intro g3
  have hlen : rv.toArray.size = (P0.map tx).length := by rw [List.size_toArray, List.length_map, hrv.length]
  rw [hlen]
  refine comp_strs (P0.map tx) ?hS ?turn ?fin
  case hS => exact .inr ⟨_, hrwm, rfl, _, rfl⟩
  case turn =>
    intro i v ys xt I oI C1 oC D m₂ h tk E' hxt hv hn hm F3 N3 off hne
    refine gen_Q fun Pf qf => ?_
    obtain ⟨y, ty, hy, rfl⟩ := ints_at hrv (show rv[i]? = some v from by simpa using hv)
    have hyP := List.mem_of_getElem? hy
    obtain ⟨tq, hval⟩ := htx y hyP
    have hxe : xt = tx y := by rw [List.getElem?_map, hy] at hxt; exact (Option.some.inj hxt).symm
    subst hxe
    k_steps
    refine Hold.out ?_
    rename News _ _ _ _ => N4
    refine kda_item (knd := PySem.intKind _ _) N4 (.tail _ (.tail _ (.tail _ (.tail _ (.tail _ (.tail _ hds)))))) hdict (intKind_is _ _ _ _) hval ?_
    exact qf _ _ (StrEnd.mk F3 N4 (fun p hp => hp))
  case fin =>
    intro ys hys
    unfold LCg.FinE
    intro D h5 tk5 F5 N5 off5
    have hDo := off1_mem off5
    clear off5
    have hD5 := Ne.symm (hDo _ (.head _))
    have hD4 := Ne.symm (hDo _ (.tail _ (.head _)))
    have hD3 := Ne.symm (hDo _ (.tail _ (.tail _ (.head _))))
    dsimp only at hD5 hD4 hD3
    dsimp only
    k_steps
    refine Hold.out (join_listW (ys := P0.map tx) (PySem.IsL.isList (n := ys.length) (N5 _ (.head _)).1) (by simpa using hys) (by decide +kernel) ?szj fun tJ kJ => ?_)
    case szj =>
      have h1 := texts_sum htl
      have h2 := hrv.length
      rw [List.length_map]
      omega
    rw [join_nil, texts_flat htk1]
    have hfl : (P0.flatMap tkf).flatten.length ≤ 300 := by
      have h1 := flat_map_len (P := P0) (tk := tkf) (fun y hy => by have := htl y hy; rw [← htk1 y hy]; exact this)
      have h2 := hrv.length
      omega
    have hbd := dls_b htk2 hfl
    rw [← hx0, ← hy0] at hbd
    obtain ⟨_, _, b1, b2, b3, b4, b5⟩ := ask_b hbd
    generalize P0.flatMap tkf = ts at htk2 htk3 hx0 hy0 hfl
    generalize hTT : ts.flatten = TT at hfl htk3
    k_steps
    refine Hold.out (mul_K (c := 40) (by decide +kernel) b1.1 b1.2.1 fun t16 k16 => ?_)
    k_steps
    refine Hold.out (add_K (a := List.replicate (-x0).toNat 40) (b := TT) (sz2 b1.2.2 hfl) rfl rfl fun t17 k17 => ?_)
    k_steps
    refine Hold.out (mul_K (c := 41) (by decide +kernel) b4.1 b4.2.1 fun t18 k18 => ?_)
    k_steps
    refine Hold.out (add_K (a := List.replicate (-x0).toNat 40 ++ TT) (b := List.replicate (-x0 + y0).toNat 41) (sz3 b1.2.2 hfl b4.2.2) rfl rfl fun t19 k19 => ?_)
    k_steps
    refine Hold.out ?_
    rename Fr _ _ _ _ => F16
    rename News _ _ _ _ => N16
    k_dflt (refine' check_K (a := (-x0).toNat) (b := (-x0 + y0).toNat) (ts := ts) ?B1 F16 ?X1 N16 ?T1 ?hk1 ?hdp1 ?hun1 hb ?hx1 b1.2.2 b4.2.2 htk2 ?hl1 ?hc1 ?_)
    case B1 => k_asm
    case X1 => k_asm
    case T1 => k_asm
    case hk1 => exact rfl
    case hdp1 => exact room0 (b := 20) hdp (Nat.le_of_ble_eq_true rfl)
    case hun1 => exact room0 (b := 200) hun (Nat.le_of_ble_eq_true rfl)
    case hx1 => rw [hTT]
    case hl1 => rw [hTT]; exact Nat.le_trans hfl (by decide)
    case hc1 => rw [hTT]; exact htk3
    intro h17 tk17 gg17 F17 N17 hg17
    rw [decide_eq_true (by rw [← hx0, ← hy0]; exact ask_t hbd)]
    k_steps
    refine Hold.out (mul_K (c := 40) (by decide +kernel) b2.1 b2.2.1 fun t26 k26 => ?_)
    k_steps
    refine Hold.out (add_K (a := List.replicate (-x0 + 1).toNat 40) (b := TT) (sz2 b2.2.2 hfl) rfl rfl fun t27 k27 => ?_)
    k_steps
    refine Hold.out (mul_K (c := 41) (by decide +kernel) b4.1 b4.2.1 fun t28 k28 => ?_)
    k_steps
    refine Hold.out (add_K (a := List.replicate (-x0 + 1).toNat 40 ++ TT) (b := List.replicate (-x0 + y0).toNat 41) (sz3 b2.2.2 hfl b4.2.2) rfl rfl fun t29 k29 => ?_)
    k_steps
    refine Hold.out ?_
    rename Fr _ _ _ _ => F26
    rename News _ _ _ _ => N26
    k_dflt (refine' check_K (a := (-x0 + 1).toNat) (b := (-x0 + y0).toNat) (ts := ts) ?B2 F26 ?X2 N26 ?T2 ?hk2 ?hdp2 ?hun2 hg17 ?hx2 b2.2.2 b4.2.2 htk2 ?hl2 ?hc2 ?_)
    case B2 => k_asm
    case X2 => k_asm
    case T2 => k_asm
    case hk2 => exact rfl
    case hdp2 => exact room0 (b := 20) hdp (Nat.le_of_ble_eq_true rfl)
    case hun2 => exact room0 (b := 200) hun (Nat.le_of_ble_eq_true rfl)
    case hx2 => rw [hTT]
    case hl2 => rw [hTT]; exact Nat.le_trans hfl (by decide)
    case hc2 => rw [hTT]; exact htk3
    intro h27 tk27 gg27 F27 N27 hg27
    rw [decide_eq_false (by rw [← hx0, ← hy0]; exact ask_f hbd)]
    k_steps
    · refine Hold.out (mul_K (c := 40) (by decide +kernel) b3.1 b3.2.1 fun t36 k36 => ?_)
      k_steps
      refine Hold.out (add_K (a := List.replicate (-x0 - 1).toNat 40) (b := TT) (sz2 b3.2.2 hfl) rfl rfl fun t37 k37 => ?_)
      k_steps
      refine Hold.out (mul_K (c := 41) (by decide +kernel) b5.1 b5.2.1 fun t38 k38 => ?_)
      k_steps
      refine Hold.out (add_K (a := List.replicate (-x0 - 1).toNat 40 ++ TT) (b := List.replicate (-x0 + y0 - 1).toNat 41) (sz3 b3.2.2 hfl b5.2.2) rfl rfl fun t39 k39 => ?_)
      k_steps
      refine Hold.out ?_
      rename Fr _ _ _ _ => F36
      rename News _ _ _ _ => N36
      k_dflt (refine' check_K (a := (-x0 - 1).toNat) (b := (-x0 + y0 - 1).toNat) (ts := ts) ?B3 F36 ?X3 N36 ?T3 ?hk3 ?hdp3 ?hun3 hg27 ?hx3 b3.2.2 b5.2.2 htk2 ?hl3 ?hc3 ?_)
      case B3 => k_asm
      case X3 => k_asm
      case T3 => k_asm
      case hk3 => exact rfl
      case hdp3 => exact room0 (b := 20) hdp (Nat.le_of_ble_eq_true rfl)
      case hun3 => exact room0 (b := 200) hun (Nat.le_of_ble_eq_true rfl)
      case hx3 => rw [hTT]
      case hl3 => rw [hTT]; exact Nat.le_trans hfl (by decide)
      case hc3 => rw [hTT]; exact htk3
      intro h27 tk37 gg27 F27 N27 hg27
      rw [decide_eq_false (by rw [← hx0, ← hy0]; exact ask_g hbd.2.1 (by omega))]
      k_steps
      refine Hold.out ?_
      rename Fr _ _ _ _ => F50
      rename News _ _ _ _ => N50
      have N51 : News _ _ _ (_ :: _ :: _ :: ((D, LCg.lst ys) :: fq)) := news_d N50
      k_dflt (refine' next_part (h0 := h0) (h1 := h1) (h2 := h2) ?BZa F50 ?XZa N51 ?TZa hdp hun (List.forall_mem_cons.mpr ⟨hD5, hz5⟩) (List.forall_mem_cons.mpr ⟨hD4, hz4⟩) (List.forall_mem_cons.mpr ⟨hD3, hz3⟩) d5 d4 d3 (.tail _ hc2) d2 (.tail _ hK) hkv (.tail _ hO) (.tail _ ho0) hi0 (.tail _ ho1) hi1 (.tail _ ho2) hi2 hp0 hp1 hp2 (.tail _ hH) (.tail _ hh0) (.tail _ hh1) (.tail _ hh2) (.tail _ hRm) (.tail _ ha0) hr0 (.tail _ ha1) hr1 (.tail _ ha2) hr2 hrl3 rfl ?_)
      case BZa => k_asm
      case XZa => k_asm
      case TZa => k_asm
      intro h60 tk60 Ow Hw ysO entsO ysH entsH o5' o4' fq' F60 N60 q1 q2 q3 q4 q5 q6 q7 q8 q9 q10 q11 q12
      exact ret _ _ _ _ Ow Hw ysO entsO ysH entsH o5' o4' fq' hg27 F60 rfl N60 (fun q hq => q1 q (.tail _ hq)) q2 q3 q4 q5 q6 q7 q8 q9 q10 q11 q12
    · refine Hold.out ?_
      rename Fr _ _ _ _ => F50
      rename News _ _ _ _ => N50
      have N51 : News _ _ _ (_ :: _ :: _ :: ((D, LCg.lst ys) :: fq)) := news_d N50
      k_dflt (refine' next_part (h0 := h0) (h1 := h1) (h2 := h2) ?BZ F50 ?XZ N51 ?TZ hdp hun (List.forall_mem_cons.mpr ⟨hD5, hz5⟩) (List.forall_mem_cons.mpr ⟨hD4, hz4⟩) (List.forall_mem_cons.mpr ⟨hD3, hz3⟩) d5 d4 d3 (.tail _ hc2) d2 (.tail _ hK) hkv (.tail _ hO) (.tail _ ho0) hi0 (.tail _ ho1) hi1 (.tail _ ho2) hi2 hp0 hp1 hp2 (.tail _ hH) (.tail _ hh0) (.tail _ hh1) (.tail _ hh2) (.tail _ hRm) (.tail _ ha0) hr0 (.tail _ ha1) hr1 (.tail _ ha2) hr2 hrl3 rfl ?_)
      case BZ => k_asm
      case XZ => k_asm
      case TZ => k_asm
      intro h60 tk60 Ow Hw ysO entsO ysH entsH o5' o4' fq' F60 N60 q1 q2 q3 q4 q5 q6 q7 q8 q9 q10 q11 q12
      exact ret _ _ _ _ Ow Hw ysO entsO ysH entsH o5' o4' fq' hg27 F60 rfl N60 (fun q hq => q1 q (.tail _ hq)) q2 q3 q4 q5 q6 q7 q8 q9 q10 q11 q12
end
section
variable {prog : Program} {w : World} {loose : List Str} {mean : ExcName → Option Value} {mg mb : Str → Option Value} {dp un : Nat} {gd : Option (List Code)} {cn : Str} {cs : Scope} {a : Addr} {ccd : Value} {cl : List (Str × Addr)} {outer : List Env} {A₀ : Around} {base h₀ : Heap} {L : Addr} {m : Str → Option Value} {news : List (Addr × Obj)} {s : Shared} {Q E : Value → Shared → Prop}
inductive LoopJ (h₀ : Heap) (L I Rl : Addr) (o3 : Obj) (n0 n1 n2 : Int) (R0 R1 R2 : List Int) (fz : List (Addr × Obj)) (k : Nat) (m' : Str → Option Value) (news' : List (Addr × Obj)) : Prop
  | intro (O Hh : Addr) (nO nH : Nat) (o5 o4 : Obj) (fq : List (Addr × Obj)) (ysO : List Value) (entsO : List (Addr × Obj)) (ysH : List Value) (entsH : List (Addr × Obj)) (h1 : m' (Str.ofString "rules") = some (.ref Rl)) (h2 : news' = (L + 1 + 1 + 1 + 1 + 1 + 1, o5) :: (L + 1 + 1 + 1 + 1 + 1, o4) :: (L + 1 + 1 + 1 + 1, o3) :: fq) (h3 : (∀ q ∈ fz, q ∈ fq)) (h4 : (∀ q ∈ fq, q.1 ≠ L + 1 + 1 + 1 + 1 + 1 + 1)) (h5 : (∀ q ∈ fq, q.1 ≠ L + 1 + 1 + 1 + 1 + 1)) (h6 : (∀ q ∈ fq, q.1 ≠ L + 1 + 1 + 1 + 1)) (h7 : o5.data = .cell (some (.ref Hh))) (h8 : o4.data = .cell (some (.ref O))) (h9 : Rows3 3 (fun j => (ownL [n0, n1, n2] [R0, R1, R2] k).getD j []) ysO entsO) (h10 : Rows3 3 (fun j => [((heightsL [n0, n1, n2] [R0, R1, R2] k).getD j (0, 0)).1, ((heightsL [n0, n1, n2] [R0, R1, R2] k).getD j (0, 0)).2]) ysH entsH) (h11 : (O, W.listOf ysO.toArray nO) ∈ fq) (h12 : (Hh, W.listOf ysH.toArray nH) ∈ fq) (h13 : (∀ q ∈ entsO, q ∈ fq)) (h14 : (∀ q ∈ entsH, q ∈ fq)) (h15 : (∀ q ∈ news', q.1 ≠ I)) : LoopJ h₀ L I Rl o3 n0 n1 n2 R0 R1 R2 fz k m' news'
theorem Rows3.congr {n : Nat} {f g : Nat → List Int} {ys : List Value} {ents : List (Addr × Obj)} (h : Rows3 n f ys ents) (e : ∀ j < n, f j = g j) : Rows3 n g ys ents :=
  ⟨h.1, fun j hj => by obtain ⟨a, rv, nn, e1, e2, e3⟩ := h.2.1 j hj; exact ⟨a, rv, nn, e1, e2, by rw [← e j hj]; exact e3⟩, h.2.2⟩
theorem mem8 {a1 a2 a3 a4 a5 a6 a7 a8 q : Addr × Obj} {l : List (Addr × Obj)} (h : q ∈ l) : q ∈ a1 :: a2 :: a3 :: a4 :: a5 :: a6 :: a7 :: a8 :: l := by simp [h]
theorem news_five {h : Heap} {x1 x2 x3 x4 x5 a b c : Addr × Obj} {l : List (Addr × Obj)} (N : News h₀ L h (x1 :: x2 :: x3 :: x4 :: x5 :: a :: b :: c :: l)) : News h₀ L h (a :: b :: c :: x1 :: x2 :: x3 :: x4 :: x5 :: l) := fun p hp => N p (by
  simp only [List.mem_cons] at hp ⊢
  rcases hp with h | h | h | h | h | h | h | h | h <;> simp [h])
theorem five_ne {h : Heap} {x1 x2 x3 x4 x5 : Addr × Obj} {a b c : Addr} {oa ob oc : Obj} {va vb vc : Option Value} {l : List (Addr × Obj)} (N : News h₀ L h (x1 :: x2 :: x3 :: x4 :: x5 :: (a, oa) :: (b, ob) :: (c, oc) :: l)) (da : oa.data = .cell va) (db : ob.data = .cell vb) (dc : oc.data = .cell vc)
    (t1 : ∃ xs n, x1.2 = W.listOf xs n) (t2 : ∃ xs n, x2.2 = W.listOf xs n) (t3 : ∃ xs n, x3.2 = W.listOf xs n) (t4 : ∃ xs n, x4.2 = W.listOf xs n) (t5 : ∃ xs n, x5.2 = W.listOf xs n) (ha : ∀ q ∈ l, q.1 ≠ a) (hb : ∀ q ∈ l, q.1 ≠ b) (hc : ∀ q ∈ l, q.1 ≠ c) :
    (∀ q ∈ x1 :: x2 :: x3 :: x4 :: x5 :: l, q.1 ≠ a) ∧ (∀ q ∈ x1 :: x2 :: x3 :: x4 :: x5 :: l, q.1 ≠ b) ∧ (∀ q ∈ x1 :: x2 :: x3 :: x4 :: x5 :: l, q.1 ≠ c) := by
  have ht : ∀ q ∈ [x1, x2, x3, x4, x5], ∃ xs n, q.2 = W.listOf xs n := List.forall_mem_cons.mpr ⟨t1, List.forall_mem_cons.mpr ⟨t2, List.forall_mem_cons.mpr ⟨t3, List.forall_mem_cons.mpr ⟨t4, List.forall_mem_cons.mpr ⟨t5, List.forall_mem_nil _⟩⟩⟩⟩⟩
  have hs : ∀ q ∈ [x1, x2, x3, x4, x5], q ∈ x1 :: x2 :: x3 :: x4 :: x5 :: (a, oa) :: (b, ob) :: (c, oc) :: l := by
    intro q hq
    simp only [List.mem_cons, List.not_mem_nil, or_false] at hq ⊢
    rcases hq with h | h | h | h | h <;> simp [h]
  have go : ∀ {z : Addr}, (∀ q ∈ [x1, x2, x3, x4, x5], q.1 ≠ z) → (∀ q ∈ l, q.1 ≠ z) → ∀ q ∈ x1 :: x2 :: x3 :: x4 :: x5 :: l, q.1 ≠ z := by
    intro z h1 h2 q hq
    simp only [List.mem_cons] at hq
    rcases hq with h | h | h | h | h | h
    · exact h1 q (by simp [h])
    · exact h1 q (by simp [h])
    · exact h1 q (by simp [h])
    · exact h1 q (by simp [h])
    · exact h1 q (by simp [h])
    · exact h2 q h
  exact ⟨go (list_ne_cell N ht hs (by simp) da) ha, go (list_ne_cell N ht hs (by simp) db) hb, go (list_ne_cell N ht hs (by simp) dc) hc⟩
theorem rows_start {h : Heap} {A1 A2 A3 ow : Addr × Obj} {hh a b c : Addr} {k k1 k2 k3 : Nat} {u1 u2 u3 u4 u5 u6 : Tok} {l : List (Addr × Obj)} (N : News h₀ L h (A1 :: A2 :: A3 :: (hh, W.listOf [Value.ref a, .ref b, .ref c].toArray k) :: (c, W.listOf [Value.int 0 u5, .int 0 u6].toArray k3) :: (b, W.listOf [Value.int 0 u3, .int 0 u4].toArray k2) :: (a, W.listOf [Value.int 0 u1, .int 0 u2].toArray k1) :: ow :: l)) :
    ∃ ents, Rows3 3 (fun _ => [0, 0]) [Value.ref a, .ref b, .ref c] ents ∧ ∀ q ∈ ents, q ∈ (hh, W.listOf [Value.ref a, .ref b, .ref c].toArray k) :: (c, W.listOf [Value.int 0 u5, .int 0 u6].toArray k3) :: (b, W.listOf [Value.int 0 u3, .int 0 u4].toArray k2) :: (a, W.listOf [Value.int 0 u1, .int 0 u2].toArray k1) :: ow :: l := by
  refine ⟨[(c, W.listOf [Value.int 0 u5, .int 0 u6].toArray k3), (b, W.listOf [Value.int 0 u3, .int 0 u4].toArray k2), (a, W.listOf [Value.int 0 u1, .int 0 u2].toArray k1)], ⟨rfl, fun j hj => ?_, ?_⟩, fun q hq => ?_⟩
  · match j, hj with
    | 0, _ => exact ⟨a, _, k1, rfl, .tail _ (.tail _ (.head _)), .cons _ _ (.cons _ _ .nil)⟩
    | 1, _ => exact ⟨b, _, k2, rfl, .tail _ (.head _), .cons _ _ (.cons _ _ .nil)⟩
    | 2, _ => exact ⟨c, _, k3, rfl, .head _, .cons _ _ (.cons _ _ .nil)⟩
  · exact List.forall_mem_cons.mpr ⟨⟨_, _, rfl⟩, List.forall_mem_cons.mpr ⟨⟨_, _, rfl⟩, List.forall_mem_cons.mpr ⟨⟨_, _, rfl⟩, List.forall_mem_nil _⟩⟩⟩
  · simp only [List.mem_cons, List.not_mem_nil, or_false] at hq ⊢
    rcases hq with h | h | h <;> simp [h]
theorem ints2 {vs : List Value} {x y : Int} (h : IntsAre vs [x, y]) : ∃ t1 t2, vs = [.int x t1, .int y t2] := by
  cases h with
  | cons _ t1 h => cases h with
    | cons _ t2 h => cases h; exact ⟨_, _, rfl⟩
theorem own_len {names : List Int} {rules : List (List Int)} (hz : NamesOk names rules) (h3 : ∀ r ∈ rules, r.length ≤ 3) {k : Nat} (hk : k < 4) (j : Nat) : ((ownL names rules k).getD j []).length ≤ 100 := by
  rw [ownL_eq hz, List.getD_eq_getElem?_getD, List.getElem?_map]
  rcases h : names[j]? with _ | n
  · exact Nat.zero_le _
  · have h1 := rowsL_len (names := names) h3 [n] k
    have h2 : 3 ^ k ≤ 27 := by
      have : ∀ j < 4, 3 ^ j ≤ 27 := by decide
      exact this k hk
    simp only [List.length_cons, List.length_nil] at h1
    show (rowsL names rules k [n]).length ≤ 100
    omega
theorem dls_flat (tk : Int → List (List Nat)) : ∀ P : List Int, dls (P.flatMap tk) = P.flatMap fun y => dls (tk y)
  | [] => rfl
  | y :: r => by rw [List.flatMap_cons, dls_app, dls_flat tk r, List.flatMap_cons]
theorem heights_row {n0 n1 n2 op : Int} {R0 R1 R2 : List Int} {kvs : List (Int × Value)} {tk : Int → List (List Nat)} (hz : NamesOk [n0, n1, n2] [R0, R1, R2]) (hfin : seenFin n0 n1 n2 op kvs) (hn : n0 ≠ n1 ∧ n0 ≠ n2 ∧ n1 ≠ n2 ∧ 256 ≤ n0 ∧ 256 ≤ n1 ∧ 256 ≤ n2) (hop : op < 256) (hsym : ∀ r ∈ [R0, R1, R2], ∀ x ∈ r, x ∈ [n0, n1, n2, 7, 8, op]) (k : Nat) :
    (heightsL [n0, n1, n2] [R0, R1, R2] k).getD 0 (0, 0) = hOf (dls (((ownL [n0, n1, n2] [R0, R1, R2] k).getD 0 []).flatMap (tkF n0 n1 n2 kvs))) := by
  have ok := fun {y} (hy : y ∈ [n0, n1, n2, 7, 8, op]) => seen_ok hfin hn.1 hn.2.1 hn.2.2.1 hn.2.2.2.1 hn.2.2.2.2.1 hn.2.2.2.2.2 hop hy
  have h1 := heights_eq (D := fun y => dls (tkF n0 n1 n2 kvs y)) hz (fun n hm => by
    simp only [List.mem_cons, List.not_mem_nil, or_false] at hm
    exact (ok (y := n) (by rcases hm with h | h | h <;> simp [h])).2.2.2.2.2.1 hm) (fun r hr x hx hlt => (ok (hsym r hr x hx)).2.2.2.2.2.2 hlt) k
  rw [h1, List.getD_eq_getElem?_getD, List.getElem?_map, own_row hz k rfl, List.getD_eq_getElem?_getD, own_row hz k rfl]
  show hOf _ = hOf _
  rw [dls_flat]; rfl
theorem list3 {α : Type} (d : α) : ∀ {l : List α}, l.length = 3 → l = [l.getD 0 d, l.getD 1 d, l.getD 2 d]
  | [a, b, c], _ => rfl
theorem own_next {n0 n1 n2 : Int} {R0 R1 R2 : List Int} (hz : NamesOk [n0, n1, n2] [R0, R1, R2]) (k : Nat) : ∀ j < 3, ([R0, R1, R2].getD j []).flatMap (substL [n0, n1, n2] [(ownL [n0, n1, n2] [R0, R1, R2] k).getD 0 [], (ownL [n0, n1, n2] [R0, R1, R2] k).getD 1 [], (ownL [n0, n1, n2] [R0, R1, R2] k).getD 2 []]) = (ownL [n0, n1, n2] [R0, R1, R2] (k + 1)).getD j [] := by
  have hl : (ownL [n0, n1, n2] [R0, R1, R2] k).length = 3 := by rw [ownL_eq hz]; rfl
  rw [← list3 [] hl]
  intro j hj
  match j, hj with
  | 0, _ => rfl
  | 1, _ => rfl
  | 2, _ => rfl
theorem heights_next {n0 n1 n2 : Int} {R0 R1 R2 : List Int} (hz : NamesOk [n0, n1, n2] [R0, R1, R2]) (k : Nat) : ∀ j < 3, [(joinL [n0, n1, n2] [(((heightsL [n0, n1, n2] [R0, R1, R2] k).getD 0 (0, 0)).1, ((heightsL [n0, n1, n2] [R0, R1, R2] k).getD 0 (0, 0)).2), (((heightsL [n0, n1, n2] [R0, R1, R2] k).getD 1 (0, 0)).1, ((heightsL [n0, n1, n2] [R0, R1, R2] k).getD 1 (0, 0)).2), (((heightsL [n0, n1, n2] [R0, R1, R2] k).getD 2 (0, 0)).1, ((heightsL [n0, n1, n2] [R0, R1, R2] k).getD 2 (0, 0)).2)] ([R0, R1, R2].getD j [])).1, (joinL [n0, n1, n2] [(((heightsL [n0, n1, n2] [R0, R1, R2] k).getD 0 (0, 0)).1, ((heightsL [n0, n1, n2] [R0, R1, R2] k).getD 0 (0, 0)).2), (((heightsL [n0, n1, n2] [R0, R1, R2] k).getD 1 (0, 0)).1, ((heightsL [n0, n1, n2] [R0, R1, R2] k).getD 1 (0, 0)).2), (((heightsL [n0, n1, n2] [R0, R1, R2] k).getD 2 (0, 0)).1, ((heightsL [n0, n1, n2] [R0, R1, R2] k).getD 2 (0, 0)).2)] ([R0, R1, R2].getD j [])).2] = [((heightsL [n0, n1, n2] [R0, R1, R2] (k + 1)).getD j (0, 0)).1, ((heightsL [n0, n1, n2] [R0, R1, R2] (k + 1)).getD j (0, 0)).2] := by
  have hl : (heightsL [n0, n1, n2] [R0, R1, R2] k).length = 3 := by cases k <;> rfl
  have e := list3 (0, 0) hl
  have e2 : [(((heightsL [n0, n1, n2] [R0, R1, R2] k).getD 0 (0, 0)).1, ((heightsL [n0, n1, n2] [R0, R1, R2] k).getD 0 (0, 0)).2), (((heightsL [n0, n1, n2] [R0, R1, R2] k).getD 1 (0, 0)).1, ((heightsL [n0, n1, n2] [R0, R1, R2] k).getD 1 (0, 0)).2), (((heightsL [n0, n1, n2] [R0, R1, R2] k).getD 2 (0, 0)).1, ((heightsL [n0, n1, n2] [R0, R1, R2] k).getD 2 (0, 0)).2)] = heightsL [n0, n1, n2] [R0, R1, R2] k := e.symm
  rw [e2]
  intro j hj
  match j, hj with
  | 0, _ => rfl
  | 1, _ => rfl
  | 2, _ => rfl
theorem own_part {o5 o4 o3 o2 : Obj} {v5 v4 : Option Value} {ds K G Rl : Addr} {kv : List Value} {nk nr : Nat} {n0 n1 n2 : Int} {R0 R1 R2 : List Int} {fz : List (Addr × Obj)} {QF : Flow → Shared → Prop} {EF : Value → Shared → Prop}
   (B : Below A₀ base outer h₀) (F : Fr h₀ L s.heap m) (X : (hd.heap_1 w.params).In h₀)
   (N : News h₀ L s.heap ((L + 1 + 1 + 1 + 1 + 1 + 1, o5) :: (L + 1 + 1 + 1 + 1 + 1, o4) :: (L + 1 + 1 + 1 + 1, o3) :: fz))
   (T : Top topProg loose mean mg mb h₀) (hdp : dp + 200 < recursionLimit) (hun : un + 2000 < cLine)
   (hz5 : ∀ q ∈ fz, q.1 ≠ L + 1 + 1 + 1 + 1 + 1 + 1) (hz4 : ∀ q ∈ fz, q.1 ≠ L + 1 + 1 + 1 + 1 + 1) (hz3 : ∀ q ∈ fz, q.1 ≠ L + 1 + 1 + 1 + 1)
   (d5 : o5.data = .cell v5) (d4 : o4.data = .cell v4) (d3 : o3.data = .cell (some (.ref ds))) (hc2 : (L + 1 + 1 + 1, o2) ∈ fz) (d2 : o2.data = .cell (some (.ref K)))
   (hK : (K, W.listOf kv.toArray nk) ∈ fz) (hkv : IntsAre kv [n0, n1, n2])
   (hG : m (Str.ofString "rows") = some (.ref G)) (hRl : m (Str.ofString "rules") = some (.ref Rl)) {gv : List Value} {nG : Nat} (hGz : (G, W.listOf gv.toArray nG) ∈ fz) (hb : AllBare s.gens) {ods : Obj} {kvs : List (Int × Value)} {op : Int} {a0 a1 a2 : Addr} {rv0 rv1 rv2 : List Value} {l0 l1 l2 : Nat}
   (hds : (ds, ods) ∈ fz) (hdict : ods.IsDictOf (PySem.intKind prog w) kvs) (hfin : seenFin n0 n1 n2 op kvs) (hop : op < 256) (hn : n0 ≠ n1 ∧ n0 ≠ n2 ∧ n1 ≠ n2 ∧ 256 ≤ n0 ∧ 256 ≤ n1 ∧ 256 ≤ n2) (hz : NamesOk [n0, n1, n2] [R0, R1, R2]) (hsym : ∀ r ∈ [R0, R1, R2], ∀ x ∈ r, x ∈ [n0, n1, n2, 7, 8, op])
   (hRm : (Rl, W.listOf [Value.ref a0, .ref a1, .ref a2].toArray nr) ∈ fz) (ha0 : (a0, W.listOf rv0.toArray l0) ∈ fz) (hr0 : IntsAre rv0 R0) (ha1 : (a1, W.listOf rv1.toArray l1) ∈ fz) (hr1 : IntsAre rv1 R1) (ha2 : (a2, W.listOf rv2.toArray l2) ∈ fz) (hr2 : IntsAre rv2 R2) (hrl3 : ∀ r ∈ [R0, R1, R2], r.length ≤ 3)
   (hgl : gv.length = 4) (hrows : ∀ (k : Nat) (v : Value), gv[k]? = some v → ∃ rw rv nw, v = .ref rw ∧ (rw, W.listOf rv.toArray nw) ∈ fz ∧ IntsAre rv (rowsL [n0, n1, n2] [R0, R1, R2] k [n0]))
   (retF : ∀ (h' : Heap) (tk' : Nat) (gg : Array GenState) (m' : Str → Option Value) (news' : List (Addr × Obj)), AllBare gg → Fr h₀ L h' m' → News h₀ L h' news' → (∀ q ∈ fz, q ∈ news') → QF (.ret (.bool true)) { s with heap := h', toks := tk', gens := gg }) :
   wpAny (model prog w) (ktrTop dp un gd (Str.ofString "law") lawScope L a ccd (cellsFrom (L + 1) lawScope.names []) outer) (execs (lawBody.drop 15) (envX (Str.ofString "law") lawScope L a ccd (cellsFrom (L + 1) lawScope.names []))) QF EF s := by
  have e : lawScope = lawScope := rfl
  conv at e => rhs; whnf
  rw [e]
  clear e
  conv => arg 3; arg 1; whnf
  obtain ⟨t0, t1, t2, rfl⟩ := ints3 hkv
  rw [loc2 hG hRl (fun y _ _ => rfl)] at F
  k_steps
  refine Hold.out ?_
  with_reducible refine wpAny_Assign_Name ?_ ?_
  rotate_left
  · with_unfolding_all rfl
  k_dflt (refine LCg.ListComp_U (F₀ := by k_asm) (by with_unfolding_all rfl) (by decide) (by rfl) (by decide) (by rfl) ?_)
  k_steps
  refine Hold.out ?_
  rename Fr _ _ _ _ => F50
  rename News _ _ _ _ => N50
  refine LCg.CompSrc.ledger (by rfl) F50 N50 (.tail _ (.tail _ (.tail _ hK))) (by rw [sizeLine_eq]; exact Nat.le_of_ble_eq_true rfl) ?_
  intro g51
  refine comp_lists 3 (fun j => [[n0], [n1], [n2]].getD j []) ?hS4 ?turn4 ?fin4
  case hS4 => exact fun ents => .inr ⟨_, List.mem_append_left _ (.tail _ (.tail _ (.tail _ hK))), rfl, _, rfl⟩
  case turn4 =>
    intro i v ys4 ents4 I oI C1 oC D m₂ h tk E' hi hv hR4 hn hm F53 N53 off hne
    refine gen_Q fun Pf qf => ?_
    simp only [List.cons_append, List.nil_append] at N53
    obtain ⟨tv, nv, rfl, hnv⟩ : ∃ tv nv, v = .int nv tv ∧ [[n0], [n1], [n2]].getD i [] = [nv] := by
      match i, hi, hv with
      | 0, _, e => cases e; exact ⟨_, _, rfl, rfl⟩
      | 1, _, e => cases e; exact ⟨_, _, rfl, rfl⟩
      | 2, _, e => cases e; exact ⟨_, _, rfl, rfl⟩
    have hlt53 := news_lt N53
    k_steps
    rename Fr _ _ _ _ => F54
    rename News _ _ _ _ => N54
    rename _ ∧ _ => l54
    exact qf _ _ (ListEnd.mk0 (rv := [.int nv tv]) F54 N54 (by rw [hnv]; exact .cons _ _ .nil) (mine_ne l54))
  case fin4 =>
    intro ysO entsO hRO hEO
    unfold LCg.FinE
    intro Ow h52 tk52 F52 N52 off52
    have hOwo := off1_mem off52
    clear off52
    simp only [List.cons_append, List.nil_append] at N52 hOwo
    obtain ⟨o0, o1, o2, ov0, ov1, ov2, q0, q1, q2, rfl, hom0, hom1, hom2, hoi0, hoi1, hoi2⟩ := hRO.three
    change IntsAre ov0 [n0] at hoi0
    change IntsAre ov1 [n1] at hoi1
    change IntsAre ov2 [n2] at hoi2
    have hze5 : ∀ q ∈ fz ++ entsO, q.1 ≠ L + 1 + 1 + 1 + 1 + 1 + 1 := fun q hq => (List.mem_append.mp hq).elim (hz5 q) (fun h => Ne.symm (hEO q h _ (.head _)))
    have hze4 : ∀ q ∈ fz ++ entsO, q.1 ≠ L + 1 + 1 + 1 + 1 + 1 := fun q hq => (List.mem_append.mp hq).elim (hz4 q) (fun h => Ne.symm (hEO q h _ (.tail _ (.head _))))
    have hze3 : ∀ q ∈ fz ++ entsO, q.1 ≠ L + 1 + 1 + 1 + 1 := fun q hq => (List.mem_append.mp hq).elim (hz3 q) (fun h => Ne.symm (hEO q h _ (.tail _ (.tail _ (.head _)))))
    have hOw5 := Ne.symm (hOwo _ (.head _))
    have hOw4 := Ne.symm (hOwo _ (.tail _ (.head _)))
    have hOw3 := Ne.symm (hOwo _ (.tail _ (.tail _ (.head _))))
    dsimp only at hOw5 hOw4 hOw3
    dsimp only
    k_steps
    refine Hold.out ?_
    refine wpAny_mono (E := fun _ _ => False) (wpAny_For ?_ (by intro _; rfl)) (fun _ _ x => x) fun _ _ x => x.elim
    k_steps
    rename Heap => hp60
    rename Fr _ _ _ _ => F60
    rename News _ _ _ _ => N60
    have hGm : (G, W.listOf gv.toArray nG) ∈ fz ++ entsO := List.mem_append_left _ hGz
    refine wpAny_pyIter_list (items := gv.toArray) (PySem.IsL.isList (n := nG) (N60 _ (mem8 hGm)).1) ?_
    have hlN := news_lt N60
    have N61 := news_five N60
    obtain ⟨e5, e4, e3⟩ := five_ne N60 (by assumption) (by assumption) (by assumption) ⟨_, _, rfl⟩ ⟨_, _, rfl⟩ ⟨_, _, rfl⟩ ⟨_, _, rfl⟩ ⟨_, _, rfl⟩ hze5 hze4 hze3
    have hRO0 : Rows3 3 (fun j => (ownL [n0, n1, n2] [R0, R1, R2] 0).getD j []) _ entsO := Rows3.congr hRO (fun j hj => by
      match j, hj with
      | 0, _ => rfl
      | 1, _ => rfl
      | 2, _ => rfl)
    k_dflt (refine' for_listG ?hh ?h1 ?h2 F60 N61 ?hsh ?hb (LoopJ h₀ L hp60.objs.size Rl o3 n0 n1 n2 R0 R1 R2 fz) ?hJ0 ?hJw ?hJD ?turn ?done)
    case hh => exact rfl
    case h1 => exact rfl
    case h2 => exact rfl
    case hsh => exact rfl
    case hb => exact hb
    case hJ0 =>
      obtain ⟨entsH, hRH, hsubH⟩ := rows_start N61
      refine ⟨_, _, _, _, _, _, _, _, entsO, _, entsH, rfl, rfl, (fun q hq => .tail _ (.tail _ (.tail _ (.tail _ (.tail _ (List.mem_append_left _ hq)))))), e5, e4, e3, by assumption, by assumption, hRO0, Rows3.congr hRH ?hRH, (.tail _ (.tail _ (.tail _ (.tail _ (.head _))))), (.head _), (fun q hq => .tail _ (.tail _ (.tail _ (.tail _ (.tail _ (List.mem_append_right _ hq)))))), hsubH, ?hnI⟩
      case hRH =>
        intro j hj
        match j, hj with
        | 0, _ => rfl
        | 1, _ => rfl
        | 2, _ => rfl
      case hnI => exact fun q hq => Nat.ne_of_lt (news_lt N61 q hq)
    case hJw => rintro k m' news' ⟨_, _, _, _, _, _, _, _, _, _, _, _, _, _, _, _, _, _, _, _, _, _, _, _, _, h⟩; exact h
    case hJD =>
      rintro k m' news' ⟨O, Hh, _, _, p5, p4, fq, ys1, en1, ys2, en2, _, rfl, hs, _⟩
      exact .tail _ (.tail _ (.tail _ (hs _ hGz)))
    case turn =>
      rintro k v m' news' h tk gg oI hv ⟨O, Hh, nO, nH, p5, p4, fq, ysO, enO, ysH, enH, j1, rfl, j3, j4, j5, j6, j7, j8, j9, j10, j11, j12, j13, j14, j15⟩ hgb F7 N7 hoff hli
      obtain ⟨w0, w1, w2, wv0, wv1, wv2, z0, z1, z2, rfl, hw0, hw1, hw2, hwi0, hwi1, hwi2⟩ := j9.three
      obtain ⟨g0, g1, g2, gv0, gv1, gv2, y0, y1, y2, rfl, hg0, hg1, hg2, hgi0, hgi1, hgi2⟩ := j10.three
      have N8 := news_d N7
      have hk4 : k < 4 := by
        rcases Nat.lt_or_ge k gv.length with h | h
        · omega
        · rw [List.getElem?_eq_none h] at hv; cases hv
      obtain ⟨rw', rv', nw, rfl, hrw, hrv⟩ := hrows k v hv
      obtain ⟨gu0, gw0, rfl⟩ := ints2 hgi0
      obtain ⟨gu1, gw1, rfl⟩ := ints2 hgi1
      obtain ⟨gu2, gw2, rfl⟩ := ints2 hgi2
      have hP0 : (ownL [n0, n1, n2] [R0, R1, R2] k).getD 0 [] = rowsL [n0, n1, n2] [R0, R1, R2] k [n0] := by rw [List.getD_eq_getElem?_getD, own_row hz k rfl]; rfl
      have hPl : ∀ j, ((ownL [n0, n1, n2] [R0, R1, R2] k).getD j []).length ≤ 100 := own_len hz hrl3 hk4
      have hmem : ∀ y ∈ rowsL [n0, n1, n2] [R0, R1, R2] k [n0], y ∈ [n0, n1, n2, 7, 8, op] := rowsL_mem hsym (List.forall_mem_cons.mpr ⟨.head _, List.forall_mem_nil _⟩) k
      have hok : ∀ y ∈ rowsL [n0, n1, n2] [R0, R1, R2] k [n0], _ := fun y hy => seen_ok hfin hn.1 hn.2.1 hn.2.2.1 hn.2.2.2.1 hn.2.2.2.2.1 hn.2.2.2.2.2 hop (hmem y hy)
      have hht := heights_row (tk := tkF n0 n1 n2 kvs) hz hfin hn hop hsym k
      rw [← hP0] at hrv hmem hok
      k_dflt (refine' turn_part (s := { s with heap := h, toks := tk, gens := gg }) (tx := txF kvs) (tkf := tkF n0 n1 n2 kvs) (R0 := R0) (R1 := R1) (R2 := R2) ?B F7 ?X N8 ?T hdp hun hgb ?z5 ?z4 ?z3 j7 j8 d3 (.tail _ (j3 _ hc2)) d2 (.tail _ (j3 _ hK)) hkv (.tail _ j11) (.tail _ (j13 _ hw0)) hwi0 (.tail _ (j13 _ hw1)) hwi1 (.tail _ (j13 _ hw2)) hwi2 (hPl 0) (hPl 1) (hPl 2) (.tail _ (j3 _ hRm)) (.tail _ (j3 _ ha0)) hr0 (.tail _ (j3 _ ha1)) hr1 (.tail _ (j3 _ ha2)) hr2 hrl3 (.tail _ (j14 _ hg1)) (.tail _ (j14 _ hg2)) (.tail _ j12) (.tail _ (j14 _ hg0)) (.tail _ (j3 _ hds)) hdict (.tail _ (j3 _ hrw)) hrv ?rl (fun y hy => (hok y hy).1) (fun y hy => (hok y hy).2.1) (fun y hy => (hok y hy).2.2.1) ?k2 ?k3 ?x0 ?y0 (if_pos rfl) j1 ?_)
      case B => k_asm
      case X => k_asm
      case T => k_asm
      case z5 => exact List.forall_mem_cons.mpr ⟨Ne.symm (j15 _ (.head _)), j4⟩
      case z4 => exact List.forall_mem_cons.mpr ⟨Ne.symm (j15 _ (.tail _ (.head _))), j5⟩
      case z3 => exact List.forall_mem_cons.mpr ⟨Ne.symm (j15 _ (.tail _ (.tail _ (.head _)))), j6⟩
      case rl => rw [hrv.length]; exact hPl 0
      case k2 =>
        intro t ht
        obtain ⟨y, hy, hty⟩ := List.mem_flatMap.mp ht
        exact (hok y hy).2.2.2.1 t hty
      case k3 =>
        intro c hc
        obtain ⟨t, ht, hct⟩ := List.mem_flatten.mp hc
        obtain ⟨y, hy, hty⟩ := List.mem_flatMap.mp ht
        exact (hok y hy).2.2.2.2.1 c (List.mem_flatten.mpr ⟨t, hty, hct⟩)
      case x0 => exact congrArg Prod.fst hht
      case y0 => exact congrArg Prod.snd hht
      intro h9 tk9 gg9 m9 Ow9 Hw9 ysO9 enO9 ysH9 enH9 o59 o49 fq9 hg9 F9 r9 N9 q1 q2 q3 q4 q5 q6 q7 q8 q9 q10 q11 q12
      have hIm : (hp60.objs.size, oI) ∈ fq9 := q1 _ (.head _)
      have up9 : ∀ q, q ∈ fq9 → q ∈ (L + 1 + 1 + 1 + 1 + 1 + 1, o59) :: (L + 1 + 1 + 1 + 1 + 1, o49) :: (L + 1 + 1 + 1 + 1, o3) :: fq9 := fun q hq => .tail _ (.tail _ (.tail _ hq))
      have lne : ∀ q ∈ fq9, (∃ xs n, q.2 = W.listOf xs n) → q.1 ≠ hp60.objs.size := fun q hq ⟨xs, n, hx⟩ => obj_ne (o1 := q.2) N9 (up9 q hq) (up9 _ hIm) (fun e => by have h1 := hli.2; rw [← e, hx] at h1; cases h1)
      have lin : ∀ q ∈ fq9, (∃ xs n, q.2 = W.listOf xs n) → q ∈ without [hp60.objs.size] fq9 := fun q hq hx => without_mem hq (fun z hz => by rw [List.mem_singleton.mp hz]; exact lne q hq hx)
      have fin9 : ∀ q, q ∈ fz → q ∈ without [hp60.objs.size] fq9 := fun q hq => without_mem (q1 q (.tail _ (j3 q hq))) (fun z hz => by rw [List.mem_singleton.mp hz]; exact j15 q (.tail _ (.tail _ (.tail _ (j3 q hq)))))
      have wsub : ∀ q ∈ without [hp60.objs.size] fq9, q ∈ fq9 := fun q hq => (List.mem_filter.mp hq).1
      refine GTurn.mk ((L + 1 + 1 + 1 + 1 + 1 + 1, o59) :: (L + 1 + 1 + 1 + 1 + 1, o49) :: (L + 1 + 1 + 1 + 1, o3) :: without [hp60.objs.size] fq9) hg9 F9 N9 ?g1 ⟨Ow9, Hw9, _, _, o59, o49, without [hp60.objs.size] fq9, ysO9, enO9, ysH9, enH9, r9, rfl, fin9, fun q hq => q2 q (wsub q hq), fun q hq => q3 q (wsub q hq), fun q hq => q4 q (wsub q hq), q5, q6, Rows3.congr q7 ?c7, Rows3.congr q8 ?c8, lin _ q9 ⟨_, _, rfl⟩, lin _ q10 ⟨_, _, rfl⟩, fun q hq => lin q (q11 q hq) (q7.2.2 q hq), fun q hq => lin q (q12 q hq) (q8.2.2 q hq), ?g2⟩
      case g1 =>
        intro q hq
        simp only [List.mem_cons] at hq
        rcases hq with rfl | rfl | rfl | rfl | hq
        · exact up9 _ hIm
        · exact .head _
        · exact .tail _ (.head _)
        · exact .tail _ (.tail _ (.head _))
        · exact up9 q (wsub q hq)
      case c7 => exact own_next hz k
      case c8 => exact heights_next hz k
      case g2 =>
        refine List.forall_mem_cons.mpr ⟨j15 (L + 1 + 1 + 1 + 1 + 1 + 1, p5) (.head _), List.forall_mem_cons.mpr ⟨j15 (L + 1 + 1 + 1 + 1 + 1, p4) (.tail _ (.head _)), List.forall_mem_cons.mpr ⟨j15 _ (.tail _ (.tail _ (.head _))), without_ne (.head _)⟩⟩⟩
    case done =>
      rintro m' news' h tk gg ⟨O, Hh, nO, nH, p5, p4, fq, ys1, en1, ys2, en2, j1, rfl, hs, _⟩ hgb F7 N7
      rw [loc1 j1 (fun y _ => rfl)] at F7
      k_steps
      rename Fr _ _ _ _ => F9
      rename News _ _ _ _ => N9
      exact retF _ _ _ _ _ hgb F9 N9 (fun q hq => .tail _ (.tail _ (.tail _ (hs q hq))))
end
section
variable {prog : Program} {w : World} {loose : List Str} {mean : ExcName → Option Value} {mg mb : Str → Option Value} {dp un : Nat} {gd : Option (List Code)} {cn : Str} {cs : Scope} {a : Addr} {ccd : Value} {cl : List (Str × Addr)} {outer : List Env} {A₀ : Around} {base h₀ : Heap} {L : Addr} {m : Str → Option Value} {news : List (Addr × Obj)} {s : Shared} {Q E : Value → Shared → Prop}
local macro_rules | `(tactic| walk_at "execs cons") => `(tactic| (k_here; (with_reducible show wpAny _ _ (execs (Stmt.Assign _ (Expr.ListComp _ _ _ _) _ :: _) _) _ _ _); refine Hold.mk ?_))
theorem seen_part {t1 t2 : Addr × Obj} {K G Rl : Addr} {o5 o4 o3 o2 o1 : Obj} {v5 v4 v3 : Option Value} {kv gv : List Value} {nk nr nG : Nat} {n0 n1 n2 op : Int} {tO : Tok} {R0 R1 R2 : List Int} {a0 a1 a2 : Addr} {rv0 rv1 rv2 : List Value} {l0 l1 l2 : Nat} {psT : Array Value} {fy : List (Addr × Obj)} {QF : Flow → Shared → Prop} {EF : Value → Shared → Prop}
   (B : Below A₀ base outer h₀) (F : Fr h₀ L s.heap m) (X : (hd.heap_1 w.params).In h₀)
   (N : News h₀ L s.heap (t1 :: t2 :: fy))
   (T : Top topProg loose mean mg mb h₀) (hdp : dp + 200 < recursionLimit) (hun : un + 2000 < cLine)
   (hc5 : (L + 1 + 1 + 1 + 1 + 1 + 1, o5) ∈ fy) (d5 : o5.data = .cell v5) (hc4 : (L + 1 + 1 + 1 + 1 + 1, o4) ∈ fy) (d4 : o4.data = .cell v4) (hc3 : (L + 1 + 1 + 1 + 1, o3) ∈ fy) (d3 : o3.data = .cell v3)
   (hc2 : (L + 1 + 1 + 1, o2) ∈ fy) (d2 : o2.data = .cell (some (.ref K))) (hc1 : (L + 1, o1) ∈ fy) (d1 : o1.data = .cell (some (.int op tO)))
   (hK : (K, W.listOf kv.toArray nk) ∈ fy) (hkv : IntsAre kv [n0, n1, n2])
   (hG : m (Str.ofString "rows") = some (.ref G)) (hRl : m (Str.ofString "rules") = some (.ref Rl)) (hGz : (G, W.listOf gv.toArray nG) ∈ fy) (hb : AllBare s.gens)
   (hop1 : 7 ≤ op) (hop2 : op ≤ 54) (hn : n0 ≠ n1 ∧ n0 ≠ n2 ∧ n1 ≠ n2 ∧ 256 ≤ n0 ∧ 256 ≤ n1 ∧ 256 ≤ n2) (hz : NamesOk [n0, n1, n2] [R0, R1, R2]) (hsym : ∀ r ∈ [R0, R1, R2], ∀ x ∈ r, x ∈ [n0, n1, n2, 7, 8, op])
   (hRm : (Rl, W.listOf [Value.ref a0, .ref a1, .ref a2].toArray nr) ∈ fy) (ha0 : (a0, W.listOf rv0.toArray l0) ∈ fy) (hr0 : IntsAre rv0 R0) (ha1 : (a1, W.listOf rv1.toArray l1) ∈ fy) (hr1 : IntsAre rv1 R1) (ha2 : (a2, W.listOf rv2.toArray l2) ∈ fy) (hr2 : IntsAre rv2 R2) (hrl3 : ∀ r ∈ [R0, R1, R2], r.length ≤ 3)
   (hgl : gv.length = 4) (hrows : ∀ (k : Nat) (v : Value), gv[k]? = some v → ∃ rw rv nw, v = .ref rw ∧ (rw, W.listOf rv.toArray nw) ∈ fy ∧ IntsAre rv (rowsL [n0, n1, n2] [R0, R1, R2] k [n0]))
   (htab : (110, tabObj psT) ∈ fy)
   (retF : ∀ (h' : Heap) (tk' : Nat) (gg : Array GenState) (m' : Str → Option Value) (news' : List (Addr × Obj)), AllBare gg → Fr h₀ L h' m' → News h₀ L h' news' → (110, tabObj psT) ∈ news' → QF (.ret (.bool true)) { s with heap := h', toks := tk', gens := gg }) :
   wpAny (model prog w) (ktrTop dp un gd (Str.ofString "law") lawScope L a ccd (cellsFrom (L + 1) lawScope.names []) outer) (execs (lawBody.drop 14) (envX (Str.ofString "law") lawScope L a ccd (cellsFrom (L + 1) lawScope.names []))) QF EF s := by
  have e : lawScope = lawScope := rfl
  conv at e => rhs; whnf
  rw [e]
  clear e
  conv => arg 3; arg 1; whnf
  rw [loc2 hG hRl (fun y _ _ => rfl)] at F
  k_steps
  refine Hold.out ?_
  rename Fr _ _ _ _ => F1
  rename News _ _ _ _ => N1
  k_dflt (refine' seen_spec (n0 := n0) (n1 := n1) (n2 := n2) ?BC F1 ?XC N1 ?TC ?hkC ?hdpC ?hunC (.tail _ (.tail _ hK)) hkv hn.2.2.2.1 hn.1 hn.2.1 hn.2.2.1 hn.2.2.2.2.1 hn.2.2.2.2.2 hop1 hop2 ?_)
  case BC => k_asm
  case XC => k_asm
  case TC => k_asm
  case hkC => exact rfl
  case hdpC => exact room0 hdp (Nat.le_of_ble_eq_true rfl)
  case hunC => exact room0 hun (Nat.le_of_ble_eq_true rfl)
  intro h2 tk2 ds ods kvs F2 N2 hds hdict hfin
  obtain ⟨fz, N3, hz5, hz4, hz3, hdsz, hlz, htz, hoz⟩ := phaseB N2 hc5 hc4 hc3 d5 d4 d3 hds
  have hc2z := hoz _ hc2 (by intro e9; have e8 : (_ : Nat) = _ := e9; omega) (by intro e9; have e8 : (_ : Nat) = _ := e9; omega) (by intro e9; have e8 : (_ : Nat) = _ := e9; omega)
  have lz : ∀ {e : Addr} {vs : Array Value} {n : Nat}, (e, W.listOf vs n) ∈ fy → (e, W.listOf vs n) ∈ fz := fun h => hlz _ h ⟨_, _, rfl⟩
  have htz' := htz _ htab ⟨_, rfl⟩
  clear N2 hc5 hc4 hc3 hc1 hds htz hoz hlz htab
  try dsimp only
  k_steps
  refine Hold.out ?_
  rename Fr _ _ _ _ => F4
  rename News _ _ _ _ => N4
  k_dflt (refine' own_part (ds := ds) ?B F4 ?X N4 ?T hdp hun hz5 hz4 hz3 d5 d4 (by assumption) hc2z d2 (lz hK) hkv rfl rfl (lz hGz) hb hdsz hdict hfin ?hop hn hz hsym (lz hRm) (lz ha0) hr0 (lz ha1) hr1 (lz ha2) hr2 hrl3 hgl ?hrows ?ret)
  case B => k_asm
  case X => k_asm
  case T => k_asm
  case hop => omega
  case hrows =>
    intro k v hv
    obtain ⟨rw', rv, nw, e, h, i⟩ := hrows k v hv
    exact ⟨rw', rv, nw, e, lz h, i⟩
  case ret => exact fun h' tk' gg m' news' g F5 N5 hs => retF h' tk' gg m' news' g F5 N5 (hs _ htz')
end
section
variable {prog : Program} {w : World} {loose : List Str} {mean : ExcName → Option Value} {mg mb : Str → Option Value} {dp un : Nat} {gd : Option (List Code)} {cn : Str} {cs : Scope} {a : Addr} {ccd : Value} {cl : List (Str × Addr)} {outer : List Env} {A₀ : Around} {base h₀ : Heap} {L : Addr} {m : Str → Option Value} {news : List (Addr × Obj)} {s : Shared} {Q E : Value → Shared → Prop}
local macro_rules | `(tactic| walk_at "call builtin:len") => `(tactic| refine Hold.mk ?_)
local macro_rules | `(tactic| walk_at "execs cons") => `(tactic| (k_here; (with_reducible show wpAny _ _ (execs (Stmt.Assign [Expr.Name (Str.ofString "seen") _] _ _ :: _) _) _ _ _); refine Hold.mk ?_))
theorem LexFix.move {text : Str} {x d l p f1 : Addr} {r1 r2 : List (Addr × Obj)} (Z : LexFix prog w loose mean mg mb text x d l p f1 r1) (hs : ∀ q ∈ r1, q ∈ r2) (h1 : ∀ q ∈ r2, q.1 ≠ d) (h2 : ∀ q ∈ r2, q.1 ≠ l) : LexFix prog w loose mean mg mb text x d l p f1 r2 := by
  obtain ⟨hinst, ⟨D, oD, f2, fd1, own, hoD, mD, mf, hown, hR, oc2, od2, fd2, sl2, mf2⟩, _, _, hdl, hlen⟩ := Z
  exact ⟨hs _ hinst, ⟨D, oD, f2, fd1, own, hoD, hs _ mD, hs _ mf, fun q hq => hs _ (hown q hq), hR, oc2, od2, fd2, sl2, hs _ mf2⟩, h1, h2, hdl, hlen⟩
theorem news_pfirst {h : Heap} {a b c d e : Addr × Obj} {l : List (Addr × Obj)} (N : News h₀ L h (a :: b :: c :: d :: e :: l)) : News h₀ L h (e :: a :: b :: c :: d :: l) := fun p hp => N p (by
  simp only [List.mem_cons] at hp ⊢
  rcases hp with h | h | h | h | h | h <;> simp [h])
theorem mem5 {a1 a2 a3 a4 a5 q : Addr × Obj} {l : List (Addr × Obj)} (h : q ∈ l) : q ∈ a1 :: a2 :: a3 :: a4 :: a5 :: l := .tail _ (.tail _ (.tail _ (.tail _ (.tail _ h))))
theorem mem4 {a1 a2 a3 a4 q : Addr × Obj} {l : List (Addr × Obj)} (h : q ∈ l) : q ∈ a1 :: a2 :: a3 :: a4 :: l := .tail _ (.tail _ (.tail _ (.tail _ h)))
theorem after_rounds {h : Heap} {d l p G : Addr} {od ol Go po : Obj} {dn fix fx : List (Addr × Obj)} (N : News h₀ L h ((G, Go) :: (p, po) :: (dn ++ fix))) (md : (d, od) ∈ fix) (ml : (l, ol) ∈ fix) (hdn : DnOk dn fix) (hfG : ∀ q ∈ dn ++ fix, q.1 ≠ G) (hpd : p ≠ d) (hpl : p ≠ l) (hfx : ∀ q ∈ fx, q ∈ fix) (nd : ∀ q ∈ fx, q.1 ≠ d) (nl : ∀ q ∈ fx, q.1 ≠ l) :
    ∃ r2, News h₀ L h ((d, od) :: (l, ol) :: r2) ∧ (∀ q ∈ fx, q ∈ r2) ∧ (G, Go) ∈ r2 ∧ (p, po) ∈ r2 ∧ (∀ q ∈ dn, q ∈ r2) ∧ (∀ q ∈ r2, q.1 ≠ d) ∧ (∀ q ∈ r2, q.1 ≠ l) :=
  ⟨without [d, l] ((G, Go) :: (p, po) :: (dn ++ fix)), news_two N (.tail _ (.tail _ (List.mem_append_right _ md))) (.tail _ (.tail _ (List.mem_append_right _ ml))), fun q hq => without_mem (.tail _ (.tail _ (List.mem_append_right _ (hfx q hq)))) (two_ne (nd q hq) (nl q hq)),
    without_mem (.head _) (two_ne (Ne.symm (hfG _ (List.mem_append_right _ md))) (Ne.symm (hfG _ (List.mem_append_right _ ml)))), without_mem (.tail _ (.head _)) (two_ne hpd hpl), fun q hq => without_mem (.tail _ (.tail _ (List.mem_append_left _ hq))) (two_ne (Ne.symm (hdn.2 q hq _ md)) (Ne.symm (hdn.2 q hq _ ml))), without_ne (.head _), without_ne (.tail _ (.head _))⟩
theorem told_part {x d lq p f1 K Rl Tx : Addr} {text J : Str} {ti : Tok} {ln : Int} {od : Obj} {o5 o4 o3 o2 ob o1 : Obj} {v5 v4 v3 : Option Value} {kv ys : List Value} {nk nr nT : Nat} {n0 n1 n2 op bits : Int} {tO tB : Tok} {R0 R1 R2 : List Int} {a0 a1 a2 : Addr} {rv0 rv1 rv2 : List Value} {l0 l1 l2 : Nat} {psT : Array Value} {fx : List (Addr × Obj)} {QF : Flow → Shared → Prop} {EF : Value → Shared → Prop}
   (B : Below A₀ base outer h₀) (F : Fr h₀ L s.heap m) (X : (hd.heap_1 w.params).In h₀)
   (N : News h₀ L s.heap ((d, od) :: (lq, W.listOf #[.int 0 ti] 0) :: (p, W.listOf #[] 0) :: fx))
   (T : Top topProg loose mean mg mb h₀) (hdp : dp + 200 < recursionLimit) (hun : un + 2000 < cLine)
   (Z : LexFix prog w loose mean mg mb text x d lq p f1 fx) (hpd : p ≠ d) (hpl : p ≠ lq) (hpf : ∀ q ∈ fx, q.1 ≠ p) (hod : LexD w od ln f1 p)
   (hc5 : (L + 1 + 1 + 1 + 1 + 1 + 1, o5) ∈ fx) (d5 : o5.data = .cell v5) (hc4 : (L + 1 + 1 + 1 + 1 + 1, o4) ∈ fx) (d4 : o4.data = .cell v4) (hc3 : (L + 1 + 1 + 1 + 1, o3) ∈ fx) (d3 : o3.data = .cell v3)
   (hc2 : (L + 1 + 1 + 1, o2) ∈ fx) (d2 : o2.data = .cell (some (.ref K))) (hcb : (L + 1 + 1, ob) ∈ fx) (db : ob.data = .cell (some (.int bits tB))) (hc1 : (L + 1, o1) ∈ fx) (d1 : o1.data = .cell (some (.int op tO)))
   (hLx : m (Str.ofString "lexer") = some (.ref x)) (hTx : m (Str.ofString "texts") = some (.ref Tx)) (hRl : m (Str.ofString "rules") = some (.ref Rl))
   (hJl : J.length ≤ 40) (hJ : J.cps.toList = (txtS bits R0).cps.toList ++ 39 :: ((txtS bits R1).cps.toList ++ 39 :: (txtS bits R2).cps.toList)) (hWt : tokAt text.cps.toList 0 J.cps.toList)
   (hTm : (Tx, W.listOf ys.toArray nT) ∈ fx) (hys : StrsAre ys [txtS bits R0, txtS bits R1, txtS bits R2]) (hb0 : 0 ≤ bits) (hb1 : bits < 256)
   (hK : (K, W.listOf kv.toArray nk) ∈ fx) (hkv : IntsAre kv [n0, n1, n2]) (hb : AllBare s.gens)
   (hop1 : 7 ≤ op) (hop2 : op ≤ 54) (hn : n0 ≠ n1 ∧ n0 ≠ n2 ∧ n1 ≠ n2 ∧ 256 ≤ n0 ∧ 256 ≤ n1 ∧ 256 ≤ n2) (hnn : n0 < 262144 ∧ n1 < 262144 ∧ n2 < 262144) (hz : NamesOk [n0, n1, n2] [R0, R1, R2]) (hsym : ∀ r ∈ [R0, R1, R2], ∀ x ∈ r, x ∈ [n0, n1, n2, 7, 8, op])
   (hRm : (Rl, W.listOf [Value.ref a0, .ref a1, .ref a2].toArray nr) ∈ fx) (ha0 : (a0, W.listOf rv0.toArray l0) ∈ fx) (hr0 : IntsAre rv0 R0) (ha1 : (a1, W.listOf rv1.toArray l1) ∈ fx) (hr1 : IntsAre rv1 R1) (ha2 : (a2, W.listOf rv2.toArray l2) ∈ fx) (hr2 : IntsAre rv2 R2) (hrl3 : ∀ r ∈ [R0, R1, R2], r.length ≤ 3)
   (htab : (110, tabObj psT) ∈ fx)
   (retF : ∀ (h' : Heap) (tk' : Nat) (gg : Array GenState) (m' : Str → Option Value) (news' : List (Addr × Obj)), AllBare gg → Fr h₀ L h' m' → News h₀ L h' news' → (110, tabObj psT) ∈ news' → QF (.ret (.bool true)) { s with heap := h', toks := tk', gens := gg }) :
   wpAny (model prog w) (ktrTop dp un gd (Str.ofString "law") lawScope L a ccd (cellsFrom (L + 1) lawScope.names []) outer) (execs (lawBody.drop 8) (envX (Str.ofString "law") lawScope L a ccd (cellsFrom (L + 1) lawScope.names []))) QF EF s := by
  have hsB : ∀ r ∈ [R0, R1, R2], ∀ x ∈ r, 0 < x ∧ x < 262144 := fun r hr x hx => by
    have h := hsym r hr x hx
    simp only [List.mem_cons, List.not_mem_nil, or_false] at h
    omega
  obtain ⟨hq0, hq1, hq2⟩ : _ ∧ _ ∧ _ := ⟨hsB R0 (.head _), hsB R1 (.tail _ (.head _)), hsB R2 (.tail _ (.tail _ (.head _)))⟩
  obtain ⟨hL0, hL1, hL2⟩ : _ ∧ _ ∧ _ := ⟨hrl3 R0 (.head _), hrl3 R1 (.tail _ (.head _)), hrl3 R2 (.tail _ (.tail _ (.head _)))⟩
  have e : lawScope = lawScope := rfl
  conv at e => rhs; whnf
  rw [e]
  clear e
  conv => arg 3; arg 1; whnf
  rw [loc3 hLx hTx hRl (fun y _ _ _ => rfl)] at F
  have Zp : LexFix prog w loose mean mg mb text x d lq p f1 ((p, W.listOf #[] 0) :: fx) := LexFix.cons Z hpd hpl
  have hinst := Z.inst
  obtain ⟨k1, k2, k3, k4, u1, u2, rfl⟩ := id hod
  k_steps
  refine Hold.out ?_
  refine wpAny_call ?_
  rename Fr _ _ _ _ => F1
  rename News _ _ _ _ => N1
  k_dflt (refine' tok_spec (x := x) (d := d) (l := lq) (p := p) (f1 := f1) (ti := ti) (i := 0) ?B7 F1 ?X7 N1 ?T7 ?hk7 ?hdp7 ?hun7 Zp hod rfl (Nat.zero_le _) (.head _) hWt ?_)
  case B7 => k_asm
  case X7 => k_asm
  case T7 => k_asm
  case hk7 => exact rfl
  case hdp7 => exact room0 hdp (Nat.le_of_ble_eq_true rfl)
  case hun7 => exact room0 hun (Nat.le_of_ble_eq_true rfl)
  intro h2 tk2 t2 od2 ol2 ln2 tl2 F2 N2 hod2 hol2
  clear Zp
  k_steps
  refine Hold.out ?_
  rename Fr _ _ _ _ => F3
  rename News _ _ _ _ => N3
  k_dflt (refine' decode_spec (sa := txtS bits R0) (sb := txtS bits R1) (sc := txtS bits R2) ?B8 F3 ?X8 N3 ?T8 ?hk8 ?hdp8 ?hun8 ?hsz8 ?hsp8 ?_)
  case B8 => k_asm
  case X8 => k_asm
  case T8 => k_asm
  case hk8 => exact rfl
  case hdp8 => exact room0 hdp (Nat.le_of_ble_eq_true rfl)
  case hun8 => exact room0 hun (Nat.le_of_ble_eq_true rfl)
  case hsz8 =>
    rw [sizeLine_eq]
    show J.cps.toList.toArray.size + 2 ≤ _
    have : J.cps.size ≤ 40 := hJl
    simp only [List.size_toArray, Array.length_toList]
    omega
  case hsp8 =>
    exact split_two (x := ⟨J.cps.toList.toArray⟩) (a := (txtS bits R0).cps.toList) (b := (txtS bits R1).cps.toList) (d := (txtS bits R2).cps.toList) (by rw [← hJ]) (txt_ok hL0 hq0).1 (txt_ok hL1 hq1).1 (txt_ok hL2 hq2).1
  intro h4 tk4 To vsT F4 N4 hTo hvT
  obtain ⟨e0, e1, e2, rfl⟩ := strs3 hvT
  have hTo0 := hTo
  k_lt hTo
  dsimp only
  k_steps
  refine Hold.out ?_
  rename News _ _ _ _ => N5
  refine ne_strs N5 (.head _) (.tail _ (.tail _ (.tail _ (.tail _ hTm)))) hvT hys (List.forall_mem_cons.mpr ⟨txtS_ok _, List.forall_mem_cons.mpr ⟨txtS_ok _, List.forall_mem_cons.mpr ⟨txtS_ok _, List.forall_mem_nil _⟩⟩⟩) (by units_room) ?_
  k_steps
  refine Hold.out ?_
  k_dflt (refine LCg.Assign_ListComp_U (F₀ := by k_asm) (by rfl) (by with_unfolding_all rfl) (by with_unfolding_all rfl) (by decide) (by rfl) (by decide) (by rfl) (by rfl) (by rfl) ?_)
  k_steps
  refine Hold.out ?_
  rename Fr _ _ _ _ => F6
  rename News _ _ _ _ => N6
  refine LCg.CompSrc.ledger (by rfl) F6 N6 (.head _) (by rw [sizeLine_eq]; exact Nat.le_of_ble_eq_true rfl) ?_
  intro g6
  refine comp_lists 3 (fun j => [R0, R1, R2].getD j []) ?hS3 ?turn3 ?fin3
  case hS3 => exact fun ents => .inr ⟨_, List.mem_append_left _ (.head _), rfl, _, rfl⟩
  case turn3 =>
    intro i v ys3 ents3 I oI C1 oC D m₂ h tk E' hi hv hR3 hn hm F7 N7 off hne
    refine gen_Q fun Pf qf => ?_
    simp only [List.cons_append, List.nil_append] at N7
    obtain ⟨tv, Ri, rfl, hRi, hqi⟩ : ∃ tv Ri, v = .str (txtS bits Ri) tv ∧ [R0, R1, R2].getD i [] = Ri ∧ (Ri.length ≤ 3 ∧ ∀ x ∈ Ri, 0 < x ∧ x < 262144) := by
      match i, hi, hv with
      | 0, _, e => cases e; exact ⟨_, R0, rfl, rfl, hL0, hq0⟩
      | 1, _, e => cases e; exact ⟨_, R1, rfl, rfl, hL1, hq1⟩
      | 2, _, e => cases e; exact ⟨_, R2, rfl, rfl, hL2, hq2⟩
    obtain ⟨g1, g2, z, hz, g3⟩ := gs_ok (bits := bits) Ri 0 hqi.2
    have hgl : (gsL bits 0 Ri).length ≤ 8 := by
      have := congrArg List.length g2
      rw [List.length_map] at this
      omega
    have hgx := txt_ok (bits := bits) hqi.1 hqi.2
    k_steps
    refine Hold.out ?_
    rename Fr _ _ _ _ => F8
    rename News _ _ _ _ => N8
    k_dflt (refine' read_spec (gs := gsL bits 0 Ri) (z := z) ?B9 F8 ?X9 N8 ?T9 ?hk9 ?hdp9 ?hun9 hgl ?hxl9 g1 hz g3 ?_)
    case B9 => k_asm
    case X9 => k_asm
    case T9 => k_asm
    case hk9 => exact rfl
    case hdp9 => exact room0 hdp (Nat.le_of_ble_eq_true rfl)
    case hun9 => exact room0 hun (Nat.le_of_ble_eq_true rfl)
    case hxl9 =>
      have := congrArg List.length g3
      rw [List.length_map] at this
      omega
    intro h9 tk9 D9 y9 n9 F9 N9 hn9 hy9
    rw [g2] at hy9
    k_steps
    refine qf _ _ (ListEnd.mk0 F9 N9 ?_ hn9)
    show IntsAre y9 ([R0, R1, R2].getD i [])
    rw [hRi]; exact hy9
  case fin3 =>
    intro ysR entsR hR3 hE3
    unfold LCg.FinA
    intro Rt h7 tk7 F7 N7 off7
    have hRto := off1_mem off7
    have hRto0 := hRto
    clear off7
    simp only [List.cons_append, List.nil_append] at N7 hRto
    obtain ⟨b0, b1, b2, bv0, bv1, bv2, z0, z1, z2, rfl, hbm0, hbm1, hbm2, hj0, hj1, hj2⟩ := hR3.three
    change IntsAre bv0 R0 at hj0
    change IntsAre bv1 R1 at hj1
    change IntsAre bv2 R2 at hj2
    dsimp only
    k_steps
    refine Hold.out ?_
    rename News _ _ _ _ => N8
    have up : ∀ q, q ∈ fx → q ∈ fx ++ entsR := fun q hq => List.mem_append_left _ hq
    have hc2u := up _ hc2
    have hcbu := up _ hcb
    refine ne_rows N8 (.head _) (mem5 (List.mem_append_right _ hbm0)) (mem5 (List.mem_append_right _ hbm1)) (mem5 (List.mem_append_right _ hbm2)) hj0 hj1 hj2 (mem5 (up _ hRm)) (mem5 (up _ ha0)) (mem5 (up _ ha1)) (mem5 (up _ ha2)) hr0 hr1 hr2 (by units_room) ?_
    k_steps
    refine Hold.out ?_
    rename Fr _ _ _ _ => F9
    rename News _ _ _ _ => N9
    have hp10 : ∀ q ∈ (Rt, LCg.lst [Value.ref b0, .ref b1, .ref b2]) :: (To, W.listOf [Value.str (txtS bits R0) e0, .str (txtS bits R1) e1, .str (txtS bits R2) e2].toArray 0) :: (d, od2) :: (lq, ol2) :: (fx ++ entsR), q.1 ≠ p :=
      List.forall_mem_cons.mpr ⟨Ne.symm (hRto0 (p, _) (.tail _ (.tail _ (.tail _ (.head _))))), List.forall_mem_cons.mpr ⟨Ne.symm (Nat.ne_of_lt (hTo0 (p, _) (.tail _ (.tail _ (.head _))))), List.forall_mem_cons.mpr ⟨Ne.symm hpd, List.forall_mem_cons.mpr ⟨Ne.symm hpl, fun q hq => (List.mem_append.mp hq).elim (hpf q) (fun h => Ne.symm (hE3 q h (p, _) (.tail _ (.tail _ (.tail _ (.head _))))))⟩⟩⟩⟩
    k_dflt (refine' rounds_spec (x := x) (d := d) (p := p) (f1 := f1) (n0 := n0) (n1 := n1) (n2 := n2) ?BA F9 ?XA (news_pfirst N9) ?TA ?hkA ?hdpA ?hunA (mem4 (up _ hinst)) (.tail _ (.tail _ (.head _))) hod2 hp10 (mem4 (up _ hK)) hkv (.head _) (mem4 (List.mem_append_right _ hbm0)) hj0 (mem4 (List.mem_append_right _ hbm1)) hj1 (mem4 (List.mem_append_right _ hbm2)) hj2 ⟨hn.2.2.2.1, hnn.1⟩ ⟨hn.2.2.2.2.1, hnn.2.1⟩ ⟨hn.2.2.2.2.2, hnn.2.2⟩ hz hrl3 hsB hb0 hb1 ?_)
    case BA => k_asm
    case XA => k_asm
    case TA => k_asm
    case hkA => exact rfl
    case hdpA => exact room0 hdp (Nat.le_of_ble_eq_true rfl)
    case hunA => exact room0 hun (Nat.le_of_ble_eq_true rfl)
    intro h11 tk11 G gv nG nQ dn F11 N11 hdn hfG hGp hfp hgl hgr
    obtain ⟨r2, N12, inR, hGr, hpr, dnr, nd2, nl2⟩ := after_rounds N11 (.tail _ (.tail _ (.head _))) (.tail _ (.tail _ (.tail _ (.head _)))) hdn hfG hpd hpl (fun q hq => mem4 (up _ hq)) Z.nd Z.nl
    have Z2 := LexFix.move Z inR nd2 nl2
    have hsz4 : ((gv.toArray.size : Nat) : Int) = 4 := by rw [List.size_toArray, hgl]; rfl
    clear N11 hp10 hfG hdn hfp N9
    obtain ⟨z1, z2, z3, z4, z5, z6, rfl⟩ := hod2
    have hinst2 := Z2.inst
    dsimp only
    k_steps
    refine Hold.out ?_
    rename News _ _ _ _ => N13
    refine len_N N13 (.tail _ (.tail _ hGr)) hsz4 (by decide) ?_
    k_steps
    refine Hold.out ?_
    refine wpAny_call ?_
    rename Fr _ _ _ _ => F14
    rename News _ _ _ _ => N14
    k_dflt (refine' tok_spec (x := x) (d := d) (l := lq) (p := p) (f1 := f1) (i := text.length) (res := []) ?BB F14 ?XB N14 ?TB ?hkB ?hdpB ?hunB Z2 ⟨_, _, _, _, _, _, rfl⟩ hol2 (Nat.le_refl _) hpr (.inl ⟨Array.length_toList.symm, rfl⟩) ?_)
    case BB => k_asm
    case XB => k_asm
    case TB => k_asm
    case hkB => exact rfl
    case hdpB => exact room0 hdp (Nat.le_of_ble_eq_true rfl)
    case hunB => exact room0 hun (Nat.le_of_ble_eq_true rfl)
    intro h15 tk15 t15 od3 ol3 ln3 t3 F15 N15 hod3 hol3
    clear Z2
    k_steps
    refine Hold.out ?_
    rename Fr _ _ _ _ => F16
    rename News _ _ _ _ => N16
    k_dflt (refine' seen_part (K := K) (G := G) (op := op) (psT := psT) ?BC F16 ?XC N16 ?TC hdp hun (inR _ hc5) d5 (inR _ hc4) d4 (inR _ hc3) d3 (inR _ hc2) d2 (inR _ hc1) d1 (inR _ hK) hkv rfl rfl hGr hb hop1 hop2 hn hz hsym (inR _ hRm) (inR _ ha0) hr0 (inR _ ha1) hr1 (inR _ ha2) hr2 hrl3 hgl ?hrows (inR _ htab) ?_)
    case BC => k_asm
    case XC => k_asm
    case TC => k_asm
    case hrows =>
      intro k v hv
      have hk4 : k < 4 := by
        rcases Nat.lt_or_ge k gv.length with h | h
        · omega
        · rw [List.getElem?_eq_none h] at hv; cases hv
      obtain ⟨a, rv, nn, h1, h2, h3⟩ := hgr k hk4
      rw [hv] at h1
      exact ⟨a, rv, nn, Option.some.inj h1, dnr _ h2, h3⟩
    exact fun h' tk' gg m' news' g F5 N5 hs => retF h' tk' gg m' news' g F5 N5 hs
end
local macro_rules | `(tactic| walk_at "execs cons") => `(tactic| (k_here; (with_reducible show wpAny _ _ (execs (Stmt.Assign [Expr.Name (Str.ofString "told") _] _ _ :: _) _) _ _ _); refine Hold.mk ?_))
section
variable {prog : Program} {w : World} {loose : List Str} {mean : ExcName → Option Value} {mg mb : Str → Option Value} {dp un : Nat} {gd : Option (List Code)} {cn : Str} {cs : Scope} {a : Addr} {ccd : Value} {cl : List (Str × Addr)} {outer : List Env} {A₀ : Around} {base h₀ : Heap} {L : Addr} {m : Str → Option Value} {news : List (Addr × Obj)} {s : Shared} {Q E : Value → Shared → Prop}
theorem pull_tab2 {h : Heap} {led : List (Addr × Obj)} {P : Addr} {ps : Array Value} (N : News h₀ L h led) (hm : (P, tabObj ps) ∈ led) : News h₀ L h ((P, tabObj ps) :: without [P] led) := fun p hp => by
  rcases List.mem_cons.mp hp with rfl | hp
  · exact N _ hm
  · exact without_news N p hp
theorem cut_tab {h : Heap} {led : List (Addr × Obj)} {P : Addr} {ps : Array Value} (N : News h₀ L h led) (hm : (P, tabObj ps) ∈ led) : ∃ lw, News h₀ L h ((P, tabObj ps) :: lw) ∧ (∀ q ∈ lw, q.1 ≠ P) ∧ ∀ e o, (e, o) ∈ led → o ≠ tabObj ps → (e, o) ∈ lw :=
  ⟨without [P] led, pull_tab2 N hm, without_ne (.head _), fun e o he hne => without_mem he fun a ha => by
    rw [List.mem_singleton.mp ha]
    exact obj_ne N he hm hne⟩
theorem lay_lexer2 {h : Heap} {d l p x : Addr} {od ol po xo : Obj} {own led : List (Addr × Obj)} (N : News h₀ L h ((d, od) :: (p, po) :: (x, xo) :: (l, ol) :: (own ++ led)))
    (hol : ∀ q ∈ own, q.1 ≠ l) (hnl : ∀ q ∈ led, q.1 < l) (hd : ∀ q ∈ (l, ol) :: (own ++ led), q.1 < d) (hdx : @LT.lt Nat _ d x) (hxp : @LT.lt Nat _ x p) :
    News h₀ L h ((d, od) :: (l, ol) :: (p, po) :: (x, xo) :: (own ++ led)) ∧ (∀ q ∈ (x, xo) :: (own ++ led), q.1 ≠ d) ∧ (∀ q ∈ (x, xo) :: (own ++ led), q.1 ≠ l) ∧ l ≠ d ∧ (∀ q ∈ (x, xo) :: (own ++ led), q.1 ≠ p) ∧ p ≠ d ∧ p ≠ l := by
  have hld : @LT.lt Nat _ l d := hd _ (.head _)
  have hdp := Nat.lt_trans hdx hxp
  refine ⟨fun q hq => N q ?_, List.forall_mem_cons.mpr ⟨Ne.symm (Nat.ne_of_lt hdx), fun q hq => Nat.ne_of_lt (hd q (.tail _ hq))⟩, List.forall_mem_cons.mpr ⟨Ne.symm (Nat.ne_of_lt (Nat.lt_trans hld hdx)), fun q hq => (List.mem_append.mp hq).elim (hol q) (fun h => Nat.ne_of_lt (hnl q h))⟩, Nat.ne_of_lt hld, List.forall_mem_cons.mpr ⟨Nat.ne_of_lt hxp, fun q hq => Nat.ne_of_lt (Nat.lt_trans (hd q (.tail _ hq)) hdp)⟩, Ne.symm (Nat.ne_of_lt hdp), Ne.symm (Nat.ne_of_lt (Nat.lt_trans hld hdp))⟩
  simp only [List.mem_cons] at hq ⊢
  rcases hq with h | h | h | h | h <;> simp [h]
theorem texts_part {K C : Addr} {o5 o4 o3 o2 ob o1 : Obj} {v5 v4 v3 : Option Value} {kv : List Value} {nk nC : Nat} {n0 n1 n2 op bits c0 c1 c2 : Int} {tO tB t0 t1 t2 : Tok} {led : List (Addr × Obj)} {QF : Flow → Shared → Prop} {EF : Value → Shared → Prop}
   (B : Below A₀ base outer h₀) (F : Fr h₀ L s.heap m) (X : (hd.heap_1 w.params).In h₀) (hCd : CodeHd base 114 110)
   (N : News h₀ L s.heap led) (T : Top topProg loose mean mg mb h₀) (hdp : dp + 200 < recursionLimit) (hun : un + 2000 < cLine)
   (hc5 : (L + 1 + 1 + 1 + 1 + 1 + 1, o5) ∈ led) (d5 : o5.data = .cell v5) (hc4 : (L + 1 + 1 + 1 + 1 + 1, o4) ∈ led) (d4 : o4.data = .cell v4) (hc3 : (L + 1 + 1 + 1 + 1, o3) ∈ led) (d3 : o3.data = .cell v3)
   (hc2 : (L + 1 + 1 + 1, o2) ∈ led) (d2 : o2.data = .cell (some (.ref K))) (hcb : (L + 1 + 1, ob) ∈ led) (db : ob.data = .cell (some (.int bits tB))) (hc1 : (L + 1, o1) ∈ led) (d1 : o1.data = .cell (some (.int op tO)))
   (hcl : m (Str.ofString "cells") = some (.ref C)) (hC : (C, W.listOf [Value.int c0 t0, .int c1 t1, .int c2 t2].toArray nC) ∈ led) 
   (hb0 : 0 ≤ bits) (hb1 : bits < 256) (hK : (K, W.listOf kv.toArray nk) ∈ led) (hkv : IntsAre kv [n0, n1, n2]) (hb : AllBare s.gens)
   (hop1 : 7 ≤ op) (hop2 : op ≤ 54) (hn : n0 ≠ n1 ∧ n0 ≠ n2 ∧ n1 ≠ n2 ∧ 256 ≤ n0 ∧ 256 ≤ n1 ∧ 256 ≤ n2) (hnn : n0 < 262144 ∧ n1 < 262144 ∧ n2 < 262144)
   (hz : ∀ R0 R1 R2 : List Int, (∀ x ∈ R0, x ∈ [n0, n1, n2, 7, 8, op]) → (∀ x ∈ R1, x ∈ [n0, n1, n2, 7, 8, op]) → (∀ x ∈ R2, x ∈ [n0, n1, n2, 7, 8, op]) → NamesOk [n0, n1, n2] [R0, R1, R2])
   (htab : (110, tabObj #[]) ∈ led)
   (retF : ∀ (h' : Heap) (tk' : Nat) (gg : Array GenState) (m' : Str → Option Value) (news' : List (Addr × Obj)) (psT : Array Value), AllBare gg → Fr h₀ L h' m' → News h₀ L h' news' → (110, tabObj psT) ∈ news' → QF (.ret (.bool true)) { s with heap := h', toks := tk', gens := gg }) :
   wpAny (model prog w) (ktrTop dp un gd (Str.ofString "law") lawScope L a ccd (cellsFrom (L + 1) lawScope.names []) outer) (execs (lawBody.drop 5) (envX (Str.ofString "law") lawScope L a ccd (cellsFrom (L + 1) lawScope.names []))) QF EF s := by
  obtain ⟨t3, t4, t5, rfl⟩ := ints3 hkv
  have hkb : ∀ x ∈ [n0, n1, n2, 7, 8, op], 0 < x ∧ x < 262144 := by
    intro x hx
    simp only [List.mem_cons, List.not_mem_nil, or_false] at hx
    omega
  have e : lawScope = lawScope := rfl
  conv at e => rhs; whnf
  rw [e]
  clear e
  conv => arg 3; arg 1; whnf
  rw [loc1 hcl (fun y _ => rfl)] at F
  k_steps
  refine Hold.out ?_
  k_dflt (refine LCg.Assign_ListComp_U (F₀ := by k_asm) (by rfl) (by with_unfolding_all rfl) (by with_unfolding_all rfl) (by decide) (by rfl) (by decide) (by rfl) (by rfl) (by rfl) ?_)
  k_steps
  refine Hold.out ?_
  rename Fr _ _ _ _ => F1
  rename News _ _ _ _ => N1
  refine LCg.CompSrc.ledger (by rfl) F1 N1 hC (by rw [sizeLine_eq]; exact Nat.le_of_ble_eq_true rfl) ?_
  intro g1
  refine comp_lists 3 (fun j => ruleL [n0, n1, n2, 7, 8, op] ([c0, c1, c2].getD j 0)) ?hS ?turn ?fin
  case hS => exact fun ents => .inr ⟨_, List.mem_append_left _ hC, rfl, _, rfl⟩
  case turn =>
    intro i v ys ents I oI C1 oC D m₂ h tk E' hi hv hR hn hm F4 N4 off hne
    try simp only [List.cons_append, List.nil_append] at N4
    obtain ⟨xc, txc, hxc, rfl⟩ : ∃ xc txc, [c0, c1, c2].getD i 0 = xc ∧ v = .int xc txc := by
      match i, hi, hv with
      | 0, _, e => cases e; exact ⟨_, _, rfl, rfl⟩
      | 1, _, e => cases e; exact ⟨_, _, rfl, rfl⟩
      | 2, _, e => cases e; exact ⟨_, _, rfl, rfl⟩
    have hxr : 0 ≤ Int.fmod xc 864 ∧ Int.fmod xc 864 < 864 := ⟨Int.fmod_nonneg_of_pos _ (by decide), Int.fmod_lt_of_pos _ (by decide)⟩
    have hc1u : (L + 1, o1) ∈ led ++ ents := List.mem_append_left _ hc1
    have hc2u : (L + 1 + 1 + 1, o2) ∈ led ++ ents := List.mem_append_left _ hc2
    have hKu := List.mem_append_left ents hK
    have hlt4 := news_lt N4
    k_steps
    refine Hold.out ?_
    rename Fr _ _ _ _ => F5
    rename News _ _ _ _ => N5
    rename _ ∧ _ => l5
    k_dflt (refine' rule_spec ?B2 F5 ?X2 N5 ?T2 ?hk2 ?hdp2 ?hun2 (.head _) ?hkv2 ?hl2 hxr.1 hxr.2 ?_)
    case B2 => k_asm
    case X2 => k_asm
    case T2 => k_asm
    case hk2 => exact rfl
    case hdp2 => exact room0 hdp (Nat.le_of_ble_eq_true rfl)
    case hun2 => exact room0 hun (Nat.le_of_ble_eq_true rfl)
    case hkv2 => exact .cons _ _ (.cons _ _ (.cons _ _ (.cons _ _ (.cons _ _ (.cons _ _ .nil)))))
    case hl2 => rfl
    intro h6 tk6 D6 ys6 nn6 F6 N6 hne6 hys6
    k_steps
    rw [hxc]
    exact ListEnd.mk2 F6 N6 hys6 hne6
  case fin =>
    intro ys ents hR hEE
    unfold LCg.FinA
    intro Rl h7 tk7 F7 N7 off7
    clear off7
    try simp only [List.cons_append, List.nil_append] at N7
    obtain ⟨a0, a1, a2, rv0, rv1, rv2, m0, m1, m2, rfl, ha0, ha1, ha2, hi0, hi1, hi2⟩ := hR.three
    change IntsAre rv0 (ruleL _ c0) at hi0
    change IntsAre rv1 (ruleL _ c1) at hi1
    change IntsAre rv2 (ruleL _ c2) at hi2
    have hq0 := ruleL_ok (kinds := [n0, n1, n2, 7, 8, op]) rfl c0
    have hq1 := ruleL_ok (kinds := [n0, n1, n2, 7, 8, op]) rfl c1
    have hq2 := ruleL_ok (kinds := [n0, n1, n2, 7, 8, op]) rfl c2
    generalize ruleL [n0, n1, n2, 7, 8, op] c0 = R0 at hi0 hq0
    generalize ruleL [n0, n1, n2, 7, 8, op] c1 = R1 at hi1 hq1
    generalize ruleL [n0, n1, n2, 7, 8, op] c2 = R2 at hi2 hq2
    have hx0 := txt_ok (bits := bits) hq0.1 (fun x hx => hkb x (hq0.2 x hx))
    have hx1 := txt_ok (bits := bits) hq1.1 (fun x hx => hkb x (hq1.2 x hx))
    have hx2 := txt_ok (bits := bits) hq2.1 (fun x hx => hkb x (hq2.2 x hx))
    have hcbu : (L + 1 + 1, ob) ∈ led ++ ents := List.mem_append_left _ hcb
    have hCu := List.mem_append_left ents hC
    dsimp only
    k_steps
    refine Hold.out ?_
    k_dflt (refine LCg.Assign_ListComp_U (F₀ := by k_asm) (by rfl) (by with_unfolding_all rfl) (by with_unfolding_all rfl) (by decide) (by rfl) (by decide) (by rfl) (by rfl) (by rfl) ?_)
    k_steps
    refine Hold.out ?_
    rename Fr _ _ _ _ => F9
    rename News _ _ _ _ => N9
    refine LCg.CompSrc.ledger (by rfl) F9 N9 (.head _) (by rw [sizeLine_eq]; exact Nat.le_of_ble_eq_true rfl) ?_
    intro g10
    refine comp_strs [txtS bits R0, txtS bits R1, txtS bits R2] ?hS2 ?turn2 ?fin2
    case hS2 => exact .inr ⟨_, .head _, rfl, _, rfl⟩
    case turn2 =>
      intro i v ys xt I oI C1 oC D m₂ h tk E' hxt hv hn hm F10 N10 off hne
      refine gen_Q fun Pg qg => ?_
      obtain ⟨aj, rvj, mj, Rj, rfl, haj, hij, hqj, rfl⟩ : ∃ aj rvj mj Rj, v = .ref aj ∧ (aj, W.listOf rvj.toArray mj) ∈ led ++ ents ∧ IntsAre rvj Rj ∧ (Rj.length ≤ 3 ∧ ∀ x ∈ Rj, x ∈ [n0, n1, n2, 7, 8, op]) ∧ xt = txtS bits Rj := by
        match i, hxt, hv with
        | 0, e1, e2 => cases e1; cases e2; exact ⟨a0, rv0, m0, R0, rfl, List.mem_append_right _ ha0, hi0, hq0, rfl⟩
        | 1, e1, e2 => cases e1; cases e2; exact ⟨a1, rv1, m1, R1, rfl, List.mem_append_right _ ha1, hi1, hq1, rfl⟩
        | 2, e1, e2 => cases e1; cases e2; exact ⟨a2, rv2, m2, R2, rfl, List.mem_append_right _ ha2, hi2, hq2, rfl⟩
        | n + 3, e1, e2 => cases e1
      k_steps
      refine Hold.out ?_
      rename Fr _ _ _ _ => F12
      rename News _ _ _ _ => N12
      k_dflt (refine' spelled_spec ?B3 F12 ?X3 N12 ?T3 ?hk3 ?hdp3 ?hun3 (.head _) (by assumption) ?hlen3 ?hrow3 hb0 hb1 ?_)
      case B3 => k_asm
      case X3 => k_asm
      case T3 => k_asm
      case hk3 => exact rfl
      case hdp3 => exact room0 hdp (Nat.le_of_ble_eq_true rfl)
      case hun3 => exact room0 hun (Nat.le_of_ble_eq_true rfl)
      case hlen3 => rw [List.length_append, List.length_cons, List.length_nil]; omega
      case hrow3 =>
        intro x hx
        rcases List.mem_append.mp hx with hx | hx
        · have := hkb x (hqj.2 x hx); omega
        · rw [List.mem_singleton.mp hx]; decide
      intro h13 tk13 t13 F13 N13
      exact qg _ _ (StrEnd.mk F13 N13 (fun p hp => .tail _ (.tail _ hp)))
    case fin2 =>
      intro ys hys
      unfold LCg.FinA
      intro Tx h11 tk11 F11 N11 off11
      clear off11
      dsimp only
      k_steps
      refine Hold.out (join_listW (ys := [txtS bits R0, txtS bits R1, txtS bits R2]) (PySem.IsL.isList (n := ys.length) (N11 _ (.head _)).1) (by simpa using hys) (by decide +kernel) ?szj fun tJ kJ => ?_)
      case szj =>
        show (signsF bits 0 ((R0 ++ [0]).flatMap figs)).toArray.size + ((signsF bits 0 ((R1 ++ [0]).flatMap figs)).toArray.size + ((signsF bits 0 ((R2 ++ [0]).flatMap figs)).toArray.size + 0)) + 3 ≤ _
        simp only [List.size_toArray]
        omega
      have hJ := join3 (txtS bits R0) (txtS bits R1) (txtS bits R2)
      generalize Txt.join (Str.ofString "'") [txtS bits R0, txtS bits R1, txtS bits R2] = J at hJ ⊢
      have hJl : J.length ≤ 40 := by
        have h1 := congrArg List.length hJ
        rw [Array.length_toList] at h1
        simp only [List.length_append, List.length_cons] at h1
        rw [show (txtS bits R0).cps.toList = _ from txtS_list bits R0, show (txtS bits R1).cps.toList = _ from txtS_list bits R1, show (txtS bits R2).cps.toList = _ from txtS_list bits R2] at h1
        show J.cps.size ≤ 40
        omega
      k_steps
      refine Hold.out ?_
      rename Fr _ _ _ _ => F14
      rename News _ _ _ _ => N14
      k_dflt (refine' written_spec ?B4 F14 ?X4 N14 ?T4 ?hk4 ?hdp4 ?hun4 (Nat.le_trans hJl (by decide)) ?_)
      case B4 => k_asm
      case X4 => k_asm
      case T4 => k_asm
      case hk4 => exact rfl
      case hdp4 => exact room0 hdp (Nat.le_of_ble_eq_true rfl)
      case hun4 => exact room0 hun (Nat.le_of_ble_eq_true rfl)
      intro h15 tk15 Wx tW F15 N15 hW
      have hJne : J.cps.toList ≠ [] := by rw [hJ]; simp
      have hWl : Wx.length ≤ 4096 := by rw [hW]; exact writtenS_len hJl
      have hWt : tokAt Wx.cps.toList 0 J.cps.toList := by rw [hW]; exact writtenS_tok hJne
      clear hW
      k_steps
      refine Hold.out ?_
      rename Fr _ _ _ _ => F16
      rename News _ _ _ _ => N16
      obtain ⟨lw, N17, hn110, inW⟩ := cut_tab N16 (.tail _ (.tail _ (List.mem_append_left _ htab)))
      k_dflt (refine' stream_spec ?B5 F16 ?X5 N17 ?hC5 hn110 ?T5 ?hk5 ?hdp5 ?hun5 hWl ?_)
      case B5 => k_asm
      case X5 => k_asm
      case T5 => k_asm
      case hC5 => assumption
      case hk5 => exact rfl
      case hdp5 => exact room0 hdp (Nat.le_of_ble_eq_true rfl)
      case hun5 => exact room0 hun (Nat.le_of_ble_eq_true rfl)
      intro h18 tk18 Ds ods f1 fd1 f2 lq ti own F18 N18 s1 s2 s3 s4 s5 s6 s7 s8 s9
      k_steps
      refine Hold.out ?_
      rename Fr _ _ _ _ => F19
      rename News _ _ _ _ => N19
      k_dflt (refine' make_spec ?B6 F19 ?X6 N19 ?T6 ?hk6 ?hdp6 ?hun6 ?_)
      case B6 => k_asm
      case X6 => k_asm
      case T6 => k_asm
      case hk6 => exact rfl
      case hdp6 => exact room0 hdp (Nat.le_of_ble_eq_true rfl)
      case hun6 => exact room0 hun (Nat.le_of_ble_eq_true rfl)
      intro h20 tk20 x d p od F20 N20 hod hd1 hd2 hd3
      obtain ⟨N21, nd, nl, hld, np, hpd, hpl⟩ := lay_lexer2 N20 s7 s8 hd1 hd2 hd3
      have Z := lex_of2 (prog := prog) (w := w) (loose := loose) (mean := mean) (mg := mg) (mb := mb) (p := p) (.head _) nd nl hld hWl s1 s2 s3 s4 s5 (fun q hq => .tail _ (List.mem_append_left _ hq))
      obtain ⟨psT, hpsT⟩ := s9
      have inF : ∀ {e : Addr} {o : Obj}, (e, o) ∈ led → o ≠ tabObj #[] → (e, o) ∈ (x, instObj 87 d) :: (own ++ lw) := fun h1 h2 => .tail _ (List.mem_append_right _ (inW _ _ (.tail _ (.tail _ (List.mem_append_left _ h1))) h2))
      have inE : ∀ {e : Addr} {vs : Array Value} {n : Nat}, (e, W.listOf vs n) ∈ ents → (e, W.listOf vs n) ∈ (x, instObj 87 d) :: (own ++ lw) := fun h1 => .tail _ (List.mem_append_right _ (inW _ _ (.tail _ (.tail _ (List.mem_append_right _ h1))) (list_tab ⟨_, _, rfl⟩)))
      have hRlF : (Rl, W.listOf [Value.ref a0, .ref a1, .ref a2].toArray _) ∈ (x, instObj 87 d) :: (own ++ lw) := .tail _ (List.mem_append_right _ (inW _ _ (.tail _ (.head _)) (list_tab ⟨_, _, rfl⟩)))
      have hTxF : (Tx, W.listOf ys.toArray _) ∈ (x, instObj 87 d) :: (own ++ lw) := .tail _ (List.mem_append_right _ (inW _ _ (.head _) (list_tab ⟨_, _, rfl⟩)))
      have htF : (110, tabObj psT) ∈ (x, instObj 87 d) :: (own ++ lw) := .tail _ (List.mem_append_left _ hpsT)
      clear N20 s1 s2 s3 s4 s5 s6 s7 s8 hd1 hd2 hd3
      k_steps
      refine Hold.out ?_
      rename Fr _ _ _ _ => F22
      rename News _ _ _ _ => N22
      k_dflt (refine' told_part (psT := psT) (K := K) (op := op) (R0 := R0) (R1 := R1) (R2 := R2) ?B7 F22 ?X7 N22 ?T7 hdp hun Z hpd hpl np hod (inF hc5 (cell_tab d5)) d5 (inF hc4 (cell_tab d4)) d4 (inF hc3 (cell_tab d3)) d3 (inF hc2 (cell_tab d2)) d2 (inF hcb (cell_tab db)) db (inF hc1 (cell_tab d1)) d1 rfl rfl rfl hJl hJ hWt hTxF hys hb0 hb1 (inF hK (list_tab ⟨_, _, rfl⟩)) hkv hb hop1 hop2 hn hnn (hz R0 R1 R2 hq0.2 hq1.2 hq2.2) ?hsym hRlF (inE ha0) hi0 (inE ha1) hi1 (inE ha2) hi2 ?hrl3 htF ?_)
      case B7 => k_asm
      case X7 => k_asm
      case T7 => k_asm
      case hsym => exact List.forall_mem_cons.mpr ⟨hq0.2, List.forall_mem_cons.mpr ⟨hq1.2, List.forall_mem_cons.mpr ⟨hq2.2, List.forall_mem_nil _⟩⟩⟩
      case hrl3 => exact List.forall_mem_cons.mpr ⟨hq0.1, List.forall_mem_cons.mpr ⟨hq1.1, List.forall_mem_cons.mpr ⟨hq2.1, List.forall_mem_nil _⟩⟩⟩
      exact fun h' tk' gg m' news' g F5 N5 hs => retF h' tk' gg m' news' psT g F5 N5 hs
end
section
open PySem PySem.W PyProof.Rows PySem.Calls PySem.Spec
variable {prog : Program} {w : World} {loose : List Str} {mean : ExcName → Option Value} {mg mb : Str → Option Value} {dp un : Nat} {gd : Option (List Code)} {cn : Str} {cs : Scope} {a : Addr} {ccd : Value} {cl : List (Str × Addr)} {outer : List Env} {A₀ : Around} {base h₀ : Heap} {L : Addr} {m : Str → Option Value} {news : List (Addr × Obj)} {s : Shared} {Q E : Value → Shared → Prop}
local macro_rules | `(tactic| walk_at "execs cons") => `(tactic| (k_here; (with_reducible show wpAny _ _ (execs (Stmt.Assign [Expr.Name (Str.ofString "rules") _] _ _ :: _) _) _ _ _); refine Hold.mk ?_))
theorem lawHolds : PySem.Challenge.rw_sr0054_01.Holds := by
  refine holds_law hdSaid fun said => ?_
  refine holds_open (q := hdView) (loose := [Str.ofString "EXACT_TOKEN_TYPES"]) (Xt := hdXt) (XP := XL hdView []) (Yf := Hook.obs hdHook) (Ya := Hook.val hdHook) (YP := Hook.says hdHook) (N := 4842) hdLeft (Hook.of hdHook) (Hook.keeps hdHook) (fun s e => xl_of s (Bool.and_eq_true_iff.mp e).1) XL.keeps (by rfl) (by rfl) (by rfl) (fun s e => recFacts_of (Bool.and_eq_true_iff.mp e).2) (by rfl) (by first | assumption | decide +kernel) (by decide +kernel) ⟨rfl, rfl, rfl, rfl, rfl, by decide +kernel⟩ ?hw ?hc
  case hw => w_witness2
  clear said
  delta hdHook
  k_fill
  intro w s₀ s₁ mg mb G Y fa o pm cd doc dV kV ho hdd hcd hD hmg hg args vals as hpre hlay hrd hwl hlo
  have KX := km_in_of Y
  km_tabs Y
  have X := (Ground.X G).1
  have V := (Ground.X G).2
  refine Ground.open G ?_
  intro T B D TE TW
  try (refine guard_noD D (by decide +kernel) ?_; clear D)
  km_lay T hmg ho hdd cd
  clear hmg
  wrow_args hpre hlay hrd hwl hlo
  all_goals (
    first | refine callC_kw (enter_call ?_) | refine enter_call ?_
    w_top on
    refine kn_postG hT9 (fun _ _ => rfl) ?_
    refine gen_R fun Pr qr => ?_
    w_call any ho hdd hcd hD T F
    clear hdd
    kn_ghosts F T
    k_drop
    skip)
  clear T B TE TW X V G Y
  rename Top topProg _ _ _ _ _ => T
  replace T : ∃ l, Top topProg l _ _ _ _ := ⟨_, T⟩
  obtain ⟨loose', T⟩ := T
  k_steps
  refine Hold.out ?_
  rename Fr _ _ _ _ => F1
  rename News _ _ _ _ => N1
  rename IntsAre _ _ => hIs
  rename ¬ _ => hlen63
  k_dflt (refine' cells_spec ?B F1 ?X N1 ?T ?hk ?hdp ?hun ?hl hIs ?hlen ?_)
  case B => k_asm
  case X => k_asm
  case T => k_asm
  case hk => exact rfl
  case hdp => decide +kernel
  case hun => decide +kernel
  case hl => assumption
  case hlen => omega
  intro h2 tk2 C vs3 F2 N2 hC hi3 hl3
  k_lt hC
  obtain ⟨c0, c1, c2, hcc, hb0, hb1, hb2⟩ := cells_ok hIs hi3 hl3
  rw [hcc] at hi3
  obtain ⟨t0, t1, t2, rfl⟩ := ints3 hi3
  k_steps
  refine Hold.out ?_
  rename Fr _ _ _ _ => F3
  rename News _ _ _ _ => N3
  have hmo : 0 ≤ Int.fmod (Int.fdiv c1 1728) 10000 ∧ Int.fmod (Int.fdiv c1 1728) 10000 < 10000 := ⟨Int.fmod_nonneg_of_pos _ (by decide), Int.fmod_lt_of_pos _ (by decide)⟩
  have hop : 0 ≤ Int.fmod (Int.fdiv c0 864) 48 ∧ Int.fmod (Int.fdiv c0 864) 48 < 48 := ⟨Int.fmod_nonneg_of_pos _ (by decide), Int.fmod_lt_of_pos _ (by decide)⟩
  have hbb : 0 ≤ Int.fmod (Int.fdiv c2 864) 256 ∧ Int.fmod (Int.fdiv c2 864) 256 < 256 := ⟨Int.fmod_nonneg_of_pos _ (by decide), Int.fmod_lt_of_pos _ (by decide)⟩
  k_dflt (refine' texts_part (C := C) (n0 := 256) (n1 := 257 + Int.fmod (Int.fdiv c1 1728) 10000) (n2 := 258 + Int.fmod (Int.fdiv c1 1728) 10000) (op := 7 + Int.fmod (Int.fdiv c0 864) 48) (bits := Int.fmod (Int.fdiv c2 864) 256) (c0 := c0) (c1 := c1) (c2 := c2) ?B7 ?F7 ?X7 ?C7 ?N7 ?T7 ?hdp7 ?hun7 ?m5 ?e5 ?m4 ?e4 ?m3 ?e3 ?m2 ?e2 ?mb ?eb ?m1 ?e1 ?hcl7 ?mC hbb.1 hbb.2 ?mK ?kv7 ?hb7 ?o1 ?o2 ?hn7 ?hnn7 ?hz7 ?mt ?_)
  case F7 => exact F3
  case N7 => exact N3
  case m5 => exact .tail _ (.tail _ (.head _))
  case m4 => exact .tail _ (.tail _ (.tail _ (.head _)))
  case m3 => exact .tail _ (.tail _ (.tail _ (.tail _ (.head _))))
  case m2 => exact .tail _ (.tail _ (.tail _ (.tail _ (.tail _ (.head _)))))
  case mb => exact .tail _ (.tail _ (.tail _ (.tail _ (.tail _ (.tail _ (.head _))))))
  case m1 => exact .tail _ (.tail _ (.tail _ (.tail _ (.tail _ (.tail _ (.tail _ (.head _)))))))
  case mC => exact .tail _ (.head _)
  case mK => exact .head _
  case mt => exact .tail _ (.tail _ (.tail _ (.tail _ (.tail _ (.tail _ (.tail _ (.tail _ (.head _))))))))
  case e5 => assumption
  case e4 => assumption
  case e3 => assumption
  case e2 => assumption
  case eb => assumption
  case e1 => assumption
  case kv7 => exact .cons _ _ (.cons _ _ (.cons _ _ .nil))
  case B7 => k_asm
  case X7 => k_asm
  case C7 => assumption
  case T7 => k_asm
  case hdp7 => decide +kernel
  case hun7 => decide +kernel
  case hb7 => exact .of_eq hg
  case hcl7 => exact rfl
  case o1 => omega
  case o2 => omega
  case hn7 => omega
  case hnn7 => omega
  case hz7 => exact fun R0 R1 R2 h0 h1 h2 => names_ok (c0 := 0) (c1 := 0) (c2 := 0) rfl hmo.1 (by omega) R0 R1 R2 h0 h1 h2
  intro h' tk' gg m' news' psT hbg F5 N5 hps
  refine qr _ _ ?_
  exact ⟨⟨true, .bool true, rfl, ReadsW.bool true, by first | kernel_rfl! | wrow_post⟩, fun a o e => F5.keep a o e, rfl, hbg, ⟨_, (N5 _ hps).1⟩, trivial⟩
end
end
end Mine
theorem PySem.Challenge.cw_sr0054_01_holds : PySem.Challenge.rw_sr0054_01.Holds :=
  Mine.lawHolds
