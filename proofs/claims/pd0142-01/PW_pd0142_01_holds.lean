import PyProof.Rows.All
import Wide.All
import OpenK.AllK
import Wide.FinOn
import Lean
import PySem.Challenge.RW_pd0142_01
open PySem PySem.W PyProof.Rows PySem.Calls
set_option Elab.async false
set_option linter.unusedVariables false
set_option linter.unusedSimpArgs false
set_option rowWalk.seconds 0
set_option maxRecDepth 100000
namespace Mine
abbrev Pg : Program := PySem.Challenge.rw_pd0142_01.prog
def vS (x : Str) (t : Nat) : Value := .str x t
def vI (i : Int) : Value := .int i 0
def vR (a : Nat) : Value := .ref a
def kE (P : Params) (x : Str) (t : Nat) (v : Value) : DictEntry := ⟨PyData.keyHash P x, .str x t, v⟩
def kC (vs : List Value) : Obj := ⟨.type "code", none, .fields vs.toArray, [].toArray⟩
/-- the def that the text's i-th statement makes -/
noncomputable def kF (i : Nat) (dV kV doc pm : Value) (an : Option Addr) (cd ct : Value) : Obj := match PySem.Challenge.pw_pd0142_01.main.body[i]? with
  | some (.FunctionDef name params body _ _ _ scope _ _ _) => ⟨.type "function", none, .func { name := name, qualname := name, params := params, body := .stmts body, scope := scope, globals := 3, closure := [], defaults := dV, kwdefaults := kV, doc := doc, pyModule := pm, annotations := an, code := cd, closureTuple := ct, builtins := 0 }, [].toArray⟩
  | _ => default
/-- what stands behind the top: the names, the defs, their codes -/
noncomputable def K0 : Params → Frag := fun P => [
  (2, ⟨.none, none, .dict [].toArray 0, [].toArray⟩),
  (3, ⟨.type "dict", none, .dict [kE P (.ofString "__name__") 165 (vS (.ofString "law_pd0142_01") 417), kE P (.ofString "__doc__") 166 (.none), kE P (.ofString "__package__") 167 (.none), kE P (.ofString "__loader__") 168 (.builtin "__main__.__loader__#opaque"), kE P (.ofString "__spec__") 169 (.none), kE P (.ofString "__annotations__") 170 (vR 6), kE P (.ofString "__builtins__") 171 (vR 4), kE P (.ofString "__file__") 173 (vS (.ofString "/claim/cut.py") 172), kE P (.ofString "__cached__") 174 (.none), kE P (.ofString "_wall") 193 (vR 21), kE P (.ofString "_plain_name") 204 (vR 28), kE P (.ofString "ABCMeta") 230 (vR 45), kE P (.ofString "_ABCLike") 273 (vR 78), kE P (.ofString "_abc_plain_meta") 280 (vR 87), kE P (.ofString "fspath") 292 (vR 94), kE P (.ofString "_check_arg_types") 305 (vR 101), kE P (.ofString "_get_sep") 314 (vR 108), kE P (.ofString "join") 325 (vR 115), kE P (.ofString "splitroot") 334 (vR 122), kE P (.ofString "dirname") 344 (vR 129), kE P (.ofString "normpath") 359 (vR 136), kE P (.ofString "commonpath") 365 (vR 141), kE P (.ofString "add") 375 (vR 148), kE P (.ofString "floordiv") 383 (vR 155), kE P (.ofString "mul") 391 (vR 162), kE P (.ofString "neg") 398 (vR 169), kE P (.ofString "sub") 406 (vR 176), kE P (.ofString "countOf") 416 (vR 183), kE P (.ofString "_law_piece") 426 (vR 190), kE P (.ofString "_law_tree") 439 (vR 197), kE P (.ofString "_law_depth") 447 (vR 204), kE P (.ofString "_law_steps") 453 (vR 209), kE P (.ofString "_law_heads") 459 (vR 214), kE P (.ofString "_law_due") 469 (vR 221), kE P (.ofString "_law_undoing") 475 (vR 226), kE P (.ofString "law") 481 (vR 231)].toArray 36, [].toArray⟩),
  (93, kC [vS (.ofString "fspath") 283, vS (.ofString "fspath") 284, vS (.ofString "/claim/cut.py") 285, vI 35, vI 1, vI 0, vI 0, vI 3, vR 88, .bool true, vI 181, vR 89, .none, vR 90, vR 91, vR 92, vI 290, vI 35, vS (.ofString "/claim/cut.py") 291]),
  (94, kF 9 (.none) (.none) (.none) (vS (.ofString "os") 281) none (vR 93) (.none)),
  (107, kC [vS (.ofString "_get_sep") 308, vS (.ofString "_get_sep") 309, vS (.ofString "/claim/cut.py") 310, vI 64, vI 1, vI 0, vI 0, vI 3, vR 102, .bool true, vI 181, vR 103, .none, vR 104, vR 105, vR 106, vI 312, vI 64, vS (.ofString "/claim/cut.py") 313]),
  (108, kF 13 (.none) (.none) (.none) (vS (.ofString "cpy313.posixpath") 306) none (vR 107) (.none)),
  (114, kC [vS (.ofString "join") 315, vS (.ofString "join") 316, vS (.ofString "/claim/cut.py") 317, vI 69, vI 1, vI 0, vI 0, vI 7, vR 109, .bool true, vI 181, vR 110, .none, vR 111, vR 112, vR 113, vI 323, vI 69, vS (.ofString "/claim/cut.py") 324]),
  (115, kF 14 (.none) (.none) (.none) (vS (.ofString "cpy313.posixpath") 306) none (vR 114) (.none)),
  (121, kC [vS (.ofString "splitroot") 326, vS (.ofString "splitroot") 327, vS (.ofString "/claim/cut.py") 328, vI 86, vI 1, vI 0, vI 0, vI 3, vR 116, .bool true, vI 181, vR 117, .none, vR 118, vR 119, vR 120, vI 332, vI 86, vS (.ofString "/claim/cut.py") 333]),
  (122, kF 15 (.none) (.none) (.none) (vS (.ofString "cpy313.posixpath") 306) none (vR 121) (.none)),
  (128, kC [vS (.ofString "dirname") 335, vS (.ofString "dirname") 336, vS (.ofString "/claim/cut.py") 337, vI 100, vI 1, vI 0, vI 0, vI 3, vR 123, .bool true, vI 181, vR 124, .none, vR 125, vR 126, vR 127, vI 342, vI 100, vS (.ofString "/claim/cut.py") 343]),
  (129, kF 16 (.none) (.none) (.none) (vS (.ofString "cpy313.posixpath") 306) none (vR 128) (.none)),
  (135, kC [vS (.ofString "normpath") 345, vS (.ofString "normpath") 346, vS (.ofString "/claim/cut.py") 347, vI 108, vI 1, vI 0, vI 0, vI 3, vR 130, .bool true, vI 181, vR 131, .none, vR 132, vR 133, vR 134, vI 357, vI 108, vS (.ofString "/claim/cut.py") 358]),
  (136, kF 17 (.none) (.none) (.none) (vS (.ofString "cpy313.posixpath") 306) none (vR 135) (.none)),
  (140, kC [vS (.ofString "commonpath") 360, vS (.ofString "commonpath") 361, vS (.ofString "/claim/cut.py") 362, vI 133, vI 1, vI 0, vI 0, vI 3, vR 137, .bool true, vI 181, vR 138, .none, .none, .none, vR 139, vI 363, vI 133, vS (.ofString "/claim/cut.py") 364]),
  (141, kF 18 (.none) (.none) (.none) (vS (.ofString "cpy313.posixpath") 306) none (vR 140) (.none)),
  (147, kC [vS (.ofString "add") 368, vS (.ofString "add") 369, vS (.ofString "/claim/cut.py") 370, vI 163, vI 2, vI 0, vI 0, vI 3, vR 142, .bool true, vI 181, vR 143, .none, vR 144, vR 145, vR 146, vI 373, vI 163, vS (.ofString "/claim/cut.py") 374]),
  (148, kF 20 (.none) (.none) (.none) (vS (.ofString "cpy313.operator") 366) none (vR 147) (.none)),
  (154, kC [vS (.ofString "floordiv") 376, vS (.ofString "floordiv") 377, vS (.ofString "/claim/cut.py") 378, vI 165, vI 2, vI 0, vI 0, vI 3, vR 149, .bool true, vI 181, vR 150, .none, vR 151, vR 152, vR 153, vI 381, vI 165, vS (.ofString "/claim/cut.py") 382]),
  (155, kF 21 (.none) (.none) (.none) (vS (.ofString "cpy313.operator") 366) none (vR 154) (.none)),
  (161, kC [vS (.ofString "mul") 384, vS (.ofString "mul") 385, vS (.ofString "/claim/cut.py") 386, vI 167, vI 2, vI 0, vI 0, vI 3, vR 156, .bool true, vI 181, vR 157, .none, vR 158, vR 159, vR 160, vI 389, vI 167, vS (.ofString "/claim/cut.py") 390]),
  (162, kF 22 (.none) (.none) (.none) (vS (.ofString "cpy313.operator") 366) none (vR 161) (.none)),
  (168, kC [vS (.ofString "neg") 392, vS (.ofString "neg") 393, vS (.ofString "/claim/cut.py") 394, vI 169, vI 1, vI 0, vI 0, vI 3, vR 163, .bool true, vI 181, vR 164, .none, vR 165, vR 166, vR 167, vI 396, vI 169, vS (.ofString "/claim/cut.py") 397]),
  (169, kF 23 (.none) (.none) (.none) (vS (.ofString "cpy313.operator") 366) none (vR 168) (.none)),
  (175, kC [vS (.ofString "sub") 399, vS (.ofString "sub") 400, vS (.ofString "/claim/cut.py") 401, vI 171, vI 2, vI 0, vI 0, vI 3, vR 170, .bool true, vI 181, vR 171, .none, vR 172, vR 173, vR 174, vI 404, vI 171, vS (.ofString "/claim/cut.py") 405]),
  (176, kF 24 (.none) (.none) (.none) (vS (.ofString "cpy313.operator") 366) none (vR 175) (.none)),
  (182, kC [vS (.ofString "countOf") 407, vS (.ofString "countOf") 408, vS (.ofString "/claim/cut.py") 409, vI 173, vI 2, vI 0, vI 0, vI 3, vR 177, .bool true, vI 181, vR 178, .none, vR 179, vR 180, vR 181, vI 414, vI 173, vS (.ofString "/claim/cut.py") 415]),
  (183, kF 25 (.none) (.none) (.none) (vS (.ofString "cpy313.operator") 366) none (vR 182) (.none)),
  (189, kC [vS (.ofString "_law_piece") 419, vS (.ofString "_law_piece") 420, vS (.ofString "/claim/cut.py") 421, vI 180, vI 1, vI 0, vI 0, vI 3, vR 184, .bool true, vI 181, vR 185, .none, vR 186, vR 187, vR 188, vI 424, vI 180, vS (.ofString "/claim/cut.py") 425]),
  (190, kF 27 (.none) (.none) (.none) (vS (.ofString "law_pd0142_01") 417) none (vR 189) (.none)),
  (196, kC [vS (.ofString "_law_tree") 427, vS (.ofString "_law_tree") 428, vS (.ofString "/claim/cut.py") 429, vI 185, vI 2, vI 0, vI 0, vI 3, vR 191, .bool true, vI 181, vR 192, .none, vR 193, vR 194, vR 195, vI 437, vI 185, vS (.ofString "/claim/cut.py") 438]),
  (197, kF 28 (.none) (.none) (.none) (vS (.ofString "law_pd0142_01") 417) none (vR 196) (.none)),
  (203, kC [vS (.ofString "_law_depth") 440, vS (.ofString "_law_depth") 441, vS (.ofString "/claim/cut.py") 442, vI 195, vI 2, vI 0, vI 0, vI 3, vR 198, .bool true, vI 181, vR 199, .none, vR 200, vR 201, vR 202, vI 445, vI 195, vS (.ofString "/claim/cut.py") 446]),
  (204, kF 29 (.none) (.none) (.none) (vS (.ofString "law_pd0142_01") 417) none (vR 203) (.none)),
  (208, kC [vS (.ofString "_law_steps") 448, vS (.ofString "_law_steps") 449, vS (.ofString "/claim/cut.py") 450, vI 197, vI 2, vI 0, vI 0, vI 3, vR 205, .bool true, vI 181, vR 206, .none, .none, .none, vR 207, vI 451, vI 197, vS (.ofString "/claim/cut.py") 452]),
  (209, kF 30 (.none) (.none) (.none) (vS (.ofString "law_pd0142_01") 417) none (vR 208) (.none)),
  (213, kC [vS (.ofString "_law_heads") 454, vS (.ofString "_law_heads") 455, vS (.ofString "/claim/cut.py") 456, vI 206, vI 1, vI 0, vI 0, vI 3, vR 210, .bool true, vI 181, vR 211, .none, .none, .none, vR 212, vI 457, vI 206, vS (.ofString "/claim/cut.py") 458]),
  (214, kF 31 (.none) (.none) (.none) (vS (.ofString "law_pd0142_01") 417) none (vR 213) (.none)),
  (220, kC [vS (.ofString "_law_due") 460, vS (.ofString "_law_due") 461, vS (.ofString "/claim/cut.py") 462, vI 216, vI 1, vI 0, vI 0, vI 3, vR 215, .bool true, vI 181, vR 216, .none, vR 217, vR 218, vR 219, vI 467, vI 216, vS (.ofString "/claim/cut.py") 468]),
  (221, kF 32 (.none) (.none) (.none) (vS (.ofString "law_pd0142_01") 417) none (vR 220) (.none)),
  (225, kC [vS (.ofString "_law_undoing") 470, vS (.ofString "_law_undoing") 471, vS (.ofString "/claim/cut.py") 472, vI 223, vI 1, vI 0, vI 0, vI 3, vR 222, .bool true, vI 181, vR 223, .none, .none, .none, vR 224, vI 473, vI 223, vS (.ofString "/claim/cut.py") 474]),
  (226, kF 33 (.none) (.none) (.none) (vS (.ofString "law_pd0142_01") 417) none (vR 225) (.none)),
  (230, kC [vS (.ofString "law") 476, vS (.ofString "law") 477, vS (.ofString "/claim/cut.py") 478, vI 235, vI 1, vI 0, vI 0, vI 3, vR 227, .bool true, vI 181, vR 228, .none, .none, .none, vR 229, vI 479, vI 235, vS (.ofString "/claim/cut.py") 480]),
  (231, kF 34 (.none) (.none) (.none) (vS (.ofString "law_pd0142_01") 417) none (vR 230) (.none))]
theorem K0_as (P : Params) : [2, 3, 93, 94, 107, 108, 114, 115, 121, 122, 128, 129, 135, 136, 140, 141, 147, 148, 154, 155, 161, 162, 168, 169, 175, 176, 182, 183, 189, 190, 196, 197, 203, 204, 208, 209, 213, 214, 220, 221, 225, 226, 230, 231] = (K0 P).map (·.1) := rfl

noncomputable abbrev KK : Params → Frag := K0

section
variable {prog : Program} {w : World} {A : Around} {E : Value → Shared → Prop} {s : Shared}

theorem sub_nested {Q : Fin → Shared → Prop} {k : Int} {tk : Tok} (hq : Q (.done (.ret (.bool true))) s) :
    wpAny (model prog w) A (Builtin.«issubclass.nested» ⟨[.type "str", .type "str", .int k tk], []⟩) Q E s := by
  have h1 : typeOf (.type "str") = pure (.type "type") := by kernel_rfl
  have h2 : isSubtype (.type "str") (.type "str") = pure true := isSubtype_str_str
  repeat (any_goals (first | assumption | (rw [if_pos h1]) | (rw [h2]) | wp_step))

theorem plain_sub_nested : plainId "issubclass.nested" = true := by decide +kernel
theorem kind_sub_nested : builtinKind "issubclass.nested" = none := by decide +kernel
theorem args_sub_nested (a b c : Value) : argsOk "issubclass.nested" ⟨[a, b, c], []⟩ := by unfold argsOk; kernel_rfl

theorem sub_call {Q : Value → Shared → Prop} {k : Int} {tk : Tok} (hq : Q (.bool true) s) :
    wpAny (model prog w) A (call (.builtin "issubclass.nested") [.type "str", .type "str", .int k tk]) Q E s :=
  call_function_meets (S := fun _ R s => R (.ok (.ret (.bool true))) s) kind_sub_nested plain_sub_nested F.entry_issubclass_nested (args_sub_nested _ _ _) (fun _ _ _ _ _ hs => sub_nested hs) hq

theorem sub_tuple {T : Addr} {v : Value} (ho : IsTup s.heap T #[.type "str", v]) {Q : Fin → Shared → Prop} {k : Int} {tk : Tok} (hk : ¬ (k ≥ 1000)) (hq : Q (.done (.ret (.bool true))) s) :
    wpAny (model prog w) A (Builtin.«issubclass.nested» ⟨[.type "str", .ref T, .int k tk], []⟩) Q E s := by
  obtain ⟨o, ho, hc, n, hd⟩ := ho
  have h3 : isSubtype (.type "tuple") (.type "tuple") = pure true := by rw [isSubtype_type]; kernel_rfl
  unfold Builtin.«issubclass.nested»
  show wpAny _ _ (typeOf (.ref T) >>= _) _ _ _
  refine wpAny_bind (wpAny_typeOf ⟨o, ho, hc⟩ ?_)
  dsimp only
  rw [if_neg (by decide)]
  refine wpAny_bind ?_
  unfold Builtin.Builtins.unionMembers
  refine wpAny_bind (wpAny_typeOf ⟨o, ho, hc⟩ ?_)
  rw [if_neg (by decide)]
  refine wpAny_pure ?_
  refine wpAny_bind (wpAny_isInstance ⟨o, ho, hc⟩ h3 ?_)
  rw [if_pos rfl, if_neg (by simpa [Builtin.Builtins.nestingLimit] using hk)]
  refine wpAny_bind (wpAny_seqItems ho hd ?_)
  refine wpAny_bind ?_
  simp only [Option.getD_some]
  rw [← Array.forIn_toList]
  simp only [List.forIn_cons]
  refine wpAny_bind (wpAny_bind (sub_call (wpAny_bind (wpAny_truthy_bool ?_))))
  rw [if_pos rfl]
  exact wpAny_bind (wpAny_pure (wpAny_pure (wpAny_pure (wpAny_pure hq))))

theorem call_sub {T : Addr} {v : Value} {Q : Value → Shared → Prop} (ho : IsTup s.heap T #[.type "str", v]) (hq : Q (.bool true) s) :
    wpAny (model prog w) A (call (.builtin "issubclass") [.type "str", .ref T]) Q E s :=
  call_issubclass (S := fun _ R s => IsTup s.heap T #[.type "str", v] ∧ R (.ok (.ret (.bool true))) s) (fun _ _ _ _ _ hs => issubclass_outer (sub_tuple hs.1 (by decide) hs.2)) ⟨ho, hq⟩

end

theorem fr_grow {h₀ h h' : Heap} {L : Addr} {m : Str → Option Value} (F : Fr h₀ L h m) (k : h.StaysIn h') : Fr h₀ L h' m :=
  ⟨F.ns.keeps k, fun b o e => k b o (F.keep b o e), F.above⟩
theorem news_grow {h₀ h h' : Heap} {L : Addr} {news : List (Addr × Obj)} (N : News h₀ L h news) (k : h.StaysIn h') : News h₀ L h' news :=
  fun p hp => ⟨k _ _ (N p hp).1, (N p hp).2⟩
theorem fr_but {h₀ h h' : Heap} {L I : Addr} {m : Str → Option Value} (F : Fr h₀ L h m) (k : ∀ b o, b ≠ I → h.get? b = some o → h'.get? b = some o) (hb : h₀.get? I = none) (hl : I ≠ L) : Fr h₀ L h' m :=
  ⟨F.ns.at' fun o e => k L o (Ne.symm hl) e, fun b o e => k b o (fun q => by rw [q, hb] at e; cases e) (F.keep b o e), F.above⟩
theorem news_but {h₀ h h' : Heap} {L I : Addr} {news : List (Addr × Obj)} (N : News h₀ L h news) (k : ∀ b o, b ≠ I → h.get? b = some o → h'.get? b = some o) (hn : ∀ p ∈ news, p.1 ≠ I) : News h₀ L h' news :=
  fun p hp => ⟨k _ _ (hn p hp) (N p hp).1, (N p hp).2⟩

/-- the state s, another heap, another token -/
def put (s : Shared) (h : Heap) (n : Nat) : Shared := { s with heap := h, toks := n }
/-- a frame's map, x stored -/
def upd (m : Str → Option Value) (x : Str) (v : Value) : Str → Option Value := fun y => if y = x then some v else m y

def TurnTo (h₀ : Heap) (L I : Addr) (Inv : Nat → (Str → Option Value) → List (Addr × Obj) → Prop) (own : List (Addr × Obj)) (s s' : Shared) : Prop :=
  ∃ h' tk m' news', s' = put s h' tk ∧ Fr h₀ L h' m' ∧ News h₀ L h' (news' ++ own) ∧ (∀ p ∈ news', p.1 ≠ I) ∧ Inv tk m' news'

/-- what a turn may end in -/
def TurnEnd (h₀ : Heap) (L I : Addr) (Inv : Nat → (Str → Option Value) → List (Addr × Obj) → Prop) (own : List (Addr × Obj)) (s : Shared) (Q : Flow → Shared → Prop) (fl : Flow) (s' : Shared) : Prop :=
  match fl with
  | .ret v => Q (.ret v) s'
  | .brk => Q .next s'
  | _ => TurnTo h₀ L I Inv own s s'

/-- an iterator at I, n items to come; what an item is may speak of the tokens before and behind -/
structure Wk (prog : Program) (w : World) (A : Around) (I : Addr) (fp : List Addr) (n : Nat) (P : Nat → Value → Nat → Nat → Prop) (St : Nat → Heap → Prop) : Prop where
  frame : ∀ i h h', St i h → (∀ b ∈ fp, ∀ o, h.get? b = some o → h'.get? b = some o) → St i h'
  item : ∀ i (s : Shared) (Q : Option Value → Shared → Prop) (E : Value → Shared → Prop), i < n → St i s.heap →
    (∀ v h' tk, P i v s.toks tk → St (i + 1) h' → (∀ b o, b ≠ I → s.heap.get? b = some o → h'.get? b = some o) → Q (some v) (put s h' tk)) → wpAny (model prog w) A (pyNext (.ref I)) Q E s
  done : ∀ (s : Shared) (Q : Option Value → Shared → Prop) (E : Value → Shared → Prop), St n s.heap →
    (∀ h' tk, (∀ b o, b ≠ I → s.heap.get? b = some o → h'.get? b = some o) → Q none (put s h' tk)) → wpAny (model prog w) A (pyNext (.ref I)) Q E s
theorem Wk.of {prog : Program} {w : World} {A : Around} {I : Addr} {fp : List Addr} {n : Nat} {P : Nat → Value → Prop} {St : Nat → Heap → Prop} (W : Walks prog w A I fp [I] n P St) : Wk prog w A I fp n (fun i v _ _ => P i v) St where
  frame := W.frame
  item := fun i s Q E hi st q => W.item i s Q E hi st fun v h' tk p st' k => q v h' tk p st' fun b o hb e => k b o (fun m => hb (List.mem_singleton.mp m)) e
  done := fun s Q E st q => W.done s Q E st fun h' tk k => q h' tk fun b o hb e => k b o (fun m => hb (List.mem_singleton.mp m)) e
theorem Wk.ascii {prog : Program} {w : World} {A : Around} (hh : A.handled = none) (I : Addr) (x : Str) (t : Tok) :
    Wk prog w A I [I] x.cps.size (fun i v a b => ∃ c u, x.cps[i]? = some c ∧ v = .str ⟨#[c]⟩ u ∧ a ≤ u ∧ u < b) (fun i h => h.IsStrIter I "str_ascii_iterator" x t i) where
  frame := (Walks.strAscii (prog := prog) (w := w) hh I x t).frame
  item := fun i s Q E hi st hQ => by
    refine wpAny_pyNext_ascii_item st (c := x.cps[i]) (by simp [hi]) fun h' hit' hs' => ?_
    exact hQ _ h' (s.toks + 1) ⟨_, _, by simp [hi], rfl, Nat.le_refl _, Nat.lt_succ_self _⟩ hit' fun b o hb e => hs'.extBut b o hb e
  done := (Wk.of (Walks.strAscii hh I x t)).done
theorem Wk.wide {prog : Program} {w : World} {A : Around} (hh : A.handled = none) (I : Addr) (x : Str) (t : Tok) :
    Wk prog w A I [I] x.cps.size (fun i v a b => ∃ c u, x.cps[i]? = some c ∧ v = .str ⟨#[c]⟩ u ∧ a ≤ u ∧ u < b) (fun i h => h.IsStrIter I "str_iterator" x t i) where
  frame := (Walks.strWide (prog := prog) (w := w) hh I x t).frame
  item := fun i s Q E hi st hQ => by
    refine wpAny_pyNext_wide_item st (c := x.cps[i]) (by simp [hi]) fun h' hit' hs' => ?_
    exact hQ _ h' (s.toks + 1) ⟨_, _, by simp [hi], rfl, Nat.le_refl _, Nat.lt_succ_self _⟩ hit' fun b o hb e => hs'.extBut b o hb e
  done := (Wk.of (Walks.strWide hh I x t)).done

section
variable {prog : Program} {w : World} {A : Around} {s : Shared} {env : Env} {h₀ : Heap} {x : Str} {px : Pos} {body : List Stmt}

theorem for_walks {I : Addr} {fp : List Addr} {n : Nat} {P : Nat → Value → Nat → Nat → Prop} {St : Nat → Heap → Prop} {m₀ : Str → Option Value} {news₀ : List (Addr × Obj)} {Q : Flow → Shared → Prop} {R : Result → Shared → Prop}
    (W : Wk prog w A I fp n P St) (Inv : Nat → Nat → (Str → Option Value) → List (Addr × Obj) → Prop) (mono : ∀ i a b m nw, Inv i a m nw → a ≤ b → Inv i b m nw)
    (hx : env.kindOf x = some .local) (hfk : env.scope.kind = .function)
    (F : Fr h₀ env.locals s.heap m₀) (N : News h₀ env.locals s.heap news₀)
    (hIb : h₀.get? I = none) (hIL : I ≠ env.locals) (hIN : ∀ p ∈ news₀, p.1 ≠ I) (hIl : ∀ i h, St i h → ∃ o, h.get? I = some o)
    (hfp : ∀ b ∈ fp, b ≠ I → ∃ o, h₀.get? b = some o ∨ ∀ i k m nw, Inv i k m nw → (b, o) ∈ nw)
    (hst : St 0 s.heap) (hI : Inv 0 s.toks m₀ news₀)
    (turn : ∀ i v m₁ news₁ oI h tk t₀ t₁, s.toks ≤ t₀ → t₁ ≤ tk → t₀ ≤ tk → i < n → P i v t₀ t₁ → Inv i tk m₁ news₁ → (∀ p ∈ news₁, p.1 ≠ I) →
      Fr h₀ env.locals h (upd m₁ x v) → News h₀ env.locals h (news₁ ++ [(I, oI)]) →
      wpAny (model prog w) A (execs body env) (TurnEnd h₀ env.locals I (Inv (i + 1)) [(I, oI)] s Q) (fun _ _ => False) (put s h tk))
    (done : ∀ m₁ news₁ h tk, s.toks ≤ tk → Inv n tk m₁ news₁ → Fr h₀ env.locals h m₁ → News h₀ env.locals h news₁ → Q .next (put s h tk))
    (hR : ∀ f s', Q f s' → R (.ok f) s') :
    codeAny (model prog w) A (.forLoop (.Name x px) (.ref I) body [] env) R s := by
  refine codeAny_forLoop (fun k s' => ∃ h tk m₁ news₁ i, s' = put s h tk ∧ s.toks ≤ tk ∧ k = n + 1 - i ∧ i ≤ n ∧ St i h ∧ Fr h₀ env.locals h m₁ ∧ News h₀ env.locals h news₁ ∧ (∀ p ∈ news₁, p.1 ≠ I) ∧ Inv i tk m₁ news₁) ?_ (n + 1)
    ⟨s.heap, s.toks, m₀, news₀, 0, rfl, Nat.le_refl _, rfl, Nat.zero_le _, hst, F, N, hIN, hI⟩
  rintro k s' ⟨h, tk, m₁, news₁, i, rfl, htk, rfl, hi, st, F₁, N₁, hN₁, hInv⟩
  by_cases hlt : i < n
  · refine wpAny_with_toks (n := tk) (Nat.le_refl _) (W.item i _ _ _ hlt st fun v h₁ tk₁ hP st₁ hk₁ htk₁' => ?_)
    have htk₁ : s.toks ≤ tk₁ := Nat.le_trans htk htk₁'
    have hk₁' : ∀ b o, b ≠ I → h.get? b = some o → h₁.get? b = some o := hk₁
    have F₂ := fr_but F₁ hk₁' hIb hIL
    have N₂ := news_but N₁ hk₁' hN₁
    refine wpAny_assign_Name (wpAny_storeName_local hx F₂.ns (fun h₂ hn₂ hs₂ => ?_) (by rw [hfk]; rfl))
    obtain ⟨oI, hoI⟩ := hIl _ _ st₁
    have hoI₂ : h₂.get? I = some oI := (hs₂.2 I hIL).trans hoI
    have F₃ : Fr h₀ env.locals h₂ (upd m₁ x v) := F₂.set hn₂ hs₂
    have N₃ : News h₀ env.locals h₂ (news₁ ++ [(I, oI)]) := by
      intro p hp
      rcases List.mem_append.mp hp with hp | hp
      · exact (N₂.set hs₂) p hp
      · rw [List.mem_singleton.mp hp]; exact ⟨hoI₂, hIL, hIb⟩
    have st₂ : St (i + 1) h₂ := W.frame _ _ _ st₁ fun b hb o e => by
      by_cases hbL : b = env.locals
      · exfalso
        by_cases hbI : b = I
        · exact hIL (hbI ▸ hbL)
        · obtain ⟨o', h' | h'⟩ := hfp b hb hbI
          · have := Heap.lt_size h'; rw [hbL] at this; exact absurd (Nat.lt_of_lt_of_le this F.above) (Nat.lt_irrefl _)
          · exact (N₂ _ (h' i _ m₁ news₁ hInv)).2.1 hbL
      · exact (hs₂.2 b hbL).trans e
    refine wpAny_mono (wpAny_toks_of (n := s.toks) (Nat.le_succ_of_le htk₁) (turn i v m₁ news₁ oI h₂ _ tk tk₁ htk (Nat.le_succ _) (Nat.le_succ_of_le htk₁') hlt hP (mono _ _ _ _ _ hInv (Nat.le_succ_of_le htk₁')) hN₁ F₃ N₃)) (fun fl s₃ hfl => ?_) fun _ _ e => e.2.elim
    obtain ⟨htk₃, hfl⟩ := hfl
    have key : TurnTo h₀ env.locals I (Inv (i + 1)) [(I, oI)] s s₃ → ∃ m, m < n + 1 - i ∧ ∃ h tk m₁ news₁ i, s₃ = put s h tk ∧ s.toks ≤ tk ∧ m = n + 1 - i ∧ i ≤ n ∧ St i h ∧ Fr h₀ env.locals h m₁ ∧ News h₀ env.locals h news₁ ∧ (∀ p ∈ news₁, p.1 ≠ I) ∧ Inv i tk m₁ news₁ := by
      rintro ⟨h', tk', m', news', rfl, F', N', hN', hI'⟩
      refine ⟨n + 1 - (i + 1), by omega, h', tk', m', news', i + 1, rfl, htk₃, rfl, hlt, ?_, F', fun p hp => N' p (List.mem_append_left _ hp), hN', hI'⟩
      refine W.frame _ _ _ st₂ fun b hb o e => ?_
      by_cases hbI : b = I
      · rw [hbI] at e ⊢
        have : o = oI := Option.some.inj (e.symm.trans hoI₂)
        rw [this]; exact (N' (I, oI) (List.mem_append_right _ (List.mem_singleton.mpr rfl))).1
      · obtain ⟨o', h'' | h''⟩ := hfp b hb hbI
        · have : o = o' := Option.some.inj (e.symm.trans (F₃.keep _ _ h''))
          rw [this]; exact F'.keep _ _ h''
        · have : o = o' := Option.some.inj (e.symm.trans (N₃ _ (List.mem_append_left _ (h'' i _ m₁ news₁ hInv))).1)
          rw [this]; exact (N' _ (List.mem_append_left _ (h'' _ _ _ _ hI'))).1
    cases fl with
    | next => exact key hfl
    | cont => exact key hfl
    | brk => exact hR _ _ hfl
    | ret v => exact hR _ _ hfl
  · have hin : i = n := by omega
    subst hin
    refine wpAny_with_toks (n := tk) (Nat.le_refl _) (W.done _ _ _ st fun h₁ tk₁ hk₁ htk₁ => ?_)
    have hk₁' : ∀ b o, b ≠ I → h.get? b = some o → h₁.get? b = some o := hk₁
    exact wpAny_execs_nil (hR _ _ (done m₁ news₁ h₁ tk₁ (Nat.le_trans htk htk₁) (mono _ _ _ _ _ hInv htk₁) (fr_but F₁ hk₁' hIb hIL) (news_but N₁ hk₁' hN₁)))

def Stop (P : Prop) : Prop := P
theorem For_stop {M : Model} {E : Value → Shared → Prop} {target iter : Expr} {orelse : List Stmt} {pos : Pos} {Q : Flow → Shared → Prop}
    (h : wpAny M A (eval iter env) (fun v s₁ => Stop (wpAny M A (pyIter v) (fun it s₂ => codeAny M A (.forLoop target it body orelse env) (fun r s' => match r with | .ok f => Q f s' | .error e => cameBackBy M A env E e s') s₂) E s₁)) E s)
    (hs : ∀ x, foldedSetIterable iter env x = pure x) : wpAny M A (exec (.For target iter body orelse pos) env) Q E s := wpAny_For h hs

theorem get_next {h₀ h : Heap} {L : Addr} {m : Str → Option Value} (F : Fr h₀ L h m) : h₀.get? h.objs.size = none := next_is_new F

abbrev lst (vs : List Value) (n : Nat) : Obj := { cls := .type "list", data := .seq vs.toArray n }
abbrev tup (vs : List Value) (n : Nat) : Obj := { cls := .type "tuple", data := .seq vs.toArray n }

section
variable {E : Value → Shared → Prop} {Q : Flow → Shared → Prop} {m₀ : Str → Option Value} {news₀ : List (Addr × Obj)} (Inv : Nat → Nat → (Str → Option Value) → List (Addr × Obj) → Prop) (mono : ∀ i a b m nw, Inv i a m nw → a ≤ b → Inv i b m nw)
include mono

/-- a list that stands in the ledger all the while -/
theorem loop_list {ax : Addr} {vs : List Value} {ep : Nat} {L : Addr} {hs : Heap} {n₀ : Nat} (hh : A.handled = none) (hax : (h₀.get? ax = some (lst vs ep)) ∨ ((ax, lst vs ep) ∈ news₀ ∧ ∀ i k m nw, Inv i k m nw → (ax, lst vs ep) ∈ nw))
    (F : Fr h₀ L hs m₀) (N : News h₀ L hs news₀) (hL : env.locals = L) (hx : env.kindOf x = some .local) (hfk : env.scope.kind = .function) (hI : Inv 0 n₀ m₀ news₀)
    (turn : ∀ I i v m₁ news₁ oI h tk, n₀ ≤ tk → hs.objs.size ≤ I → vs[i]? = some v → Inv i tk m₁ news₁ → (∀ p ∈ news₁, p.1 ≠ I) →
      Fr h₀ L h (upd m₁ x v) → News h₀ L h (news₁ ++ [(I, oI)]) →
      wpAny (model prog w) A (execs body env) (TurnEnd h₀ L I (Inv (i + 1)) [(I, oI)] s Q) (fun _ _ => False) (put s h tk))
    (done : ∀ m₁ news₁ h tk, n₀ ≤ tk → Inv vs.length tk m₁ news₁ → Fr h₀ L h m₁ → News h₀ L h news₁ → Q .next (put s h tk)) :
    Stop (wpAny (model prog w) A (pyIter (.ref ax)) (fun it s₂ => codeAny (model prog w) A (.forLoop (.Name x px) it body [] env) (fun r s' => match r with | .ok f => Q f s' | .error e => cameBackBy (model prog w) A env E e s') s₂) E (put s hs n₀)) := by
  subst hL
  have hl : hs.get? ax = some (lst vs ep) := hax.elim (fun h => F.keep _ _ h) fun h => (N _ h.1).1
  have hls : hs.IsList ax vs.toArray := ⟨_, hl, rfl, ep, rfl⟩
  have hne : ax ≠ hs.objs.size := Nat.ne_of_lt (Heap.lt_size hl)
  have up : ∀ o b o', hs.get? b = some o' → (hs.push o).get? b = some o' := fun o b o' e => Heap.get?_push_of_some _ e
  refine wpAny_pyIter_list hls ?_
  have W := Walks.list (prog := prog) (w := w) hh hs.objs.size ax hne vs.toArray
  refine for_walks (s := put s _ n₀) (Wk.of W) Inv mono hx hfk (fr_grow F (up _)) (news_grow N (up _)) (next_is_new F) (Nat.ne_of_gt F.ns.lt) (fun p hp => Nat.ne_of_lt (Heap.lt_size (N p hp).1)) (fun i h st => st.1.imp fun o e => e.1)
    (fun b hb hbI => ?_) ⟨⟨_, Heap.get?_push_size _ rfl, rfl, rfl⟩, hls.at fun o e => Heap.get?_push_of_some _ e⟩ hI (fun i v m₁ news₁ oI h tk t₀ t₁ h0 h1 h2 hi hP hInv hN F₁ N₁ => turn _ i v m₁ news₁ oI h tk (Nat.le_trans h0 h2) (Nat.le_refl _) (by simpa using hP) hInv hN F₁ N₁) (fun m₁ news₁ h tk htk hInv F₁ N₁ => done m₁ news₁ h tk htk (by simpa using hInv) F₁ N₁) (fun _ _ q => q)
  have hb' : b = ax := by
    rcases List.mem_cons.mp hb with e | e
    · exact absurd e hbI
    · exact List.mem_singleton.mp e
  subst hb'
  exact ⟨_, hax.imp id And.right⟩

theorem loop_tuple {ax : Addr} {vs : List Value} {ep : Nat} {L : Addr} {hs : Heap} {n₀ : Nat} (hh : A.handled = none) (hax : (h₀.get? ax = some (tup vs ep)) ∨ ((ax, tup vs ep) ∈ news₀ ∧ ∀ i k m nw, Inv i k m nw → (ax, tup vs ep) ∈ nw))
    (F : Fr h₀ L hs m₀) (N : News h₀ L hs news₀) (hL : env.locals = L) (hx : env.kindOf x = some .local) (hfk : env.scope.kind = .function) (hI : Inv 0 n₀ m₀ news₀)
    (turn : ∀ I i v m₁ news₁ oI h tk, n₀ ≤ tk → hs.objs.size ≤ I → vs[i]? = some v → Inv i tk m₁ news₁ → (∀ p ∈ news₁, p.1 ≠ I) →
      Fr h₀ L h (upd m₁ x v) → News h₀ L h (news₁ ++ [(I, oI)]) →
      wpAny (model prog w) A (execs body env) (TurnEnd h₀ L I (Inv (i + 1)) [(I, oI)] s Q) (fun _ _ => False) (put s h tk))
    (done : ∀ m₁ news₁ h tk, n₀ ≤ tk → Inv vs.length tk m₁ news₁ → Fr h₀ L h m₁ → News h₀ L h news₁ → Q .next (put s h tk)) :
    Stop (wpAny (model prog w) A (pyIter (.ref ax)) (fun it s₂ => codeAny (model prog w) A (.forLoop (.Name x px) it body [] env) (fun r s' => match r with | .ok f => Q f s' | .error e => cameBackBy (model prog w) A env E e s') s₂) E (put s hs n₀)) := by
  subst hL
  have hl : hs.get? ax = some (tup vs ep) := hax.elim (fun h => F.keep _ _ h) fun h => (N _ h.1).1
  have hls : hs.IsTuple ax vs.toArray := ⟨_, hl, rfl, ep, rfl⟩
  have hne : ax ≠ hs.objs.size := Nat.ne_of_lt (Heap.lt_size hl)
  have up : ∀ o b o', hs.get? b = some o' → (hs.push o).get? b = some o' := fun o b o' e => Heap.get?_push_of_some _ e
  refine wpAny_pyIter_tuple hls ?_
  have W := Walks.tuple (prog := prog) (w := w) hh hs.objs.size ax hne vs.toArray
  refine for_walks (s := put s _ n₀) (Wk.of W) Inv mono hx hfk (fr_grow F (up _)) (news_grow N (up _)) (next_is_new F) (Nat.ne_of_gt F.ns.lt) (fun p hp => Nat.ne_of_lt (Heap.lt_size (N p hp).1)) (fun i h st => st.1.imp fun o e => e.1)
    (fun b hb hbI => ?_) ⟨⟨_, Heap.get?_push_size _ rfl, rfl, rfl⟩, hls.at fun o e => Heap.get?_push_of_some _ e⟩ hI (fun i v m₁ news₁ oI h tk t₀ t₁ h0 h1 h2 hi hP hInv hN F₁ N₁ => turn _ i v m₁ news₁ oI h tk (Nat.le_trans h0 h2) (Nat.le_refl _) (by simpa using hP) hInv hN F₁ N₁) (fun m₁ news₁ h tk htk hInv F₁ N₁ => done m₁ news₁ h tk htk (by simpa using hInv) F₁ N₁) (fun _ _ q => q)
  have hb' : b = ax := by
    rcases List.mem_cons.mp hb with e | e
    · exact absurd e hbI
    · exact List.mem_singleton.mp e
  subst hb'
  exact ⟨_, hax.imp id And.right⟩

theorem loop_range {r : Addr} {a b : Int} {n : Nat} {t u v : Tok} {L : Addr} {hs : Heap} {n₀ : Nat} (hh : A.handled = none) (hr : IsRange hs r a b 1 t u v) (hsmall : Builtin.Range.small a b 1 = true) (hn : Builtin.Range.rangeSize a b 1 = (n : Int))
    (F : Fr h₀ L hs m₀) (N : News h₀ L hs news₀) (hL : env.locals = L) (hx : env.kindOf x = some .local) (hfk : env.scope.kind = .function) (hI : Inv 0 n₀ m₀ news₀)
    (turn : ∀ I i t m₁ news₁ oI h tk, n₀ ≤ tk → hs.objs.size ≤ I → i < n → Inv i tk m₁ news₁ → (∀ p ∈ news₁, p.1 ≠ I) →
      Fr h₀ L h (upd m₁ x (.int (a + (i : Int)) t)) → News h₀ L h (news₁ ++ [(I, oI)]) →
      wpAny (model prog w) A (execs body env) (TurnEnd h₀ L I (Inv (i + 1)) [(I, oI)] s Q) (fun _ _ => False) (put s h tk))
    (done : ∀ m₁ news₁ h tk, n₀ ≤ tk → Inv n tk m₁ news₁ → Fr h₀ L h m₁ → News h₀ L h news₁ → Q .next (put s h tk)) :
    Stop (wpAny (model prog w) A (pyIter (.ref r)) (fun it s₂ => codeAny (model prog w) A (.forLoop (.Name x px) it body [] env) (fun r s' => match r with | .ok f => Q f s' | .error e => cameBackBy (model prog w) A env E e s') s₂) E (put s hs n₀)) := by
  subst hL
  have up : ∀ o b o', hs.get? b = some o' → (hs.push o).get? b = some o' := fun o b o' e => Heap.get?_push_of_some _ e
  refine wpAny_pyIter_range hr hsmall ?_
  have W := Walks.range (prog := prog) (w := w) hh hs.objs.size a 1 n
  refine for_walks (s := put s _ n₀) (Wk.of W) Inv mono hx hfk (fr_grow F (up _)) (news_grow N (up _)) (next_is_new F) (Nat.ne_of_gt F.ns.lt) (fun p hp => Nat.ne_of_lt (Heap.lt_size (N p hp).1)) (fun i h st => ⟨_, st⟩)
    (fun b hb hbI => absurd (List.mem_singleton.mp hb) hbI) (by show IsRangeIter (hs.push _) hs.objs.size _ _ _; rw [hn]; simpa using Heap.get?_push_size hs rfl) hI (fun i v m₁ news₁ oI h tk t₀ t₁ h0 h1 h2 hi hP hInv hN F₁ N₁ => ?_) (fun m₁ news₁ h tk htk hInv F₁ N₁ => done m₁ news₁ h tk htk hInv F₁ N₁) (fun _ _ q => q)
  obtain ⟨t', rfl⟩ := hP
  exact turn _ i t' m₁ news₁ oI h tk (Nat.le_trans h0 h2) (Nat.le_refl _) hi hInv hN (by simpa using F₁) N₁

theorem loop_str {z : Str} {t : Tok} {L : Addr} {hs : Heap} {n₀ : Nat} (hh : A.handled = none)
    (F : Fr h₀ L hs m₀) (N : News h₀ L hs news₀) (hL : env.locals = L) (hx : env.kindOf x = some .local) (hfk : env.scope.kind = .function) (hI : Inv 0 n₀ m₀ news₀)
    (turn : ∀ I i c u m₁ news₁ oI h tk, n₀ ≤ u → u < tk → hs.objs.size ≤ I → z.cps[i]? = some c → Inv i tk m₁ news₁ → (∀ p ∈ news₁, p.1 ≠ I) →
      Fr h₀ L h (upd m₁ x (.str ⟨#[c]⟩ u)) → News h₀ L h (news₁ ++ [(I, oI)]) →
      wpAny (model prog w) A (execs body env) (TurnEnd h₀ L I (Inv (i + 1)) [(I, oI)] s Q) (fun _ _ => False) (put s h tk))
    (done : ∀ m₁ news₁ h tk, n₀ ≤ tk → Inv z.cps.size tk m₁ news₁ → Fr h₀ L h m₁ → News h₀ L h news₁ → Q .next (put s h tk)) :
    Stop (wpAny (model prog w) A (pyIter (.str z t)) (fun it s₂ => codeAny (model prog w) A (.forLoop (.Name x px) it body [] env) (fun r s' => match r with | .ok f => Q f s' | .error e => cameBackBy (model prog w) A env E e s') s₂) E (put s hs n₀)) := by
  subst hL
  have up : ∀ o b o', hs.get? b = some o' → (hs.push o).get? b = some o' := fun o b o' e => Heap.get?_push_of_some _ e
  have gen : ∀ (T : String) (o : Obj), Wk prog w A hs.objs.size [hs.objs.size] z.cps.size (fun i v a b => ∃ c u, z.cps[i]? = some c ∧ v = .str ⟨#[c]⟩ u ∧ a ≤ u ∧ u < b) (fun i h => h.IsStrIter hs.objs.size T z t i) → (hs.push o).IsStrIter hs.objs.size T z t 0 →
      codeAny (model prog w) A (.forLoop (.Name x px) (.ref hs.objs.size) body [] env) (fun r s' => match r with | .ok f => Q f s' | .error e => cameBackBy (model prog w) A env E e s') (put s (hs.push o) n₀) := by
    intro T o W h0
    refine for_walks (s := put s _ n₀) W Inv mono hx hfk (fr_grow F (up _)) (news_grow N (up _)) (next_is_new F) (Nat.ne_of_gt F.ns.lt) (fun p hp => Nat.ne_of_lt (Heap.lt_size (N p hp).1)) (fun i h st => st.imp fun o e => e.1)
      (fun b hb hbI => absurd (List.mem_singleton.mp hb) hbI) h0 hI (fun i v m₁ news₁ oI h tk t₀ t₁ h0' h1 h2 hi hP hInv hN F₁ N₁ => ?_) (fun m₁ news₁ h tk htk hInv F₁ N₁ => done m₁ news₁ h tk htk hInv F₁ N₁) (fun _ _ q => q)
    obtain ⟨c, u, hc, rfl, u1, u2⟩ := hP
    exact turn _ i c u m₁ news₁ oI h tk (Nat.le_trans h0' u1) (Nat.lt_of_lt_of_le u2 h1) (Nat.le_refl _) hc hInv hN F₁ N₁
  cases ha : z.cps.all (· < 128)
  · exact wpAny_pyIter_wide ha (gen _ _ (Wk.wide hh _ z t) ⟨_, Heap.get?_push_size _ rfl, rfl, rfl⟩)
  · exact wpAny_pyIter_ascii ha (gen _ _ (Wk.ascii hh _ z t) ⟨_, Heap.get?_push_size _ rfl, rfl, rfl⟩)
end
end


/-- room for some frames more -/
structure Rm (n : Nat) (A : Around) : Prop where
  hh : A.handled = none
  dep : A.depth + n < 900
  un : A.units + 20 * n < 9000

theorem Rm.deeper {n : Nat} {A : Around} (r : Rm (n + 1) A) (env : Env) : Rm n (A.deeper env) :=
  ⟨r.hh, by have := r.dep; show A.depth + 1 + n < 900; omega, by have := r.un; show A.units + 3 + 20 * n < 9000; omega⟩

theorem Rm.room {n : Nat} {A : Around} (r : Rm n A) : A.depth < recursionLimit := by have := r.dep; unfold recursionLimit; omega
theorem Rm.le {n k : Nat} {A : Around} (r : Rm n A) (h : k ≤ n) : Rm k A := ⟨r.hh, by have := r.dep; omega, by have := r.un; omega⟩

section
variable {prog : Program} {w : World} {A : Around} {s : Shared} {K : Frag} {mg mb : Str → Option Value} {p : Program} {loose : List Str} {mean : ExcName → Option Value}
    {R : Result → Shared → Prop} {name qual : Str} {params : Arguments} {body : List Stmt} {scope : Scope} {dV kV doc pm cdv ct oc : Value} {an od : Option Addr} {osl : Array (Option Value)} {f : Addr} {args : Args} {binds : List (Str × Value)} {n : Nat}

theorem enter (X : K.In s.heap) (T : Top p loose mean mg mb s.heap)
    (ho : K.lookup f = some ⟨oc, od, .func (fnOf name qual params body scope dV kV doc pm an cdv ct), osl⟩) (hcd : codeIn K cdv qual = true) (r : Rm (n + 1) A)
    (hbind : BindsTo s (fnOf name qual params body scope dV kV doc pm an cdv ct) args binds) (hloc : ∀ y ∈ binds, scope.names.lookup y.1 = some .local)
    (h : ∀ A' Qf Ef L h₁ tk, s.toks ≤ tk → Rm n A' → (∀ v s', R (.ok (.ret v)) s' → Qf (.ret v) s') → Fr s.heap L h₁ (fun y => binds.reverse.lookup y) → News s.heap L h₁ [] →
      wpAny (model prog w) A' (execs body (envOf qual scope L f cdv)) Qf Ef { s with heap := h₁, toks := tk })
    (hco : scope.isCoroutine = false) (hgen : scope.isGenerator = false) (hk : scope.kind = .function)
    (hcell : ∀ x ∈ scope.names, x.2 ≠ .cell) : codeAny (model prog w) A (.call (.ref f) args) R s := by
  refine codeAny_call_def (fd := fnOf name qual params body scope dV kV doc pm an cdv ct) (body := body) (binds := binds) (r.room) (X _ _ ho) rfl T.nolimit (codeRec_of X hcd) rfl hbind hcell hloc (fun h₁ hns hk₁ => ?_) hco hgen hk
  exact h _ _ _ s.heap.objs.size h₁ _ (Nat.le_add_right _ _) (r.deeper _) (fun _ _ x => x) ⟨hns, hk₁, Nat.le_refl _⟩ News.nil

/-- a def with a rest tuple -/
theorem enterR {o : Obj} {bindsR : Addr → List (Str × Value)} (X : K.In s.heap) (T : Top p loose mean mg mb s.heap)
    (ho : K.lookup f = some ⟨oc, od, .func (fnOf name qual params body scope dV kV doc pm an cdv ct), osl⟩) (hcd : codeIn K cdv qual = true) (r : Rm (n + 1) A)
    (hbind : ∀ (M : Model) (A : Around) (E : Value → Shared → Prop) (Q : List (Str × Value) → Shared → Prop), Q (bindsR s.heap.objs.size) { s with heap := s.heap.push o } → wpAny M A (bindArgs (fnOf name qual params body scope dV kV doc pm an cdv ct) args) Q E s)
    (hfree : o.isFreed = false) (hloc : ∀ D, ∀ y ∈ bindsR D, scope.names.lookup y.1 = some .local)
    (h : ∀ D A' Qf Ef L h₁ tk, s.toks ≤ tk → Rm n A' → (∀ v s', R (.ok (.ret v)) s' → Qf (.ret v) s') → Fr s.heap L h₁ (fun y => (bindsR D).reverse.lookup y) → News s.heap L h₁ [(D, o)] →
      wpAny (model prog w) A' (execs body (envOf qual scope L f cdv)) Qf Ef { s with heap := h₁, toks := tk })
    (hco : scope.isCoroutine = false) (hgen : scope.isGenerator = false) (hk : scope.kind = .function)
    (hcell : ∀ x ∈ scope.names, x.2 ≠ .cell) : codeAny (model prog w) A (.call (.ref f) args) R s := by
  refine codeAny_call_function (fd := fnOf name qual params body scope dV kV doc pm an cdv ct) (body := body) (r.room) (X _ _ ho) rfl hco hgen rfl (codeRec_of X hcd) (hbind _ _ _ _ ?_)
  have up : ∀ b o', s.heap.get? b = some o' → (s.heap.push o).get? b = some o' := fun b o' e => Heap.get?_push_of_some _ e
  refine wpAny_newFunctionEnv hcell (hloc _) (fun h₁ hns hsb => ⟨(T.nolimit.keeps up).fresh _ hsb, codeAny_func ?_⟩) hk
  have hk₁ : ∀ b o', (s.heap.push o).get? b = some o' → h₁.get? b = some o' := fun b o' e => hsb.extBut b o' (Nat.ne_of_lt (Heap.lt_size e)) (Heap.get?_push_of_some _ e)
  have hD : (s.heap.push o).get? s.heap.objs.size = some o := Heap.get?_push_size _ hfree
  have hnone : s.heap.get? s.heap.objs.size = none := by
    cases e : s.heap.get? s.heap.objs.size with
    | none => rfl
    | some o' => exact absurd (Heap.lt_size e) (Nat.lt_irrefl _)
  refine h s.heap.objs.size _ _ _ (s.heap.push o).objs.size h₁ _ (Nat.le_add_right _ _) (r.deeper _) (fun _ _ x => x) ⟨hns, fun b o' e => hk₁ b o' (up b o' e), by show s.heap.objs.size ≤ (s.heap.push o).objs.size; rw [Heap.size_push]; exact Nat.le_succ _⟩ ?_
  intro q hq
  rw [List.mem_singleton.mp hq]
  exact ⟨hk₁ _ _ hD, Nat.ne_of_lt (Heap.lt_size hD), hnone⟩
end

theorem tup_of {h₀ h : Heap} {L a : Addr} {vs : Array Value} {n : Nat} {news : List (Addr × Obj)} (N : News h₀ L h news) (hm : (a, ({ cls := .type "tuple", data := .seq vs n } : Obj)) ∈ news) : IsTup h a vs :=
  ⟨_, (N _ hm).1, rfl, n, rfl⟩

theorem upd_self {m r : Str → Option Value} {x : Str} {v : Value} (h : m x = some v) (hr : m = r) : m = upd r x v := by
  subst hr; funext y; unfold upd; split
  · rename_i e; rw [e]; exact h
  · rfl

theorem turn_end {h₀ : Heap} {L I : Addr} {Inv : Nat → (Str → Option Value) → List (Addr × Obj) → Prop} {own : List (Addr × Obj)} {s : Shared} {Q : Flow → Shared → Prop} {h' : Heap} {tk : Nat} {m' : Str → Option Value} {nw news' : List (Addr × Obj)}
    (F : Fr h₀ L h' m') (N : News h₀ L h' nw) (hs : ∀ p ∈ news' ++ own, p ∈ nw) (hne : ∀ p ∈ news', p.1 ≠ I) (hI : Inv tk m' news') : TurnEnd h₀ L I Inv own s Q .next (put s h' tk) :=
  ⟨h', tk, m', news', rfl, F, fun p hp => N p (hs p hp), hne, hI⟩
theorem turn_cont {h₀ : Heap} {L I : Addr} {Inv : Nat → (Str → Option Value) → List (Addr × Obj) → Prop} {own : List (Addr × Obj)} {s : Shared} {Q : Flow → Shared → Prop} {h' : Heap} {tk : Nat} {m' : Str → Option Value} {nw news' : List (Addr × Obj)}
    (F : Fr h₀ L h' m') (N : News h₀ L h' nw) (hs : ∀ p ∈ news' ++ own, p ∈ nw) (hne : ∀ p ∈ news', p.1 ≠ I) (hI : Inv tk m' news') : TurnEnd h₀ L I Inv own s Q .cont (put s h' tk) :=
  ⟨h', tk, m', news', rfl, F, fun p hp => N p (hs p hp), hne, hI⟩


abbrev Mo (w : World) : Model := model PySem.Challenge.rw_pd0142_01.prog w

theorem stays_refl (h : Heap) : h.StaysIn h := fun _ _ e => e
theorem stays_trans {a b c : Heap} (x : a.StaysIn b) (y : b.StaysIn c) : a.StaysIn c := fun n o e => y n o (x n o e)

/-- the text's own objects and names stand in h; some token was drawn before n -/
structure Wd (w : World) (h : Heap) (n : Nat) : Prop where
  X : (KK w.params).In h
  T : ∃ p loose mean mg mb, Top p loose mean mg mb h
  pos : 0 < n
theorem Wd.keeps {w : World} {h h' : Heap} {n n' : Nat} (x : Wd w h n) (k : h.StaysIn h') (l : n ≤ n') : Wd w h' n' :=
  ⟨x.X.keeps k, by obtain ⟨p, q, a, b, c, T⟩ := x.T; exact ⟨p, q, a, b, c, T.keeps k⟩, Nat.lt_of_lt_of_le x.pos l⟩

/-- t, run over any growth of h from token n on, ends with P and keeps what stood -/
def Ev (w : World) (A : Around) {α : Type} (h : Heap) (n : Nat) (t : Sem α) (P : α → Heap → Nat → Prop) : Prop :=
  ∀ (s : Shared) (Q : α → Shared → Prop) (E : Value → Shared → Prop), h.StaysIn s.heap → n ≤ s.toks →
    (∀ v h' tk, s.heap.StaysIn h' → s.toks ≤ tk → P v h' tk → Q v { s with heap := h', toks := tk }) → wpAny (Mo w) A t Q E s

def IsI (i : Int) : Value → Heap → Nat → Prop := fun v _ _ => ∃ t, v = .int i t
def IsS (x : Str) : Value → Heap → Nat → Prop := fun v _ n => ∃ t, v = .str x t ∧ 0 < t ∧ t < n
def IsB (b : Bool) : Value → Heap → Nat → Prop := fun v _ _ => v = .bool b
def Is {α : Type} (u : α) : α → Heap → Nat → Prop := fun v _ _ => v = u
/-- what holds of a value goes on holding as the heap grows -/
def Up {α : Type} (P : α → Heap → Nat → Prop) : Prop := ∀ v h h' n n', P v h n → h.StaysIn h' → n ≤ n' → P v h' n'
theorem upI {i : Int} : Up (IsI i) := fun _ _ _ _ _ p _ _ => p
theorem upS {x : Str} : Up (IsS x) := fun _ _ _ _ _ p _ l => let ⟨t, e, a, b⟩ := p; ⟨t, e, a, Nat.lt_of_lt_of_le b l⟩
theorem upB {b : Bool} : Up (IsB b) := fun _ _ _ _ _ p _ _ => p
theorem upIs {α : Type} {u : α} : Up (Is u) := fun _ _ _ _ _ p _ _ => p

section
variable {w : World} {A : Around} {h : Heap} {n : Nat} {env : Env}

theorem Ev.grow {α : Type} {t : Sem α} {P : α → Heap → Nat → Prop} {h' : Heap} {n' : Nat} (e : Ev w A h n t P) (k : h.StaysIn h') (l : n ≤ n') : Ev w A h' n' t P :=
  fun s Q E st tl q => e s Q E (stays_trans k st) (Nat.le_trans l tl) q
theorem Ev.post {α : Type} {t : Sem α} {P P' : α → Heap → Nat → Prop} (e : Ev w A h n t P) (f : ∀ v h' n', h.StaysIn h' → n ≤ n' → P v h' n' → P' v h' n') : Ev w A h n t P' :=
  fun s Q E st tl q => e s Q E st tl fun v h' tk st' tl' p => q v h' tk st' tl' (f v h' tk (stays_trans st st') (Nat.le_trans tl tl') p)
/-- a rule that leaves the heap -/
theorem Ev.of {α : Type} {t : Sem α} {P : α → Heap → Nat → Prop} (f : ∀ (s : Shared) (Q : α → Shared → Prop) (E : Value → Shared → Prop), h.StaysIn s.heap → n ≤ s.toks → (∀ v tk, s.toks ≤ tk → P v s.heap tk → Q v { s with toks := tk }) → wpAny (Mo w) A t Q E s) : Ev w A h n t P :=
  fun s Q E st tl q => f s Q E st tl fun v tk l p => q v s.heap tk (stays_refl _) l p
theorem Ev.val {α : Type} {t : Sem α} {P : α → Heap → Nat → Prop} (v : α) (f : ∀ (s : Shared) (Q : α → Shared → Prop) (E : Value → Shared → Prop), h.StaysIn s.heap → n ≤ s.toks → Q v s → wpAny (Mo w) A t Q E s) (p : ∀ h' n', h.StaysIn h' → n ≤ n' → P v h' n') : Ev w A h n t P :=
  fun s Q E st tl q => f s Q E st tl (q v s.heap s.toks (stays_refl _) (Nat.le_refl _) (p _ _ st tl))
theorem Ev.use {α : Type} {t : Sem α} {P : α → Heap → Nat → Prop} {s : Shared} {Q : α → Shared → Prop} {E : Value → Shared → Prop} (e : Ev w A s.heap s.toks t P)
    (q : ∀ v h' tk, s.heap.StaysIn h' → s.toks ≤ tk → P v h' tk → Q v { s with heap := h', toks := tk }) : wpAny (Mo w) A t Q E s :=
  e s Q E (stays_refl _) (Nat.le_refl _) q
/-- t, then what is done with its value: rules of the make 't is run, then g' -/
theorem Ev.then {α β : Type} {t : Sem α} {u : Sem β} {g : α → Sem β} {P : α → Heap → Nat → Prop} {P' : β → Heap → Nat → Prop}
    (rule_ : ∀ (s : Shared) (Q : β → Shared → Prop) (E : Value → Shared → Prop), wpAny (Mo w) A t (fun a s₁ => wpAny (Mo w) A (g a) Q E s₁) E s → wpAny (Mo w) A u Q E s)
    (h1 : Ev w A h n t P) (h2 : ∀ a h' n', h.StaysIn h' → n ≤ n' → P a h' n' → Ev w A h' n' (g a) P') : Ev w A h n u P' :=
  fun s Q E st tl q => rule_ s Q E (h1 s _ E st tl fun a h' tk st' tl' p => h2 a h' tk (stays_trans st st') (Nat.le_trans tl tl') p _ Q E (stays_refl _) (Nat.le_refl _) fun v h'' tk' st'' tl'' p' => q v h'' tk' (stays_trans st' st'') (Nat.le_trans tl' tl'') p')

theorem ev_int {i : Int} {k : Nat} {pos : Pos} : Ev w A h n (eval (.Constant (.int i) k pos) env) (IsI i) := .of fun s Q E st tl q => wpAny_Constant_int (q _ _ (Nat.le_succ _) ⟨_, rfl⟩)
theorem ev_str {x : Str} {k : Nat} {pos : Pos} (W : Wd w h n) : Ev w A h n (eval (.Constant (.str x) k pos) env) (IsS x) :=
  .of fun s Q E st tl q => Constant_str (q _ _ (Nat.le_succ _) ⟨_, rfl, Nat.lt_of_lt_of_le W.pos tl, Nat.lt_succ_self _⟩)
theorem ev_bool {k : Nat} {pos : Pos} {b : Bool} : Ev w A h n (eval (.Constant (.bool b) k pos) env) (IsB b) := .val (.bool b) (fun s Q E st tl q => wpAny_pure q) (fun _ _ _ _ => rfl)

theorem ev_local {m : Str → Option Value} {x : Str} {pos : Pos} {v : Value} {P : Value → Heap → Nat → Prop} (hn : h.Ns env.locals m) (hv : m x = some v) (p : P v h n) (up : Up P) (hk : env.scope.kind = .function) (hl : env.kindOf x = some .local)
    (hd : (x == ("__debug__" : Str)) = false) : Ev w A h n (eval (.Name x pos) env) P :=
  .val v (fun s Q E st tl q => wpAny_Name (wpAny_loadName_local hk hl (hn.keeps st) hv q) hd) (fun _ _ k l => up _ _ _ _ _ p k l)
theorem ev_global {x : Str} {pos : Pos} {v : Value} (W : Wd w h n) (e : nsIn (KK w.params) mainGlobals x = some (some v)) (hk : env.scope.kind = .function) (hl : env.kindOf x = some .globalImplicit)
    (hg : env.globals = mainGlobals) (hd : (x == ("__debug__" : Str)) = false) : Ev w A h n (eval (.Name x pos) env) (Is v) :=
  .val v (fun s Q E st tl q => by
    obtain ⟨_, _, _, mg, _, T⟩ := W.T
    exact Name_function_global hk hl (loadGlobal_global (mg := mg) (by rw [hg]; exact T.g.keeps st) (mg_of W.X T.g e) q) hd) (fun _ _ _ _ => rfl)
theorem ev_builtin {x : Str} {pos : Pos} {v : Value} (W : Wd w h n) (e : nsIn (KK w.params) mainGlobals x = some none) (hv : bootBuiltins x = some v) (hx : x ≠ "__name__") (hk : env.scope.kind = .function) (hl : env.kindOf x = some .globalImplicit)
    (hg : env.globals = mainGlobals) (hb : env.builtins = builtinsNs) (hd : (x == ("__debug__" : Str)) = false) : Ev w A h n (eval (.Name x pos) env) (Is v) :=
  .val v (fun s Q E st tl q => by
    obtain ⟨_, _, _, mg, mb, T⟩ := W.T
    exact Name_function_global hk hl (loadGlobal_builtin (mg := mg) (mb := mb) (by rw [hg]; exact T.g.keeps st) (mg_none_of W.X T.g e) (by rw [hb]; exact T.b.keeps st) ((T.builtins x hx).trans hv) q) hd) (fun _ _ _ _ => rfl)

/-- an argument list -/
theorem ev_args0 {pos : Pos} : Ev w A h n (spliced (backTo pos (starEach [] env))) (Is []) := .val [] (fun s Q E st tl q => spliced_none q) (fun _ _ _ _ => rfl)
theorem ev_argsC {pos : Pos} {e : Expr} {rest : List Expr} {P : Value → Heap → Nat → Prop} {R : List Value → Heap → Nat → Prop} (h1 : Ev w A h n (eval e env) P) (h2 : Ev w A h n (spliced (backTo pos (starEach rest env))) R) (up : Up P)
    (he : starEach (e :: rest) env = (false, eval e env) :: starEach rest env) : Ev w A h n (spliced (backTo pos (starEach (e :: rest) env))) (fun vs h' n' => ∃ v r, vs = v :: r ∧ P v h' n' ∧ R r h' n') :=
  fun s Q E st tl q => spliced_more (h1 s _ E st tl fun v h' tk st' tl' p => h2 _ _ E (stays_trans st st') (Nat.le_trans tl tl') fun vs h'' tk' st'' tl'' r => q _ h'' tk' (stays_trans st' st'') (Nat.le_trans tl' tl'') ⟨v, vs, rfl, up _ _ _ _ _ p st'' tl'', r⟩) he
theorem ev_args1 {pos : Pos} {e : Expr} {P : Value → Heap → Nat → Prop} (h1 : Ev w A h n (eval e env) P) (he : starEach [e] env = [(false, eval e env)]) :
    Ev w A h n (spliced (backTo pos (starEach [e] env))) (fun vs h' n' => ∃ v, vs = [v] ∧ P v h' n') :=
  fun s Q E st tl q => spliced_more (h1 s _ E st tl fun v h' tk st' tl' p => spliced_none (q _ h' tk st' tl' ⟨v, rfl, p⟩)) he
theorem ev_args2 {pos : Pos} {e₁ e₂ : Expr} {P₁ P₂ : Value → Heap → Nat → Prop} (h1 : Ev w A h n (eval e₁ env) P₁) (h2 : Ev w A h n (eval e₂ env) P₂) (up : Up P₁) (he : starEach [e₁, e₂] env = (false, eval e₁ env) :: starEach [e₂] env) (he2 : starEach [e₂] env = [(false, eval e₂ env)]) :
    Ev w A h n (spliced (backTo pos (starEach [e₁, e₂] env))) (fun vs h' n' => ∃ v₁ v₂, vs = [v₁, v₂] ∧ P₁ v₁ h' n' ∧ P₂ v₂ h' n') :=
  (ev_argsC h1 (ev_args1 h2 he2) up he).post fun vs h' n' _ _ p => by
    obtain ⟨v, r, rfl, p1, u, rfl, p2⟩ := p; exact ⟨v, u, rfl, p1, p2⟩

/-- a call of a def of the text -/
structure IsDef (w : World) (f : Str) (a : Addr) : Prop where
  ns : nsIn (KK w.params) mainGlobals f = some (some (.ref a))
  keep : keepIn (KK w.params) (.ref a) = true
theorem ev_callD {f : Str} {a : Addr} {p pos : Pos} {e : Expr} {rest : List Expr} {P : Value → Heap → Nat → Prop} {R : List Value → Heap → Nat → Prop} (D : IsDef w f a) (W : Wd w h n)
    (hargs : Ev w A h n (spliced (backTo pos (starEach (e :: rest) env))) R) (hc : ∀ vs h' n', h.StaysIn h' → n ≤ n' → R vs h' n' → Ev w A h' n' (call (.ref a) vs) P)
    (hk : env.scope.kind = .function) (hl : env.kindOf f = some .globalImplicit) (hg : env.globals = mainGlobals) (hd : (f == ("__debug__" : Str)) = false)
    (he : starEach (e :: rest) env = (false, eval e env) :: starEach rest env) (hplain : (backTo pos (starEach rest env)).any (·.1) = false) :
    Ev w A h n (eval (.Call (.Name f p) (e :: rest) [] pos) env) P :=
  .then (g := fun f => callWith pos f [] (backTo pos (starEach (e :: rest) env)) []) (fun s Q E x => Call_Name rfl x) (ev_global W D.ns hk hl hg hd) fun v h' n' k l ev => by
    cases ev
    have W' := W.keeps k l
    exact fun s Q E st tl q => callWith_K W'.X D.keep (hargs s _ E (stays_trans k st) (Nat.le_trans l tl) fun vs h'' tk' st'' tl'' r => ⟨(W'.keeps (stays_trans st st'') (Nat.le_trans tl tl'')).X, hc vs h'' tk' (stays_trans k (stays_trans st st'')) (Nat.le_trans l (Nat.le_trans tl tl'')) r _ _ _ (stays_refl _) (Nat.le_refl _) fun v h₃ tk₃ st₃ tl₃ p => q v h₃ tk₃ (stays_trans st'' st₃) (Nat.le_trans tl'' tl₃) p⟩) he hplain
theorem ev_call1 {f : Str} {a : Addr} {p pos : Pos} {e : Expr} {P P₁ : Value → Heap → Nat → Prop} (D : IsDef w f a) (W : Wd w h n)
    (h1 : Ev w A h n (eval e env) P₁) (hc : ∀ v h' n', h.StaysIn h' → n ≤ n' → P₁ v h' n' → Ev w A h' n' (call (.ref a) [v]) P)
    (hk : env.scope.kind = .function) (hl : env.kindOf f = some .globalImplicit) (hg : env.globals = mainGlobals) (hd : (f == ("__debug__" : Str)) = false)
    (he : starEach [e] env = [(false, eval e env)]) : Ev w A h n (eval (.Call (.Name f p) [e] [] pos) env) P :=
  ev_callD D W (ev_args1 h1 he) (fun vs h' n' k l r => by obtain ⟨v, rfl, p⟩ := r; exact hc v h' n' k l p) hk hl hg hd he rfl
theorem ev_call2 {f : Str} {a : Addr} {p pos : Pos} {e₁ e₂ : Expr} {P P₁ P₂ : Value → Heap → Nat → Prop} (D : IsDef w f a) (W : Wd w h n)
    (h1 : Ev w A h n (eval e₁ env) P₁) (h2 : Ev w A h n (eval e₂ env) P₂) (up : Up P₁) (hc : ∀ v₁ v₂ h' n', h.StaysIn h' → n ≤ n' → P₁ v₁ h' n' → P₂ v₂ h' n' → Ev w A h' n' (call (.ref a) [v₁, v₂]) P)
    (hk : env.scope.kind = .function) (hl : env.kindOf f = some .globalImplicit) (hg : env.globals = mainGlobals) (hd : (f == ("__debug__" : Str)) = false)
    (he : starEach [e₁, e₂] env = (false, eval e₁ env) :: starEach [e₂] env) (he2 : starEach [e₂] env = [(false, eval e₂ env)]) : Ev w A h n (eval (.Call (.Name f p) [e₁, e₂] [] pos) env) P :=
  ev_callD D W (ev_args2 h1 h2 up he he2) (fun vs h' n' k l r => by obtain ⟨v, u, rfl, p, p'⟩ := r; exact hc v u h' n' k l p p') hk hl hg hd he (by rw [he2]; rfl)

/-- two expressions, then an operation -/
theorem Ev.two {α : Type} {l r : Expr} {u : Sem α} {g : Value → Value → Sem α} {P₁ P₂ : Value → Heap → Nat → Prop} {P : α → Heap → Nat → Prop}
    (rule_ : ∀ (s : Shared) (Q : α → Shared → Prop) (E : Value → Shared → Prop), wpAny (Mo w) A (eval l env) (fun a s₁ => wpAny (Mo w) A (eval r env) (fun b s₂ => wpAny (Mo w) A (g a b) Q E s₂) E s₁) E s → wpAny (Mo w) A u Q E s)
    (h1 : Ev w A h n (eval l env) P₁) (h2 : Ev w A h n (eval r env) P₂) (up : Up P₁) (ho : ∀ a b h' n', h.StaysIn h' → n ≤ n' → P₁ a h' n' → P₂ b h' n' → Ev w A h' n' (g a b) P) : Ev w A h n u P :=
  fun s Q E st tl q => rule_ s Q E (h1 s _ E st tl fun a h' tk st' tl' p => h2 _ _ E (stays_trans st st') (Nat.le_trans tl tl') fun b h'' tk' st'' tl'' p' =>
    ho a b h'' tk' (stays_trans (stays_trans st st') st'') (Nat.le_trans (Nat.le_trans tl tl') tl'') (up _ _ _ _ _ p st'' tl'') p' _ _ _ (stays_refl _) (Nat.le_refl _) fun v h₃ tk₃ st₃ tl₃ pv => q v h₃ tk₃ (stays_trans st' (stays_trans st'' st₃)) (Nat.le_trans tl' (Nat.le_trans tl'' tl₃)) pv)
theorem ev_bin {l r : Expr} {op : Operator} {pos : Pos} {P₁ P₂ P : Value → Heap → Nat → Prop} (h1 : Ev w A h n (eval l env) P₁) (h2 : Ev w A h n (eval r env) P₂) (up : Up P₁) (ho : ∀ a b h' n', h.StaysIn h' → n ≤ n' → P₁ a h' n' → P₂ b h' n' → Ev w A h' n' (binaryOp op a b) P) :
    Ev w A h n (eval (.BinOp l op r pos) env) P := .two (fun s Q E x => wpAny_BinOp x) h1 h2 up ho
theorem ev_addI {l r : Expr} {pos : Pos} {a b : Int} (h1 : Ev w A h n (eval l env) (IsI a)) (h2 : Ev w A h n (eval r env) (IsI b)) : Ev w A h n (eval (.BinOp l .Add r pos) env) (IsI (a + b)) :=
  ev_bin h1 h2 upI fun _ _ _ _ _ _ ⟨_, e⟩ ⟨_, e'⟩ => by subst e e'; exact .of fun s Q E st tl q => add_int (q _ _ (Nat.le_succ _) ⟨_, rfl⟩)
theorem ev_subI {l r : Expr} {pos : Pos} {a b : Int} (h1 : Ev w A h n (eval l env) (IsI a)) (h2 : Ev w A h n (eval r env) (IsI b)) : Ev w A h n (eval (.BinOp l .Sub r pos) env) (IsI (a - b)) :=
  ev_bin h1 h2 upI fun _ _ _ _ _ _ ⟨_, e⟩ ⟨_, e'⟩ => by subst e e'; exact .of fun s Q E st tl q => sub_int (q _ _ (Nat.le_succ _) ⟨_, rfl⟩)
theorem ev_mulI {l r : Expr} {pos : Pos} {a b : Int} (h1 : Ev w A h n (eval l env) (IsI a)) (h2 : Ev w A h n (eval r env) (IsI b)) (hm : IntMulOk a b) : Ev w A h n (eval (.BinOp l .Mult r pos) env) (IsI (a * b)) :=
  ev_bin h1 h2 upI fun _ _ _ _ _ _ ⟨_, e⟩ ⟨_, e'⟩ => by subst e e'; exact .of fun s Q E st tl q => mul_int (q _ _ (Nat.le_succ _) ⟨_, rfl⟩) hm
theorem ev_divI {l r : Expr} {pos : Pos} {a b : Int} (h1 : Ev w A h n (eval l env) (IsI a)) (h2 : Ev w A h n (eval r env) (IsI b)) (hb : b ≠ 0) (hs : b.natAbs < 1073741824) : Ev w A h n (eval (.BinOp l .FloorDiv r pos) env) (IsI (a.fdiv b)) :=
  ev_bin h1 h2 upI fun _ _ _ _ _ _ ⟨_, e⟩ ⟨_, e'⟩ => by subst e e'; exact .of fun s Q E st tl q => floordiv_int hb (q _ _ (Nat.le_succ _) ⟨_, rfl⟩) (.inl (PyProof.noPylong_small hs))
theorem ev_modI {l r : Expr} {pos : Pos} {a b : Int} (h1 : Ev w A h n (eval l env) (IsI a)) (h2 : Ev w A h n (eval r env) (IsI b)) (hb : b ≠ 0) : Ev w A h n (eval (.BinOp l .Mod r pos) env) (IsI (a.fmod b)) :=
  ev_bin h1 h2 upI fun _ _ _ _ _ _ ⟨_, e⟩ ⟨_, e'⟩ => by subst e e'; exact .of fun s Q E st tl q => mod_int' hb (q _ _ (Nat.le_succ _) ⟨_, rfl⟩)
theorem ev_negI {e : Expr} {pos : Pos} {a : Int} (h1 : Ev w A h n (eval e env) (IsI a)) : Ev w A h n (eval (.UnaryOp .USub e pos) env) (IsI (-a)) :=
  .then (fun s Q E x => wpAny_UnaryOp x) h1 fun v h' n' _ _ ⟨_, ev⟩ => by subst ev; exact .of fun s Q E st tl q => neg_int (q _ _ (Nat.le_succ _) ⟨_, rfl⟩)

theorem str_nil {x : Str} (h : x.length = 0) : x = Str.empty := by
  obtain ⟨c⟩ := x
  have : c.size = 0 := h
  rw [Array.eq_empty_of_size_eq_zero this]; rfl
/-- a text that is made: itself, or anew -/
theorem made_str {m : Made} {x : Str} {s : Shared} {Q : Value → Shared → Prop} (hx : (∃ v, m = .val v ∧ IsS x v s.heap s.toks) ∨ (m = .str x ∧ x.length ≤ sizeLine)) (W : 0 < s.toks)
    (q : ∀ v tk, s.toks ≤ tk → IsS x v s.heap tk → Q v { s with toks := tk }) : m.post Q s := by
  rcases hx with ⟨v, rfl, p⟩ | ⟨rfl, hl⟩
  · exact q v s.toks (Nat.le_refl _) p
  · exact ⟨hl, q _ _ (Nat.le_succ _) ⟨_, rfl, W, Nat.lt_succ_self _⟩⟩
theorem ev_addS {l r : Expr} {pos : Pos} {a b : Str} (W : Wd w h n) (h1 : Ev w A h n (eval l env) (IsS a)) (h2 : Ev w A h n (eval r env) (IsS b)) (hz : a.length + b.length ≤ sizeLine) : Ev w A h n (eval (.BinOp l .Add r pos) env) (IsS (a ++ b)) :=
  ev_bin h1 h2 upS fun va vb h' n' k l' pa pb => by
    obtain ⟨t, rfl, t1, t2⟩ := pa
    obtain ⟨u, rfl, u1, u2⟩ := pb
    refine .of fun s Q E st tl q => PySem.P.add_str (made_str (x := a ++ b) ?_ (Nat.lt_of_lt_of_le W.pos (Nat.le_trans l' tl)) q)
    by_cases e1 : (a.length == 0) = true
    · rw [if_pos e1]
      have ha : a = Str.empty := str_nil (by simpa using e1)
      exact .inl ⟨_, rfl, u, by rw [ha, Str.empty_append], u1, Nat.lt_of_lt_of_le u2 tl⟩
    · rw [if_neg e1]
      by_cases e2 : (b.length == 0) = true
      · rw [if_pos e2]
        have hb : b = Str.empty := str_nil (by simpa using e2)
        exact .inl ⟨_, rfl, t, by rw [hb, Str.append_empty], t1, Nat.lt_of_lt_of_le t2 tl⟩
      · rw [if_neg e2]
        exact .inr ⟨rfl, by rw [Str.length_append]; exact hz⟩
end

theorem mulOk {a b : Int} (h : a.natAbs < 1073741824) : IntMulOk a b := IntMulOk.of_left (intBits_le_64 (by omega) (by omega))
/-- what hangs on no heap -/
def UpF {α : Type} (P : α → Heap → Nat → Prop) : Prop := ∀ v h h' n n', P v h n → n ≤ n' → P v h' n'
theorem UpF.up {α : Type} {P : α → Heap → Nat → Prop} (u : UpF P) : Up P := fun v h h' n n' p _ l => u v h h' n n' p l
theorem ufI {i : Int} : UpF (IsI i) := fun _ _ _ _ _ p _ => p
theorem ufS {x : Str} : UpF (IsS x) := fun _ _ _ _ _ p l => let ⟨t, e, a, b⟩ := p; ⟨t, e, a, Nat.lt_of_lt_of_le b l⟩
theorem ufB {b : Bool} : UpF (IsB b) := fun _ _ _ _ _ p _ => p
theorem ufIs {α : Type} {u : α} : UpF (Is u) := fun _ _ _ _ _ p _ => p

section
variable {w : World} {A : Around} {s : Shared} {h : Heap} {n : Nat} {env : Env} {h₀ : Heap} {m : Str → Option Value} {news : List (Addr × Obj)} {E : Value → Shared → Prop} {Q : Flow → Shared → Prop}

/-- return an expression -/
theorem st_ret {e : Expr} {pos : Pos} {rest : List Stmt} {P : Value → Heap → Nat → Prop} (he : Ev w A h n (eval e env) P) (k : ∀ v h' tk, h.StaysIn h' → n ≤ tk → P v h' tk → Q (.ret v) (put s h' tk)) :
    wpAny (Mo w) A (execs (.Return (some e) pos :: rest) env) Q E (put s h n) := wpAny_execs_cons (wpAny_Return_some (he.use (s := put s h n) k))

/-- x = e -/
theorem st_asg {x : Str} {p pos : Pos} {e : Expr} {rest : List Stmt} {P : Value → Heap → Nat → Prop} {L : Addr} (F : Fr h₀ L h m) (N : News h₀ L h news) (hL : env.locals = L) (he : Ev w A h n (eval e env) P)
    (k : ∀ v h₁ h' tk, h.StaysIn h₁ → n ≤ tk → P v h₁ tk → Heap.SameBut L h₁ h' → Fr h₀ L h' (upd m x v) → News h₀ L h' news →
      wpAny (Mo w) A (execs rest env) Q E (put s h' (tk + 1)))
    (hs : swapsWith e (some (.Name x p)) pos.line env = pure false) (hx : env.kindOf x = some .local) (hk : env.scope.kind = .function) :
    wpAny (Mo w) A (execs (.Assign [.Name x p] e pos :: rest) env) Q E (put s h n) := by
  subst hL
  exact wpAny_execs_cons (wpAny_Assign_Name (he.use (s := put s h n) fun v h₁ tk st tl p => wpAny_storeName_local hx (fr_grow F st).ns (fun h' hn hs' => k v h₁ h' _ st tl p hs' ((fr_grow F st).set hn hs') ((news_grow N st).set hs')) (by rw [hk]; rfl)) hs)
/-- x = e, a value that hangs on no heap -/
theorem st_asgV {x : Str} {p pos : Pos} {e : Expr} {rest : List Stmt} {P : Value → Heap → Nat → Prop} {L : Addr} (F : Fr h₀ L h m) (N : News h₀ L h news) (hL : env.locals = L) (he : Ev w A h n (eval e env) P) (uf : UpF P)
    (k : ∀ v h' tk, n ≤ tk → P v h' tk → Fr h₀ L h' (upd m x v) → News h₀ L h' news → wpAny (Mo w) A (execs rest env) Q E (put s h' tk))
    (hs : swapsWith e (some (.Name x p)) pos.line env = pure false) (hx : env.kindOf x = some .local) (hk : env.scope.kind = .function) :
    wpAny (Mo w) A (execs (.Assign [.Name x p] e pos :: rest) env) Q E (put s h n) :=
  st_asg F N hL he (fun v h₁ h' tk st tl p _ F' N' => k v h' (tk + 1) (Nat.le_succ_of_le tl) (uf _ _ _ _ _ p (Nat.le_succ _)) F' N') hs hx hk
end

/-- a def is entered: what it gives back over any growth -/
theorem ev_def {w : World} {A : Around} {h : Heap} {n₀ : Nat} {name qual : Str} {params : Arguments} {body : List Stmt} {scope : Scope} {dV kV doc pm cdv ct oc : Value} {an od : Option Addr} {osl : Array (Option Value)} {f : Addr} {args : List Value} {binds : List (Str × Value)} {n : Nat} {P : Value → Heap → Nat → Prop}
    (W : Wd w h n₀) (ho : (KK w.params).lookup f = some ⟨oc, od, .func (fnOf name qual params body scope dV kV doc pm an cdv ct), osl⟩) (hcd : codeIn (KK w.params) cdv qual = true) (r : Rm (n + 1) A)
    (hbind : bindArgs (fnOf name qual params body scope dV kV doc pm an cdv ct) ⟨args, []⟩ = pure binds) (hloc : ∀ y ∈ binds, scope.names.lookup y.1 = some .local)
    (body_ : ∀ A' L s₀ s h₁ n₁ Qf Ef, Rm n A' → h.StaysIn s₀ → n₀ ≤ n₁ → Wd w s₀ n₁ → Fr s₀ L h₁ (fun y => binds.reverse.lookup y) → News s₀ L h₁ [] → (∀ v h' tk, s₀.StaysIn h' → n₁ ≤ tk → P v h' tk → Qf (.ret v) (put s h' tk)) →
      wpAny (Mo w) A' (execs body (envOf qual scope L f cdv)) Qf Ef (put s h₁ n₁))
    (hco : scope.isCoroutine = false) (hgen : scope.isGenerator = false) (hk : scope.kind = .function) (hcell : ∀ x ∈ scope.names, x.2 ≠ .cell) : Ev w A h n₀ (call (.ref f) args) P :=
  fun s Q E st tl q => by
    have W' := W.keeps st tl
    obtain ⟨_, _, _, _, _, T⟩ := W'.T
    refine wpAny_call (enter (binds := binds) W'.X T ho hcd r (BindsTo.of_eq hbind) hloc (fun A' Qf Ef L h₁ tk tk' r' hQ F N => ?_) hco hgen hk hcell)
    exact body_ A' L s.heap s h₁ tk Qf Ef r' st (Nat.le_trans tl tk') (W'.keeps (stays_refl _) tk') F N fun v h' tk₁ st' tl' p => hQ _ _ (q v h' tk₁ st' (Nat.le_trans tk' tl') p)

/-- from a rule whose rest knows nothing of the tokens -/
theorem Ev.of0 {w : World} {A : Around} {h : Heap} {n : Nat} {α : Type} {t : Sem α} {P : α → Heap → Nat → Prop}
    (f : ∀ (s : Shared) (Q : α → Shared → Prop) (E : Value → Shared → Prop), h.StaysIn s.heap → n ≤ s.toks → (∀ v h' tk, s.heap.StaysIn h' → (s.toks ≤ tk → P v h' tk) → Q v { s with heap := h', toks := tk }) → wpAny (Mo w) A t Q E s) : Ev w A h n t P :=
  fun s Q E st tl q => wpAny_mono (wpAny_toks_of (Nat.le_refl s.toks) (f s (fun v s' => s.toks ≤ s'.toks → Q v s') (fun _ _ => False) st tl fun v h' tk st' p tl' => q v h' tk st' tl' (p tl'))) (fun _ _ x => x.2 x.1) fun _ _ x => x.2.elim

section
variable {prog : Program} {w : World} {A : Around} {E : Value → Shared → Prop} {s : Shared} {env : Env}
theorem TryI {body : List Stmt} {h₀ : ExceptHandler} {hs : List ExceptHandler} {pos : Pos} {Q : Flow → Shared → Prop}
    (h : ∀ E', wpAny (model prog w) A (execs body env) Q E' s) : wpAny (model prog w) A (exec (.Try body (h₀ :: hs) [] [] pos) env) Q E s :=
  wpAny_Try_except (wpAny_mono (h _) (fun f s' q => by cases f <;> first | exact wpAny_execs_nil q | exact q) fun _ _ e => e)
end
/-- what follows a statement -/
def Then (w : World) (A : Around) (env : Env) (E : Value → Shared → Prop) (rest : List Stmt) (Q : Flow → Shared → Prop) (f : Flow) (s' : Shared) : Prop :=
  match f with | .next => wpAny (Mo w) A (execs rest env) Q E s' | f => Q f s'

section
variable {w : World} {A : Around} {s : Shared} {h : Heap} {n : Nat} {env : Env} {h₀ : Heap} {m : Str → Option Value} {news : List (Addr × Obj)} {E : Value → Shared → Prop} {Q : Flow → Shared → Prop}
theorem st_cons {st : Stmt} {rest : List Stmt} (k : wpAny (Mo w) A (exec st env) (Then w A env E rest Q) E s) : wpAny (Mo w) A (execs (st :: rest) env) Q E s :=
  wpAny_execs_cons (wpAny_mono k (fun f s' q => by cases f <;> exact q) fun _ _ e => e)
theorem st_if {test : Expr} {body orelse rest : List Stmt} {pos : Pos} {c : Bool} {L : Addr} (F : Fr h₀ L h m) (N : News h₀ L h news) (hL : env.locals = L) (ht : Ev w A h n (isTrue test env (eval test env)) (Is c))
    (kt : c = true → ∀ h' tk, n ≤ tk → Fr h₀ L h' m → News h₀ L h' news → wpAny (Mo w) A (execs body env) (Then w A env E rest Q) E (put s h' tk))
    (kf : c = false → ∀ h' tk, n ≤ tk → Fr h₀ L h' m → News h₀ L h' news → wpAny (Mo w) A (execs orelse env) (Then w A env E rest Q) E (put s h' tk)) :
    wpAny (Mo w) A (execs (.If test body orelse pos :: rest) env) Q E (put s h n) := by
  subst hL
  exact st_cons (wpAny_If (ht.use (s := put s h n) fun v h' tk st tl p => by
    cases p
    cases c with
    | true => exact kt rfl h' tk tl (fr_grow F st) (news_grow N st)
    | false => exact kf rfl h' tk tl (fr_grow F st) (news_grow N st)))
theorem st_nil (k : Q .next s) : wpAny (Mo w) A (execs [] env) Q E s := wpAny_execs_nil k
theorem st_try {body rest : List Stmt} {hs : ExceptHandler} {hr : List ExceptHandler} {pos : Pos} (k : ∀ E', wpAny (Mo w) A (execs body env) (Then w A env E rest Q) E' s) :
    wpAny (Mo w) A (execs (.Try body (hs :: hr) [] [] pos :: rest) env) Q E s := st_cons (TryI k)
theorem st_pass_cont {pos : Pos} {rest : List Stmt} (k : Q .cont s) : wpAny (Mo w) A (execs (.Continue pos :: rest) env) Q E s := wpAny_execs_cons (fun _ _ _ => k)
theorem st_brk {pos : Pos} {rest : List Stmt} (k : Q .brk s) : wpAny (Mo w) A (execs (.Break pos :: rest) env) Q E s := wpAny_execs_cons (fun _ _ _ => k)
/-- x += e -/
theorem st_aug {x : Str} {p pos : Pos} {op : Operator} {e : Expr} {rest : List Stmt} {P₂ P : Value → Heap → Nat → Prop} {v₁ : Value} {L : Addr} (F : Fr h₀ L h m) (N : News h₀ L h news) (hL : env.locals = L) (hv : m x = some v₁) (he : Ev w A h n (eval e env) P₂) (uf : UpF P)
    (ho : ∀ v h' n', h.StaysIn h' → n ≤ n' → P₂ v h' n' → Ev w A h' n' (inplaceOp op v₁ v) P)
    (k : ∀ v h' tk, n ≤ tk → P v h' tk → Fr h₀ L h' (upd m x v) → News h₀ L h' news → wpAny (Mo w) A (execs rest env) Q E (put s h' tk))
    (hx : env.kindOf x = some .local) (hk : env.scope.kind = .function) : wpAny (Mo w) A (execs (.AugAssign (.Name x p) op e pos :: rest) env) Q E (put s h n) := by
  subst hL
  exact st_cons (wpAny_AugAssign_Name (wpAny_loadName_local hk hx F.ns hv (he.use (s := put s h n) fun v h₁ tk₁ st tl pv => ho v h₁ tk₁ st tl pv _ _ _ (stays_refl _) (Nat.le_refl _) fun u h₂ tk₂ st₂ tl₂ pu => by
    have F₂ := fr_grow F (stays_trans st st₂)
    have N₂ := news_grow N (stays_trans st st₂)
    exact wpAny_storeName_local hx F₂.ns (fun h' hn hs' => k u h' _ (Nat.le_succ_of_le (Nat.le_trans tl tl₂)) (uf _ _ _ _ _ pu (Nat.le_succ _)) (F₂.set hn hs') (N₂.set hs')) (by rw [hk]; rfl))))
theorem op_iaddS {a b : Str} {va vb : Value} {h : Heap} {n : Nat} (W : Wd w h n) (pa : IsS a va h n) (pb : IsS b vb h n) (hz : a.length + b.length ≤ sizeLine) : Ev w A h n (inplaceOp .Add va vb) (IsS (a ++ b)) := by
  obtain ⟨t, rfl, t1, t2⟩ := pa
  obtain ⟨u, rfl, u1, u2⟩ := pb
  refine .of fun s Q E st tl q => PySem.P.iadd_str (made_str (x := a ++ b) ?_ (Nat.lt_of_lt_of_le W.pos tl) q)
  by_cases e1 : (a.length == 0) = true
  · rw [if_pos e1]
    have ha : a = Str.empty := str_nil (by simpa using e1)
    exact .inl ⟨_, rfl, u, by rw [ha, Str.empty_append], u1, Nat.lt_of_lt_of_le u2 tl⟩
  · rw [if_neg e1]
    by_cases e2 : (b.length == 0) = true
    · rw [if_pos e2]
      have hb : b = Str.empty := str_nil (by simpa using e2)
      exact .inl ⟨_, rfl, t, by rw [hb, Str.append_empty], t1, Nat.lt_of_lt_of_le t2 tl⟩
    · rw [if_neg e2]
      exact .inr ⟨rfl, by rw [Str.length_append]; exact hz⟩
theorem op_iaddI {a b : Int} {va vb : Value} {h : Heap} {n : Nat} (pa : IsI a va h n) (pb : IsI b vb h n) : Ev w A h n (inplaceOp .Add va vb) (IsI (a + b)) := by
  obtain ⟨t, rfl⟩ := pa
  obtain ⟨u, rfl⟩ := pb
  exact .of fun s Q E st tl q => wpAny_iadd_int (q _ _ (Nat.le_succ _) ⟨_, rfl⟩)
end

local macro_rules | `(tactic| walk_at "mine:def") => `(tactic| (
  (case ho => with_unfolding_all rfl)
  (case hc => with_unfolding_all rfl)
  (case hb => with_unfolding_all rfl)
  (case hl => exact locs (by with_unfolding_all rfl))
  (case c2 => exact rfl)
  (case c3 => exact rfl)
  (case c4 => exact rfl)
  (case c5 => decide)))
section
variable {w : World} {A : Around} {h : Heap} {n : Nat} {a b : Int} {va vb : Value}
theorem add_ev (W : Wd w h n) (r : Rm 1 A) (ha : IsI a va h n) (hb : IsI b vb h n) : Ev w A h n (call (.ref 148) [va, vb]) (IsI (a + b)) := by
  refine' ev_def (binds := [(Str.ofString "a", va), (Str.ofString "b", vb)]) W ?ho ?hc r ?hb ?hl ?_ ?c2 ?c3 ?c4 ?c5
  walk_at "mine:def"
  intro A' L s₀ s h₁ n₁ Qf Ef r' st tl W' F N q
  exact st_ret (ev_addI (ev_local F.ns rfl (ufI _ _ _ _ _ ha tl) upI rfl rfl (by decide)) (ev_local F.ns rfl (ufI _ _ _ _ _ hb tl) upI rfl rfl (by decide))) (fun v h' tk st' tl' p => q v h' tk (stays_trans F.keep st') tl' p)
theorem sub_ev (W : Wd w h n) (r : Rm 1 A) (ha : IsI a va h n) (hb : IsI b vb h n) : Ev w A h n (call (.ref 176) [va, vb]) (IsI (a - b)) := by
  refine' ev_def (binds := [(Str.ofString "a", va), (Str.ofString "b", vb)]) W ?ho ?hc r ?hb ?hl ?_ ?c2 ?c3 ?c4 ?c5
  walk_at "mine:def"
  intro A' L s₀ s h₁ n₁ Qf Ef r' st tl W' F N q
  exact st_ret (ev_subI (ev_local F.ns rfl (ufI _ _ _ _ _ ha tl) upI rfl rfl (by decide)) (ev_local F.ns rfl (ufI _ _ _ _ _ hb tl) upI rfl rfl (by decide))) (fun v h' tk st' tl' p => q v h' tk (stays_trans F.keep st') tl' p)
theorem mul_ev (W : Wd w h n) (r : Rm 1 A) (ha : IsI a va h n) (hb : IsI b vb h n) (hm : a.natAbs < 1073741824) : Ev w A h n (call (.ref 162) [va, vb]) (IsI (a * b)) := by
  refine' ev_def (binds := [(Str.ofString "a", va), (Str.ofString "b", vb)]) W ?ho ?hc r ?hb ?hl ?_ ?c2 ?c3 ?c4 ?c5
  walk_at "mine:def"
  intro A' L s₀ s h₁ n₁ Qf Ef r' st tl W' F N q
  exact st_ret (ev_mulI (ev_local F.ns rfl (ufI _ _ _ _ _ ha tl) upI rfl rfl (by decide)) (ev_local F.ns rfl (ufI _ _ _ _ _ hb tl) upI rfl rfl (by decide)) (mulOk hm)) (fun v h' tk st' tl' p => q v h' tk (stays_trans F.keep st') tl' p)
theorem floordiv_ev (W : Wd w h n) (r : Rm 1 A) (ha : IsI a va h n) (hb : IsI b vb h n) (h0 : b ≠ 0) (hm : b.natAbs < 1073741824) : Ev w A h n (call (.ref 155) [va, vb]) (IsI (a.fdiv b)) := by
  refine' ev_def (binds := [(Str.ofString "a", va), (Str.ofString "b", vb)]) W ?ho ?hc r ?hb ?hl ?_ ?c2 ?c3 ?c4 ?c5
  walk_at "mine:def"
  intro A' L s₀ s h₁ n₁ Qf Ef r' st tl W' F N q
  exact st_ret (ev_divI (ev_local F.ns rfl (ufI _ _ _ _ _ ha tl) upI rfl rfl (by decide)) (ev_local F.ns rfl (ufI _ _ _ _ _ hb tl) upI rfl rfl (by decide)) h0 hm) (fun v h' tk st' tl' p => q v h' tk (stays_trans F.keep st') tl' p)
theorem neg_ev (W : Wd w h n) (r : Rm 1 A) (ha : IsI a va h n) : Ev w A h n (call (.ref 169) [va]) (IsI (-a)) := by
  refine' ev_def (binds := [(Str.ofString "a", va)]) W ?ho ?hc r ?hb ?hl ?_ ?c2 ?c3 ?c4 ?c5
  walk_at "mine:def"
  intro A' L s₀ s h₁ n₁ Qf Ef r' st tl W' F N q
  exact st_ret (ev_negI (ev_local F.ns rfl (ufI _ _ _ _ _ ha tl) upI rfl rfl (by decide))) (fun v h' tk st' tl' p => q v h' tk (stays_trans F.keep st') tl' p)
end

section
variable {w : World} {A : Around} {h : Heap} {n : Nat} {env : Env}

/-- comparisons -/
theorem ev_cmp {l r : Expr} {op : CmpOp} {pos : Pos} {P₁ P₂ P : Value → Heap → Nat → Prop} (h1 : Ev w A h n (eval l env) P₁) (h2 : Ev w A h n (eval r env) P₂) (up : Up P₁) (ho : ∀ a b h' n', h.StaysIn h' → n ≤ n' → P₁ a h' n' → P₂ b h' n' → Ev w A h' n' (compareOp op a b) P)
    (hm : behindInMarks op r = false) : Ev w A h n (eval (.Compare l [op] [r] pos) env) P := .two (fun s Q E x => wpAny_Compare1 x hm) h1 h2 up ho
theorem ev_isCmp {l r : Expr} {op : CmpOp} {pos : Pos} {whole : Sem Value} {P₁ P₂ : Value → Heap → Nat → Prop} {c : Bool} (h1 : Ev w A h n (eval l env) P₁) (h2 : Ev w A h n (eval r env) P₂) (up : Up P₁) (ho : ∀ a b h' n', h.StaysIn h' → n ≤ n' → P₁ a h' n' → P₂ b h' n' → Ev w A h' n' (compareOp op a b) (IsB c))
    (hm : behindInMarks op r = false) : Ev w A h n (isTrue (.Compare l [op] [r] pos) env whole) (Is c) :=
  fun s Q E st tl q => wpAny_isTrue_Compare1 (h1 s _ E st tl fun a h' tk st' tl' p => h2 _ _ E (stays_trans st st') (Nat.le_trans tl tl') fun b h'' tk' st'' tl'' p' =>
    ho a b h'' tk' (stays_trans (stays_trans st st') st'') (Nat.le_trans (Nat.le_trans tl tl') tl'') (up _ _ _ _ _ p st'' tl'') p' _ _ _ (stays_refl _) (Nat.le_refl _) fun v h₃ tk₃ st₃ tl₃ pv => by
      cases pv; exact wpAny_truthy_bool (q c h₃ tk₃ (stays_trans st' (stays_trans st'' st₃)) (Nat.le_trans tl' (Nat.le_trans tl'' tl₃)) rfl)) hm
theorem cmp_eqS {x y : Str} {a b : Value} (pa : IsS x a h n) (pb : IsS y b h n) : Ev w A h n (compareOp .Eq a b) (IsB (x == y)) := by
  obtain ⟨_, rfl, _⟩ := pa; obtain ⟨_, rfl, _⟩ := pb; exact .val _ (fun s Q E st tl q => eq_str q) (fun _ _ _ _ => rfl)
theorem cmp_neS {x y : Str} {a b : Value} (pa : IsS x a h n) (pb : IsS y b h n) : Ev w A h n (compareOp .NotEq a b) (IsB (x != y)) := by
  obtain ⟨_, rfl, _⟩ := pa; obtain ⟨_, rfl, _⟩ := pb; exact .val _ (fun s Q E st tl q => ne_str q) (fun _ _ _ _ => rfl)
theorem cmp_eqI {x y : Int} {a b : Value} (pa : IsI x a h n) (pb : IsI y b h n) : Ev w A h n (compareOp .Eq a b) (IsB (x == y)) := by
  obtain ⟨_, rfl⟩ := pa; obtain ⟨_, rfl⟩ := pb; exact .val _ (fun s Q E st tl q => eq_int q) (fun _ _ _ _ => rfl)
theorem cmp_neI {x y : Int} {a b : Value} (pa : IsI x a h n) (pb : IsI y b h n) : Ev w A h n (compareOp .NotEq a b) (IsB (x != y)) := by
  obtain ⟨_, rfl⟩ := pa; obtain ⟨_, rfl⟩ := pb; exact .val _ (fun s Q E st tl q => ne_int q) (fun _ _ _ _ => rfl)
theorem cmp_gtI {x y : Int} {a b : Value} (pa : IsI x a h n) (pb : IsI y b h n) : Ev w A h n (compareOp .Gt a b) (IsB (decide (y < x))) := by
  obtain ⟨_, rfl⟩ := pa; obtain ⟨_, rfl⟩ := pb; exact .val _ (fun s Q E st tl q => gt_int q) (fun _ _ _ _ => rfl)

/-- truth -/
theorem truthyS {x : Str} {v : Value} (p : IsS x v h n) (hz : x.length ≤ sizeLine) : Ev w A h n (truthy v) (Is (x.length != 0)) := by
  obtain ⟨_, rfl, _⟩ := p
  refine .of fun s Q E st tl q => PySem.P.truthy_str (by rw [sizeLine_eq] at hz; omega) ?_
  have e : ((x.length : Int) != 0) = (x.length != 0) := by
    cases x.length <;> rfl
  rw [e]; exact q _ _ (by omega) rfl
theorem truthyB {b : Bool} {v : Value} (p : IsB b v h n) : Ev w A h n (truthy v) (Is b) := by
  cases p; exact .val _ (fun s Q E st tl q => wpAny_truthy_bool q) (fun _ _ _ _ => rfl)
theorem ev_isPlain {e : Expr} {P : Value → Heap → Nat → Prop} {c : Bool} (h1 : Ev w A h n (eval e env) P) (ht : ∀ v h' n', h.StaysIn h' → n ≤ n' → P v h' n' → Ev w A h' n' (truthy v) (Is c))
    (he : isTrue e env (eval e env) = (do let v ← eval e env; standAt e.pos; holding [v] (truthy v))) : Ev w A h n (isTrue e env (eval e env)) (Is c) :=
  .then (fun s Q E x => isTrue_plain x he) h1 ht
theorem ev_isB {e : Expr} {c : Bool} (h1 : Ev w A h n (eval e env) (IsB c)) (he : isTrue e env (eval e env) = (do let v ← eval e env; standAt e.pos; holding [v] (truthy v))) : Ev w A h n (isTrue e env (eval e env)) (Is c) :=
  ev_isPlain h1 (fun v h' n' _ _ p => truthyB p) he
theorem ev_isS {e : Expr} {x : Str} (h1 : Ev w A h n (eval e env) (IsS x)) (hz : x.length ≤ sizeLine) (he : isTrue e env (eval e env) = (do let v ← eval e env; standAt e.pos; holding [v] (truthy v))) : Ev w A h n (isTrue e env (eval e env)) (Is (x.length != 0)) :=
  ev_isPlain h1 (fun v h' n' _ _ p => truthyS p hz) he
theorem ev_isNot {e : Expr} {pos : Pos} {whole : Sem Value} {c : Bool} (h1 : Ev w A h n (isTrue e env (eval e env)) (Is c)) : Ev w A h n (isTrue (.UnaryOp .Not e pos) env whole) (Is (!c)) :=
  fun s Q E st tl q => isTrue_not (h1 s _ E st tl fun v h' tk st' tl' p => by cases p; exact q _ h' tk st' tl' rfl)
theorem ev_isOr {a b : Expr} {pos : Pos} {whole : Sem Value} {c d : Bool} (h1 : Ev w A h n (isTrue a env (eval a env)) (Is c)) (h2 : c = false → Ev w A h n (isTrue b env (eval b env)) (Is d)) : Ev w A h n (isTrue (.BoolOp .Or [a, b] pos) env whole) (Is (c || d)) :=
  fun s Q E st tl q => isTrue_or (h1 s _ E st tl fun v h' tk st' tl' p => by
    cases p
    cases c with
    | true => exact q true h' tk st' tl' rfl
    | false => exact isTrue_or (h2 rfl _ _ E (stays_trans st st') (Nat.le_trans tl tl') fun v h'' tk' st'' tl'' p => by
        cases p
        cases d with
        | true => exact q true h'' tk' (stays_trans st' st'') (Nat.le_trans tl' tl'') rfl
        | false => exact isTrue_or_nil (q false h'' tk' (stays_trans st' st'') (Nat.le_trans tl' tl'') rfl)))
theorem ev_isAnd {a b : Expr} {pos : Pos} {whole : Sem Value} {c d : Bool} (h1 : Ev w A h n (isTrue a env (eval a env)) (Is c)) (h2 : c = true → Ev w A h n (isTrue b env (eval b env)) (Is d)) : Ev w A h n (isTrue (.BoolOp .And [a, b] pos) env whole) (Is (c && d)) :=
  fun s Q E st tl q => isTrue_and (h1 s _ E st tl fun v h' tk st' tl' p => by
    cases p
    cases c with
    | false => exact q false h' tk st' tl' rfl
    | true => exact isTrue_and (h2 rfl _ _ E (stays_trans st st') (Nat.le_trans tl tl') fun v h'' tk' st'' tl'' p => by
        cases p
        cases d with
        | false => exact q false h'' tk' (stays_trans st' st'') (Nat.le_trans tl' tl'') rfl
        | true => exact isTrue_and_nil (q true h'' tk' (stays_trans st' st'') (Nat.le_trans tl' tl'') rfl)))
/-- an or whose first part is true already -/
theorem ev_isOrT {a : Expr} {rest : List Expr} {pos : Pos} {whole : Sem Value} (h1 : Ev w A h n (isTrue a env (eval a env)) (Is true)) : Ev w A h n (isTrue (.BoolOp .Or (a :: rest) pos) env whole) (Is true) :=
  fun s Q E st tl q => isTrue_or (h1 s _ E st tl fun v h' tk st' tl' p => by cases p; exact q true h' tk st' tl' rfl)
theorem ev_ifExp {t a b : Expr} {pos : Pos} {c : Bool} {P : Value → Heap → Nat → Prop} (h1 : Ev w A h n (isTrue t env (eval t env)) (Is c)) (h2 : c = true → Ev w A h n (eval a env) P) (h3 : c = false → Ev w A h n (eval b env) P) : Ev w A h n (eval (.IfExp t a b pos) env) P :=
  fun s Q E st tl q => wpAny_IfExp (h1 s _ E st tl fun v h' tk st' tl' p => by
    cases p
    cases c with
    | true => exact h2 rfl _ _ E (stays_trans st st') (Nat.le_trans tl tl') fun v h'' tk' st'' tl'' p => q v h'' tk' (stays_trans st' st'') (Nat.le_trans tl' tl'') p
    | false => exact h3 rfl _ _ E (stays_trans st st') (Nat.le_trans tl tl') fun v h'' tk' st'' tl'' p => q v h'' tk' (stays_trans st' st'') (Nat.le_trans tl' tl'') p)

/-- a method of a text, one argument -/
theorem ev_methS {o e : Expr} {name : Str} {apos pos : Pos} {id : String} {B : Builtin} {x : Str} {P₂ P : Value → Heap → Nat → Prop} (slot : Slot "str" name id) (ty : typeOf (.builtin id) = pure (.type "method_descriptor")) (entry : entryFor table id = some B)
    (h1 : Ev w A h n (eval o env) (IsS x)) (h2 : Ev w A h n (eval e env) P₂)
    (hg : ∀ t v h' n' (s : Shared) (Q : Value → Shared → Prop), h.StaysIn h' → n ≤ n' → IsS x (.str x t) h' n' → P₂ v h' n' → s.heap = h' → n' = s.toks → (∀ u tk, s.toks ≤ tk → P u s.heap tk → Q u { s with toks := tk }) →
      argsOk id ⟨[.str x t, v], []⟩ ∧ ∃ m, Gives (B ⟨[.str x t, v], []⟩) m ∧ m.post Q s)
    (hbase : attributeBase o name env (eval o env) = eval o env) (hs : starEach [e] env = [(false, eval e env)]) (hline : (apos.endLine == pos.line) = true) :
    Ev w A h n (eval (.Call (.Attribute o name apos) [e] [] pos) env) P :=
  fun s Q E st tl q => Call_method1 hbase hs hline (h1 s _ E st tl fun v h' tk st' tl' p => by
    obtain ⟨t, rfl, t1, t2⟩ := p
    exact .str1 slot ty entry (h2 _ _ E (stays_trans st st') (Nat.le_trans tl tl') fun v h'' tk' st'' tl'' p' =>
      hg t v h'' tk' _ _ (stays_trans (stays_trans st st') st'') (Nat.le_trans (Nat.le_trans tl tl') tl'') ⟨t, rfl, t1, Nat.lt_of_lt_of_le t2 tl''⟩ p' rfl rfl fun u tk₃ tl₃ pu => q u h'' tk₃ (stays_trans st' st'') (Nat.le_trans tl' (Nat.le_trans tl'' tl₃)) pu))
theorem ev_startswith {o e : Expr} {apos pos : Pos} {x y : Str} (h1 : Ev w A h n (eval o env) (IsS x)) (h2 : Ev w A h n (eval e env) (IsS y))
    (hbase : attributeBase o "startswith" env (eval o env) = eval o env) (hs : starEach [e] env = [(false, eval e env)]) (hline : (apos.endLine == pos.line) = true) :
    Ev w A h n (eval (.Call (.Attribute o "startswith" apos) [e] [] pos) env) (IsB (Txt.startswith x y)) :=
  ev_methS F.slot_str_startswith F.type_str_startswith F.entry_str_startswith h1 h2 (fun t v h' n' s Q _ _ _ p e1 e2 q => by
    obtain ⟨u, rfl, _⟩ := p; exact ⟨F.args_str_startswith_2 _ _, _, gives_str_startswith x y t u, q _ s.toks (Nat.le_refl _) rfl⟩) hbase hs hline
theorem ev_endswith {o e : Expr} {apos pos : Pos} {x y : Str} (h1 : Ev w A h n (eval o env) (IsS x)) (h2 : Ev w A h n (eval e env) (IsS y))
    (hbase : attributeBase o "endswith" env (eval o env) = eval o env) (hs : starEach [e] env = [(false, eval e env)]) (hline : (apos.endLine == pos.line) = true) :
    Ev w A h n (eval (.Call (.Attribute o "endswith" apos) [e] [] pos) env) (IsB (Txt.endswith x y)) :=
  ev_methS F.slot_str_endswith F.type_str_endswith F.entry_str_endswith h1 h2 (fun t v h' n' s Q _ _ _ p e1 e2 q => by
    obtain ⟨u, rfl, _⟩ := p; exact ⟨F.args_str_endswith_2 _ _, _, gives_str_endswith x y t u, q _ s.toks (Nat.le_refl _) rfl⟩) hbase hs hline
theorem ev_rfind {o e : Expr} {apos pos : Pos} {x y : Str} (h1 : Ev w A h n (eval o env) (IsS x)) (h2 : Ev w A h n (eval e env) (IsS y))
    (hbase : attributeBase o "rfind" env (eval o env) = eval o env) (hs : starEach [e] env = [(false, eval e env)]) (hline : (apos.endLine == pos.line) = true) :
    Ev w A h n (eval (.Call (.Attribute o "rfind" apos) [e] [] pos) env) (IsI (Txt.rfind x y)) :=
  ev_methS F.slot_str_rfind F.type_str_rfind F.entry_str_rfind h1 h2 (fun t v h' n' s Q _ _ _ p e1 e2 q => by
    obtain ⟨u, rfl, _⟩ := p; exact ⟨F.args_str_rfind_2 _ _, _, gives_str_rfind x y t u, q _ (s.toks + 1) (Nat.le_succ _) ⟨_, rfl⟩⟩) hbase hs hline
theorem ev_rstrip {o e : Expr} {apos pos : Pos} {x y : Str} (W : Wd w h n) (hz : x.length ≤ sizeLine) (h1 : Ev w A h n (eval o env) (IsS x)) (h2 : Ev w A h n (eval e env) (IsS y))
    (hbase : attributeBase o "rstrip" env (eval o env) = eval o env) (hs : starEach [e] env = [(false, eval e env)]) (hline : (apos.endLine == pos.line) = true) :
    Ev w A h n (eval (.Call (.Attribute o "rstrip" apos) [e] [] pos) env) (IsS (Txt.rstripChars x y)) :=
  ev_methS F.slot_str_rstrip F.type_str_rstrip F.entry_str_rstrip h1 h2 (fun t v h' n' s Q _ l px p e1 e2 q => by
    obtain ⟨u, rfl, _⟩ := p
    refine ⟨F.args_str_rstrip_2 _ _, _, gives_str_rstrip_chars x y t u, made_str (x := Txt.rstripChars x y) ?_ (by rw [← e2]; exact Nat.lt_of_lt_of_le W.pos l) q⟩
    unfold Txt.rstripChars Txt.stripBy
    by_cases c : PySem.stripSame y.cps.contains false true x = true
    · rw [if_pos c, if_pos c]; exact .inl ⟨_, rfl, by obtain ⟨t', e', a, b⟩ := px; cases e'; exact ⟨_, rfl, a, by rw [← e2]; exact b⟩⟩
    · rw [if_neg c, if_neg c]; exact .inr ⟨rfl, fits_stripped _ _ _ hz⟩) hbase hs hline

/-- a slice of a text -/
def PartV (o : Option Int) : Value → Heap → Nat → Prop := fun v _ _ => match o with | none => v = .none | some i => ∃ t, v = .int i t
theorem ev_part0 : Ev w A h n (evalPart none env) (PartV none) := .val .none (fun s Q E st tl q => by rw [evalPart_none]; exact wpAny_pure q) (fun _ _ _ _ => rfl)
theorem ev_part1 {e : Expr} {i : Int} (h1 : Ev w A h n (eval e env) (IsI i)) : Ev w A h n (evalPart (some e) env) (PartV (some i)) := h1
theorem partV_eq {o : Option Int} {v : Value} {h : Heap} {n : Nat} (p : PartV o v h n) : ∃ l : Option (Int × Tok), v = partValue l ∧ l.map (·.1) = o := by
  cases o with
  | none => exact ⟨none, p, rfl⟩
  | some i => obtain ⟨t, e⟩ := p; exact ⟨some (i, t), e, rfl⟩
theorem ev_slice {value : Expr} {lower upper : Option Expr} {p pos : Pos} {x : Str} {i j : Option Int} (W : Wd w h n) (hz : x.length ≤ sizeLine) (h1 : Ev w A h n (eval value env) (IsS x)) (h2 : Ev w A h n (evalPart lower env) (PartV i)) (h3 : Ev w A h n (evalPart upper env) (PartV j))
    (ht : ∀ o r, letTemporaryGo value o r = pure ()) : Ev w A h n (eval (.Subscript value (.Slice lower upper none p) pos) env) (IsS (Txt.slice x i j)) :=
  fun s Q E st tl q => wpAny_Subscript_str_slice (h1 s _ E st tl fun o h' tk st' tl' po => h2 _ _ E (stays_trans st st') (Nat.le_trans tl tl') fun vl h'' tk' st'' tl'' pl =>
    h3 _ _ E (stays_trans (stays_trans st st') st'') (Nat.le_trans (Nat.le_trans tl tl') tl'') fun vu h₃ tk₃ st₃ tl₃ pu => by
      obtain ⟨t, rfl, t1, t2⟩ := po
      obtain ⟨l, rfl, el⟩ := partV_eq pl
      obtain ⟨u, rfl, eu⟩ := partV_eq pu
      refine ⟨x, t, l, u, rfl, rfl, rfl, ?_⟩
      have hw : 0 < tk₃ := Nat.lt_of_lt_of_le W.pos (Nat.le_trans tl (Nat.le_trans tl' (Nat.le_trans tl'' tl₃)))
      have up : h₃.StaysIn (h₃.push { cls := .type "slice", data := .fields #[partValue l, partValue u, .none] }) := fun b o' e => Heap.get?_push_of_some _ e
      refine made_str (x := Txt.slice x i j) ?_ hw fun v tk₄ tl₄ pv => q v _ tk₄ (stays_trans st' (stays_trans st'' (stays_trans st₃ up))) (Nat.le_trans tl' (Nat.le_trans tl'' (Nat.le_trans tl₃ tl₄))) pv
      have hle := Txt.slice_le x i j
      unfold sliceMade slicePicked Txt.slice at *
      rw [el, eu]
      show (∃ v, (if (((1 : Int) == 1 && _) = true) then _ else _) = _ ∧ _) ∨ _
      by_cases c : (((1 : Int) == 1 && (Builtin.Str.strSliceIndices i j 1 x.length).length == x.length) = true)
      · rw [if_pos c]; exact .inl ⟨_, if_pos c, t, rfl, t1, Nat.lt_of_lt_of_le t2 (Nat.le_trans tl'' tl₃)⟩
      · rw [if_neg c] at hle ⊢; exact .inr ⟨if_neg c, Nat.le_trans hle hz⟩) ht

/-- isinstance of a text against bytes -/
theorem ev_notBytes {e : Expr} {p p2 pos : Pos} {x : Str} (W : Wd w h n) (h1 : Ev w A h n (eval e env) (IsS x)) (h2 : Ev w A h n (eval (.Name "bytes" p2) env) (Is (.type "bytes"))) (h0 : Ev w A h n (eval (.Name "isinstance" p) env) (Is (.builtin "isinstance")))
    (he : starEach [e, .Name "bytes" p2] env = (false, eval e env) :: starEach [.Name "bytes" p2] env) :
    Ev w A h n (eval (.Call (.Name "isinstance" p) [e, .Name "bytes" p2] [] pos) env) (IsB false) :=
  .then (g := fun f => callWith pos f [] (backTo pos (starEach [e, .Name "bytes" p2] env)) []) (fun s Q E x => Call_Name rfl x) h0 fun f h' n' k l ef => by
    cases ef
    refine .then (fun s Q E x => callWith_builtin1 x he rfl) ((ev_args2 h1 h2 upS he rfl).grow k l) fun vs h'' n'' k' l' p => ?_
    obtain ⟨v₁, v₂, rfl, ⟨t, rfl, _⟩, rfl⟩ := p
    exact .of fun s Q E st tl q => call_isinstance (isinstance_false_str (by decide) (by kernel_rfl) (by rw [isSubtype_type]; kernel_rfl)) (q _ _ (Nat.le_succ _) rfl)
end

section
variable {w : World} {A : Around} {h h₀ : Heap} {n : Nat} {env : Env} {m : Str → Option Value}
theorem lS {x y : Str} {pos : Pos} {v : Value} {L : Addr} (F : Fr h₀ L h m) (p : IsS y v h n) (hv : m x = some v := by rfl) (hL : env.locals = L := by rfl) (hk : env.scope.kind = .function := by rfl) (hl : env.kindOf x = some .local := by rfl) (hd : (x == ("__debug__" : Str)) = false := by decide) :
    Ev w A h n (eval (.Name x pos) env) (IsS y) 
    := ev_local (by rw [hL]; exact F.ns) hv p upS hk hl hd
theorem lI {x : Str} {i : Int} {pos : Pos} {v : Value} {L : Addr} (F : Fr h₀ L h m) (p : IsI i v h n) (hv : m x = some v := by rfl) (hL : env.locals = L := by rfl) (hk : env.scope.kind = .function := by rfl) (hl : env.kindOf x = some .local := by rfl) (hd : (x == ("__debug__" : Str)) = false := by decide) :
    Ev w A h n (eval (.Name x pos) env) (IsI i) 
    := ev_local (by rw [hL]; exact F.ns) hv p upI hk hl hd
theorem lV {x : Str} {pos : Pos} {v : Value} {L : Addr} (F : Fr h₀ L h m) (hv : m x = some v := by rfl) (hL : env.locals = L := by rfl) (hk : env.scope.kind = .function := by rfl) (hl : env.kindOf x = some .local := by rfl) (hd : (x == ("__debug__" : Str)) = false := by decide) :
    Ev w A h n (eval (.Name x pos) env) (Is v) 
    := ev_local (by rw [hL]; exact F.ns) hv rfl upIs hk hl hd
theorem c1 {f : Str} {a : Addr} {p pos : Pos} {e : Expr} {P P₁ : Value → Heap → Nat → Prop} (D : IsDef w f a) (W : Wd w h n)
    (h1 : Ev w A h n (eval e env) P₁) (hc : ∀ v h' n', Wd w h' n' → h.StaysIn h' → n ≤ n' → P₁ v h' n' → Ev w A h' n' (call (.ref a) [v]) P)
    (hk : env.scope.kind = .function := by rfl) (hl : env.kindOf f = some .globalImplicit := by rfl) (hg : env.globals = mainGlobals := by rfl) (hd : (f == ("__debug__" : Str)) = false := by decide)
    (he : starEach [e] env = [(false, eval e env)] := by rfl) : Ev w A h n (eval (.Call (.Name f p) [e] [] pos) env) P :=
  ev_call1 D W h1 (fun v h' n' k l => hc v h' n' (W.keeps k l) k l) hk hl hg hd he
theorem c2 {f : Str} {a : Addr} {p pos : Pos} {e₁ e₂ : Expr} {P P₁ P₂ : Value → Heap → Nat → Prop} (D : IsDef w f a) (W : Wd w h n)
    (h1 : Ev w A h n (eval e₁ env) P₁) (h2 : Ev w A h n (eval e₂ env) P₂) (up : Up P₁) (hc : ∀ v₁ v₂ h' n', Wd w h' n' → h.StaysIn h' → n ≤ n' → P₁ v₁ h' n' → P₂ v₂ h' n' → Ev w A h' n' (call (.ref a) [v₁, v₂]) P)
    (hk : env.scope.kind = .function := by rfl) (hl : env.kindOf f = some .globalImplicit := by rfl) (hg : env.globals = mainGlobals := by rfl) (hd : (f == ("__debug__" : Str)) = false := by decide)
    (he : starEach [e₁, e₂] env = (false, eval e₁ env) :: starEach [e₂] env := by rfl) (he2 : starEach [e₂] env = [(false, eval e₂ env)] := by rfl) : Ev w A h n (eval (.Call (.Name f p) [e₁, e₂] [] pos) env) P :=
  ev_call2 D W h1 h2 up (fun v₁ v₂ h' n' k l => hc v₁ v₂ h' n' (W.keeps k l) k l) hk hl hg hd he he2
end
theorem wd_at {w : World} {h₀ h : Heap} {L : Addr} {m : Str → Option Value} {n n' : Nat} (W : Wd w h₀ n) (F : Fr h₀ L h m) (l : n ≤ n') : Wd w h n' := W.keeps F.keep l

/-- a def with a rest tuple -/
theorem ev_defR {w : World} {A : Around} {h : Heap} {n₀ : Nat} {name qual : Str} {params : Arguments} {body : List Stmt} {scope : Scope} {dV kV doc pm cdv ct oc : Value} {an od : Option Addr} {osl : Array (Option Value)} {f : Addr} {args : List Value} {o : Obj} {binds : Addr → List (Str × Value)} {n : Nat} {P : Value → Heap → Nat → Prop}
    (W : Wd w h n₀) (ho : (KK w.params).lookup f = some ⟨oc, od, .func (fnOf name qual params body scope dV kV doc pm an cdv ct), osl⟩) (hcd : codeIn (KK w.params) cdv qual = true) (r : Rm (n + 1) A)
    (hbind : ∀ (M : Model) (A : Around) (E : Value → Shared → Prop) (Q : List (Str × Value) → Shared → Prop) (s : Shared), Q (binds s.heap.objs.size) { s with heap := s.heap.push o } → wpAny M A (bindArgs (fnOf name qual params body scope dV kV doc pm an cdv ct) ⟨args, []⟩) Q E s)
    (hfree : o.isFreed = false) (hloc : ∀ D, ∀ y ∈ binds D, scope.names.lookup y.1 = some .local)
    (body_ : ∀ D A' L s₀ s h₁ n₁ Qf Ef, Rm n A' → h.StaysIn s₀ → n₀ ≤ n₁ → Wd w s₀ n₁ → Fr s₀ L h₁ (fun y => (binds D).reverse.lookup y) → News s₀ L h₁ [(D, o)] → (∀ v h' tk, s₀.StaysIn h' → n₁ ≤ tk → P v h' tk → Qf (.ret v) (put s h' tk)) →
      wpAny (Mo w) A' (execs body (envOf qual scope L f cdv)) Qf Ef (put s h₁ n₁))
    (hco : scope.isCoroutine = false) (hgen : scope.isGenerator = false) (hk : scope.kind = .function) (hcell : ∀ x ∈ scope.names, x.2 ≠ .cell) : Ev w A h n₀ (call (.ref f) args) P :=
  fun s Q E st tl q => by
    have W' := W.keeps st tl
    obtain ⟨_, _, _, _, _, T⟩ := W'.T
    refine wpAny_call (enterR (bindsR := binds) W'.X T ho hcd r (fun M A E Q x => hbind M A E Q s x) hfree hloc (fun D A' Qf Ef L h₁ tk tk' r' hQ F N => ?_) hco hgen hk hcell)
    exact body_ D A' L s.heap s h₁ tk Qf Ef r' st (Nat.le_trans tl tk') (W'.keeps (stays_refl _) tk') F N fun v h' tk₁ st' tl' p => hQ _ _ (q v h' tk₁ st' (Nat.le_trans tk' tl') p)

theorem none_of {h₀ h : Heap} (k : h₀.StaysIn h) {a : Addr} (e : h.get? a = none) : h₀.get? a = none := by
  cases q : h₀.get? a with
  | none => rfl
  | some o => rw [k _ _ q] at e; cases e
theorem fresh_none (h : Heap) : h.get? h.objs.size = none := by
  cases e : h.get? h.objs.size with
  | none => rfl
  | some o => exact absurd (Heap.lt_size e) (Nat.lt_irrefl _)
theorem push_stays (h : Heap) (o : Obj) : h.StaysIn (h.push o) := fun _ _ e => Heap.get?_push_of_some _ e
section
variable {w : World} {A : Around} {h : Heap} {n : Nat}
variable {env : Env}
theorem ev_tuple {elts : List Expr} {k : Nat} {pos : Pos} {R : List Value → Heap → Nat → Prop} (h1 : Ev w A h n (spliced (backTo pos (starEach elts env))) R) (up : Up R) (hz : ∀ vs h' n', R vs h' n' → vs.length ≤ sizeLine) :
    Ev w A h n (eval (.Tuple elts k pos) env) (fun v h' n' => ∃ D vs, v = .ref D ∧ h'.get? D = some (tup vs 0) ∧ h.get? D = none ∧ R vs h' n') :=
  fun s Q E st tl q => Tuple_ (h1 s _ E st tl fun vs h' tk st' tl' p => wpAny_newObj_type (q _ _ _ (stays_trans st' (push_stays _ _)) tl' ⟨_, vs, rfl, Heap.get?_push_size _ rfl, none_of (stays_trans st st') (fresh_none _), up _ _ _ _ _ p (push_stays _ _) (Nat.le_refl _)⟩) (by show vs.toArray.size ≤ sizeLine; rw [List.size_toArray]; exact hz _ _ _ p))
end
section
variable {w : World} {A : Around} {h : Heap} {n : Nat}
theorem d_fspath : IsDef w "fspath" 94 := ⟨by with_unfolding_all rfl, by with_unfolding_all rfl⟩
theorem d_getsep : IsDef w "_get_sep" 108 := ⟨by with_unfolding_all rfl, by with_unfolding_all rfl⟩
/-- a call of a built-in function by its name, two arguments -/
theorem ev_callB2 {env : Env} {f : Str} {id : String} {p pos : Pos} {e₁ e₂ : Expr} {P P₁ P₂ : Value → Heap → Nat → Prop} (h0 : Ev w A h n (eval (.Name f p) env) (Is (.builtin id)))
    (h1 : Ev w A h n (eval e₁ env) P₁) (h2 : Ev w A h n (eval e₂ env) P₂) (up : Up P₁) (hc : ∀ v₁ v₂ h' n', h.StaysIn h' → n ≤ n' → P₁ v₁ h' n' → P₂ v₂ h' n' → Ev w A h' n' (call (.builtin id) [v₁, v₂]) P)
    (he : starEach [e₁, e₂] env = (false, eval e₁ env) :: starEach [e₂] env) (he2 : starEach [e₂] env = [(false, eval e₂ env)]) : Ev w A h n (eval (.Call (.Name f p) [e₁, e₂] [] pos) env) P :=
  .then (g := fun f => callWith pos f [] (backTo pos (starEach [e₁, e₂] env)) []) (fun s Q E x => Call_Name rfl x) h0 fun f h' n' k l ef => by
    cases ef
    refine .then (fun s Q E x => callWith_builtin1 x he (by rw [he2]; rfl)) ((ev_args2 h1 h2 up he he2).grow k l) fun vs h'' n'' k' l' p => ?_
    obtain ⟨v₁, v₂, rfl, p₁, p₂⟩ := p
    exact hc v₁ v₂ h'' n'' (stays_trans k k') (Nat.le_trans l l') p₁ p₂
/-- a call of a type by its name -/
theorem ev_callT1 {env : Env} {f : Str} {T : String} {p pos : Pos} {e : Expr} {P P₁ : Value → Heap → Nat → Prop} (h0 : Ev w A h n (eval (.Name f p) env) (Is (.type T)))
    (h1 : Ev w A h n (eval e env) P₁) (hc : ∀ v h' n', h.StaysIn h' → n ≤ n' → P₁ v h' n' → Ev w A h' n' (call (.type T) [v]) P)
    (he : starEach [e] env = [(false, eval e env)]) : Ev w A h n (eval (.Call (.Name f p) [e] [] pos) env) P :=
  .then (g := fun f => callWith pos f [] (backTo pos (starEach [e] env)) []) (fun s Q E x => Call_Name rfl x) h0 fun f h' n' k l ef => by
    cases ef
    refine .then (fun s Q E x => callWith_type1 x he rfl) ((ev_args1 h1 he).grow k l) fun vs h'' n'' k' l' p => ?_
    obtain ⟨v, rfl, pv⟩ := p
    exact hc v h'' n'' (stays_trans k k') (Nat.le_trans l l') pv
theorem fspath_ev0 {x : Str} {v : Value} (W : Wd w h n) (r : Rm 1 A) (p : IsS x v h n) : Ev w A h n (call (.ref 94) [v]) (Is v) := by
  refine' ev_def (binds := [(Str.ofString "path", v)]) W ?ho ?hc r ?hb ?hl ?_ ?c2 ?c3 ?c4 ?c5
  walk_at "mine:def"
  intro A' L s₀ s h₀ n₀ Qf Ef r' st tl W' F N q
  have W₁ := W'.keeps F.keep (Nat.le_refl _)
  have p' : IsS x v h₀ n₀ := ufS _ _ _ _ _ p tl
  refine st_asgV (P := Is (.type "str")) F N rfl (ev_callT1 (ev_builtin W₁ (by with_unfolding_all rfl) boot_type (by decide) rfl rfl rfl rfl (by decide)) (lS F p') (fun v h' n' _ _ pv => ?_) rfl) ufIs ?_ rfl rfl rfl
  · obtain ⟨t, rfl, _⟩ := pv
    exact .val _ (fun s Q E st tl q => call_type_of (Tx := "str") rfl (by decide +kernel) q) (fun _ _ _ _ => rfl)
  · intro vk h₁ n₁ l₁ e F₁ N₁
    cases e
    have W₂ := W'.keeps F₁.keep l₁
    refine st_if (c := true) F₁ N₁ rfl (ev_isB (ev_callB2 (ev_builtin W₂ (by with_unfolding_all rfl) Boot.issubclass (by decide) rfl rfl rfl rfl (by decide)) (lV F₁)
      (ev_tuple (ev_args2 (ev_builtin W₂ (by with_unfolding_all rfl) boot_str (by decide) rfl rfl rfl rfl (by decide)) (ev_builtin W₂ (by with_unfolding_all rfl) boot_bytes (by decide) rfl rfl rfl rfl (by decide)) upIs rfl rfl)
        (fun _ _ _ _ _ p _ _ => p) (fun vs h' n' ⟨_, _, e, _⟩ => e ▸ (by decide : 2 ≤ sizeLine))) upIs (fun v₁ v₂ h' n' _ _ e₁ e₂ => ?_) rfl rfl) rfl) (fun _ h₂ n₂ l₂ F₂ N₂ => ?_) (fun e => nomatch e)
    · cases e₁
      obtain ⟨D, vs, rfl, g, _, a, b, rfl, ea, eb⟩ := e₂
      cases ea; cases eb
      exact .val _ (fun s Q E st tl q => call_sub ⟨_, st _ _ g, rfl, 0, rfl⟩ q) (fun _ _ _ _ => rfl)
    · exact st_ret (lV F₂) fun v h' tk st' tl' pv => q v h' tk (stays_trans F₂.keep st') (Nat.le_trans l₁ (Nat.le_trans l₂ tl')) pv
theorem fspath_ev {x : Str} {v : Value} (W : Wd w h n) (r : Rm 1 A) (p : IsS x v h n) : Ev w A h n (call (.ref 94) [v]) (IsS x) := (fspath_ev0 W r p).post fun _ _ _ _ l e => by cases e; exact ufS _ _ _ _ _ p l

theorem getsep_ev {x : Str} {v : Value} (W : Wd w h n) (r : Rm 1 A) (p : IsS x v h n) : Ev w A h n (call (.ref 108) [v]) (IsS "/") := by
  refine' ev_def (binds := [(Str.ofString "path", v)]) W ?ho ?hc r ?hb ?hl ?_ ?c2 ?c3 ?c4 ?c5
  walk_at "mine:def"
  intro A' L s₀ s h₀' n₀ Qf Ef r' st tl W' F N q
  have p' : IsS x v h₀' n₀ := ufS _ _ _ _ _ p tl
  have W₁ := W'.keeps F.keep (Nat.le_refl _)
  refine st_if (c := false) F N rfl (ev_isB (ev_notBytes W₁ (ev_local F.ns rfl p' upS rfl rfl (by decide)) (ev_builtin W₁ (by with_unfolding_all rfl) boot_bytes (by decide) rfl rfl rfl rfl (by decide)) (ev_builtin W₁ (by with_unfolding_all rfl) boot_isinstance (by decide) rfl rfl rfl rfl (by decide)) rfl) rfl) (fun e => (nomatch e)) ?_
  intro _ h' tk tl' F' N'
  exact st_ret (ev_str (W'.keeps F'.keep tl')) fun v h'' tk' st'' tl'' p => q v h'' tk' (stays_trans F'.keep st'') (Nat.le_trans tl' tl'') p
end

def sSl : Str := Str.ofString "/"
def joinF (a b : Str) : Str := if Txt.startswith b sSl || (a.length == 0) then b else if Txt.endswith a sSl then a ++ b else a ++ (sSl ++ b)
theorem d_join {w : World} : IsDef w "join" 115 := ⟨by with_unfolding_all rfl, by with_unfolding_all rfl⟩
theorem join_ev {w : World} {A : Around} {h : Heap} {n : Nat} {a b : Str} {va vb : Value} (W : Wd w h n) (r : Rm 2 A) (pa : IsS a va h n) (pb : IsS b vb h n) (ha : a.length ≤ 100000) (hb : b.length ≤ 100000) : Ev w A h n (call (.ref 115) [va, vb]) (IsS (joinF a b)) := by
  refine' ev_defR (o := tup [vb] 0) (binds := fun D => [(Str.ofString "a", va), (Str.ofString "p", Value.ref D)]) W ?ho ?hc r ?hb rfl ?hl ?_ ?c2 ?c3 ?c4 ?c5
  case ho => with_unfolding_all rfl
  case hc => with_unfolding_all rfl
  case hb =>
    intro M A E Q s q
    show wpAny M A (alloc _ >>= _) Q E s
    exact wpAny_bind (wpAny_alloc (wpAny_pure q))
  case hl => exact fun D => locs (by with_unfolding_all rfl)
  case c2 => exact rfl
  case c3 => exact rfl
  case c4 => exact rfl
  case c5 => decide
  intro D A' L s₀ s h₀' n₀ Qf Ef r' st tl W' F N q
  replace pa := ufS _ _ h₀' _ _ pa tl
  replace pb := ufS _ _ h₀' _ _ pb tl
  refine st_asgV F N rfl (c1 d_fspath (wd_at W' F (Nat.le_refl _)) (lS F pa) fun v h' n' W k l p => fspath_ev W (r'.le (by decide)) p) ufS ?_ rfl rfl rfl
  intro va₁ h₁ tk₁ tl₁ pa₁ F₁ N₁
  refine st_asgV F₁ N₁ rfl (c1 d_getsep (wd_at W' F₁ tl₁) (lS F₁ pa₁) fun v h' n' W k l p => getsep_ev W (r'.le (by decide)) p) ufS ?_ rfl rfl rfl
  intro vs h₂ tk₂ tl₂ ps F₂ N₂
  replace pa₁ := ufS _ _ h₂ _ _ pa₁ tl₂
  refine st_asgV F₂ N₂ rfl (lS F₂ pa₁) ufS ?_ rfl rfl rfl
  intro vp h₃ tk₃ tl₃ pp F₃ N₃
  replace ps := ufS _ _ h₃ _ _ ps tl₃
  have tl₃' : n₀ ≤ tk₃ := Nat.le_trans tl₁ (Nat.le_trans tl₂ tl₃)
  refine st_try fun E' => st_cons (For_stop ((lV F₃).use (s := put s h₃ tk₃) fun v h₄ tk₄ st₄ tl₄ e => ?_) (fun _ => rfl))
  cases e
  have F₄ := fr_grow F₃ st₄
  have N₄ := news_grow N₃ st₄
  replace ps := ufS _ _ h₄ _ _ ps tl₄
  replace pp := ufS _ _ h₄ _ _ pp tl₄
  have tl₄' := Nat.le_trans tl₃' tl₄
  refine loop_tuple (fun i tk m nw => ∃ (q : Str) (v : Value) (rest : Str → Option Value), m = upd (upd rest (Str.ofString "sep") vs) (Str.ofString "path") v ∧ nw = [(D, tup [vb] 0)] ∧ IsS q v h₄ tk ∧ q = if i = 0 then a else joinF a b) (fun i x y m nw ⟨q, v, rest, e1, e2, e3, e4⟩ l => ⟨q, v, rest, e1, e2, ufS _ _ _ _ _ e3 l, e4⟩) r'.hh (.inr ⟨List.Mem.head _, fun i k m nw hi => ?_⟩) F₄ N₄ rfl rfl rfl ?_ ?_ ?_
  · obtain ⟨_, _, _, _, rfl, _⟩ := hi; exact List.Mem.head _
  · exact ⟨a, vp, _, upd_self rfl (upd_self rfl rfl), rfl, pp, rfl⟩
  · rintro I i v m₁ news₁ oI h tk tl₅ hI hv ⟨q', vq, rest, rfl, rfl, pq, hq⟩ hN F₅ N₅
    have hi : i = 0 := by
      match i, hv with
      | 0, _ => rfl
      | k + 1, hv => simp at hv
    subst hi
    obtain rfl : q' = a := hq
    obtain rfl : vb = v := by simpa using hv
    have tl₅' : n₀ ≤ tk := Nat.le_trans tl₄' tl₅
    replace pb := ufS _ _ h _ _ pb tl₅'
    refine st_asgV F₅ N₅ rfl (c1 d_fspath (wd_at W' F₅ tl₅') (lS F₅ pb) fun v h' n' W k l p => fspath_ev W (r'.le (by decide)) p) ufS ?_ rfl rfl rfl
    intro vb₁ h₆ tk₆ tl₆ pb₁ F₆ N₆
    replace ps := ufS _ _ h₆ _ _ ps (Nat.le_trans tl₅ tl₆)
    replace pq := ufS _ _ h₆ _ _ pq tl₆
    have hz : q'.length ≤ sizeLine := by rw [sizeLine_eq]; omega
    refine st_if F₆ N₆ rfl (ev_isOr (ev_isB (ev_startswith (lS F₆ pb₁) (lS F₆ ps) rfl rfl rfl) rfl) (fun _ => ev_isNot (ev_isS (lS F₆ pq) hz rfl))) ?_ ?_
    · intro hc h₇ tk₇ tl₇ F₇ N₇
      refine st_asgV F₇ N₇ rfl (lS F₇ (ufS _ _ _ _ _ pb₁ tl₇)) ufS ?_ rfl rfl rfl
      intro v h₈ tk₈ tl₈ pv F₈ N₈
      refine st_nil (st_nil (turn_end F₈ N₈ (fun p hp => hp) hN ⟨_, v, _, upd_self rfl (upd_self rfl rfl), rfl, pv, ?_⟩))
      rw [if_neg (by decide), joinF, if_pos (by simpa [sSl, bne] using hc)]
    · intro hc h₇ tk₇ tl₇ F₇ N₇
      have hc' : ¬ ((Txt.startswith b sSl || q'.length == 0) = true) := by simpa [sSl, bne] using hc
      refine st_if F₇ N₇ rfl (ev_isB (ev_endswith (lS F₇ (ufS _ _ _ _ _ pq tl₇)) (lS F₇ (ufS _ _ _ _ _ ps tl₇)) rfl rfl rfl) rfl) ?_ ?_
      · intro hd h₈ tk₈ tl₈ F₈ N₈
        refine st_aug F₈ N₈ rfl rfl (lS F₈ (ufS _ _ _ _ _ pb₁ (Nat.le_trans tl₇ tl₈))) ufS (fun v h' n' k l p => op_iaddS ((wd_at W' F₈ (Nat.le_trans tl₅' (Nat.le_trans tl₆ (Nat.le_trans tl₇ tl₈)))).keeps k l) (ufS _ _ _ _ _ pq (Nat.le_trans (Nat.le_trans tl₇ tl₈) l)) p (by rw [sizeLine_eq]; omega)) ?_ rfl rfl
        intro v h₉ tk₉ tl₉ pv F₉ N₉
        refine st_nil (st_nil (st_nil (turn_end F₉ N₉ (fun p hp => hp) hN ⟨_, v, _, upd_self rfl (upd_self rfl rfl), rfl, pv, ?_⟩)))
        rw [if_neg (by decide), joinF, if_neg hc', if_pos (by exact hd)]
      · intro hd h₈ tk₈ tl₈ F₈ N₈
        have tl₉ := Nat.le_trans tl₇ tl₈
        refine st_aug F₈ N₈ rfl rfl (ev_addS (wd_at W' F₈ (Nat.le_trans tl₅' (Nat.le_trans tl₆ tl₉))) (lS F₈ (ufS _ _ _ _ _ ps tl₉)) (lS F₈ (ufS _ _ _ _ _ pb₁ tl₉)) (by show 1 + _ ≤ _; rw [sizeLine_eq]; omega)) ufS (fun v h' n' k l p => op_iaddS ((wd_at W' F₈ (Nat.le_trans tl₅' (Nat.le_trans tl₆ tl₉))).keeps k l) (ufS _ _ _ _ _ pq (Nat.le_trans tl₉ l)) p (by rw [Str.length_append]; show _ + (1 + _) ≤ _; rw [sizeLine_eq]; omega)) ?_ rfl rfl
        intro v h₉ tk₉ tl₉ pv F₉ N₉
        refine st_nil (st_nil (st_nil (turn_end F₉ N₉ (fun p hp => hp) hN ⟨_, v, _, upd_self rfl (upd_self rfl rfl), rfl, pv, ?_⟩)))
        rw [if_neg (by decide), joinF, if_neg hc', if_neg (by rw [show Txt.endswith q' sSl = false from hd]; exact Bool.false_ne_true)]
        rfl
  · rintro m₁ news₁ h tk tl₅ ⟨q', v, rest, rfl, rfl, pq, rfl⟩ F₅ N₅
    refine st_nil ?_
    refine st_ret (lS F₅ (ufS _ _ _ _ _ pq (Nat.le_refl _))) fun v h' tk' st' tl' p => q v h' tk' (stays_trans F₅.keep st') (Nat.le_trans tl₄' (Nat.le_trans tl₅ tl')) p

/-- texts with drawn tokens -/
def SL (xs : List Str) (vs : List Value) (n : Nat) : Prop := ∃ l : List (Str × Tok), vs = strValues l ∧ l.map (·.1) = xs ∧ ∀ p ∈ l, 0 < p.2 ∧ p.2 < n
theorem SL.up {xs : List Str} {vs : List Value} {n n' : Nat} (x : SL xs vs n) (l : n ≤ n') : SL xs vs n' :=
  let ⟨k, e, f, g⟩ := x; ⟨k, e, f, fun p hp => ⟨(g p hp).1, Nat.lt_of_lt_of_le (g p hp).2 l⟩⟩
theorem SL.nil {n : Nat} : SL [] [] n := ⟨[], rfl, rfl, fun _ h => nomatch h⟩
theorem SL.snoc {xs : List Str} {vs : List Value} {n : Nat} {x : Str} {v : Value} {h : Heap} (a : SL xs vs n) (b : IsS x v h n) : SL (xs ++ [x]) (vs ++ [v]) n := by
  obtain ⟨l, rfl, rfl, g⟩ := a
  obtain ⟨t, rfl, t1, t2⟩ := b
  refine ⟨l ++ [(x, t)], by simp [strValues], by simp, fun p hp => ?_⟩
  rcases List.mem_append.mp hp with hp | hp
  · exact g p hp
  · rw [List.mem_singleton.mp hp]; exact ⟨t1, t2⟩
theorem SL.get {xs : List Str} {vs : List Value} {n : Nat} (a : SL xs vs n) (h : Heap) {i : Nat} {x : Str} (e : xs[i]? = some x) : ∃ v, vs[i]? = some v ∧ IsS x v h n := by
  obtain ⟨l, rfl, rfl, g⟩ := a
  rw [List.getElem?_map] at e
  cases hl : l[i]? with
  | none => rw [hl] at e; cases e
  | some p =>
    rw [hl] at e
    cases e
    exact ⟨.str p.1 p.2, by simp [strValues, hl], p.2, rfl, (g p (List.mem_of_getElem? hl)).1, (g p (List.mem_of_getElem? hl)).2⟩
theorem SL.len {xs : List Str} {vs : List Value} {n : Nat} (a : SL xs vs n) : vs.length = xs.length := by
  obtain ⟨l, rfl, rfl, _⟩ := a; simp [strValues]
theorem SL.item {xs : List Str} {vs : List Value} {n : Nat} (a : SL xs vs n) (h : Heap) {i : Nat} {v : Value} (e : vs[i]? = some v) : ∃ x, xs[i]? = some x ∧ IsS x v h n := by
  have hi : i < xs.length := by rw [← a.len]; exact (List.getElem?_eq_some_iff.mp e).1
  obtain ⟨v', e', p⟩ := a.get h (List.getElem?_eq_getElem hi)
  rw [e] at e'; cases e'
  exact ⟨_, List.getElem?_eq_getElem hi, p⟩
/-- a list of texts, new since h₀ -/
def NewL (h₀ : Heap) (xs : List Str) : Value → Heap → Nat → Prop := fun v h n => ∃ D vs, v = .ref D ∧ h.get? D = some (lst vs 0) ∧ h₀.get? D = none ∧ SL xs vs n
/-- a list of texts at D -/
def AtL (D : Addr) (xs : List Str) : Value → Heap → Nat → Prop := fun v h n => ∃ vs ep, v = .ref D ∧ h.get? D = some (lst vs ep) ∧ SL xs vs n
theorem upAtL {D : Addr} {xs : List Str} : Up (AtL D xs) := fun _ _ _ _ _ ⟨vs, ep, e, g, s⟩ k l => ⟨vs, ep, e, k _ _ g, s.up l⟩
theorem numbered_tok : ∀ (tk : Nat) (xs : List Str), ∀ p ∈ numbered tk xs, tk ≤ p.2 ∧ p.2 < tk + xs.length
  | _, [], p, h => by cases h
  | tk, x :: r, p, h => by
    rcases List.mem_cons.mp h with e | h
    · rw [e]; simp
    · have := numbered_tok (tk + 1) r p h
      have e : tk + (x :: r).length = tk + 1 + r.length := by simp only [List.length_cons]; omega
      rw [e]; exact ⟨Nat.le_of_succ_le this.1, this.2⟩

section
variable {w : World} {A : Around} {h : Heap} {n : Nat} {env : Env}
/-- a method of a text, by what its call does -/
theorem ev_methG {o e : Expr} {name : Str} {apos pos : Pos} {id : String} {x : Str} {P₁ P₂ P : Value → Heap → Nat → Prop} (slot : Slot "str" name id) (ty : typeOf (.builtin id) = pure (.type "method_descriptor"))
    (h1 : Ev w A h n (eval o env) P₁) (up : Up P₁) (ht : ∀ v h n, P₁ v h n → ∃ t, v = .str x t) (h2 : Ev w A h n (eval e env) P₂) (hc : ∀ u v h' n', h.StaysIn h' → n ≤ n' → P₁ u h' n' → P₂ v h' n' → Ev w A h' n' (call (.builtin id) [u, v]) P)
    (hbase : attributeBase o name env (eval o env) = eval o env) (hs : starEach [e] env = [(false, eval e env)]) (hline : (apos.endLine == pos.line) = true) :
    Ev w A h n (eval (.Call (.Attribute o name apos) [e] [] pos) env) P :=
  fun s Q E st tl q => Call_method1 hbase hs hline (h1 s _ E st tl fun u h' tk st' tl' pu => by
    obtain ⟨t, rfl⟩ := ht _ _ _ pu
    refine ⟨"str", id, F.plainAttrs_str, slot, ty, typeIs_str _ _ _, (fun _ e => nomatch e), callWith_builtin rfl (evalArgs_plain (Calls.spliced_cons (h2 _ _ E (stays_trans st st') (Nat.le_trans tl tl') fun v h'' tk' st'' tl'' p' => Calls.spliced_nil ?_)))⟩
    exact hc _ v h'' tk' (stays_trans (stays_trans st st') st'') (Nat.le_trans (Nat.le_trans tl tl') tl'') (up _ _ _ _ _ pu st'' tl'') p' _ _ _ (stays_refl _) (Nat.le_refl _) fun u h₃ tk₃ st₃ tl₃ pu => q u h₃ tk₃ (stays_trans st' (stays_trans st'' st₃)) (Nat.le_trans tl' (Nat.le_trans tl'' tl₃)) pu)
theorem ev_methC {o e : Expr} {name : Str} {apos pos : Pos} {id : String} {x : Str} {P₂ P : Value → Heap → Nat → Prop} (slot : Slot "str" name id) (ty : typeOf (.builtin id) = pure (.type "method_descriptor"))
    (h1 : Ev w A h n (eval o env) (IsS x)) (h2 : Ev w A h n (eval e env) P₂) (hc : ∀ u v h' n', h.StaysIn h' → n ≤ n' → IsS x u h' n' → P₂ v h' n' → Ev w A h' n' (call (.builtin id) [u, v]) P)
    (hbase : attributeBase o name env (eval o env) = eval o env) (hs : starEach [e] env = [(false, eval e env)]) (hline : (apos.endLine == pos.line) = true) :
    Ev w A h n (eval (.Call (.Attribute o name apos) [e] [] pos) env) P := ev_methG slot ty h1 upS (fun _ _ _ ⟨t, e, _⟩ => ⟨t, e⟩) h2 hc hbase hs hline
theorem call_split {x y : Str} {u v : Value} (W : Wd w h n) (pu : IsS x u h n) (pv : IsS y v h n) (hy : (y.length == 0) = false) (hz : x.length ≤ sizeLine) (hp : (Builtin.Str.partsBetween x (Builtin.Str.occurrences x y 0 x.length (x.length + 1)) y.length).length ≤ sizeLine) :
    Ev w A h n (call (.builtin "str.split") [u, v]) (NewL h (Txt.split x y)) := by
  obtain ⟨t, rfl, t1, t2⟩ := pu
  obtain ⟨t', rfl, _⟩ := pv
  intro s Q E st tl q
  have own : SL [x] [.str x t] s.toks := ⟨[(x, t)], rfl, rfl, fun p hp => by rw [List.mem_singleton.mp hp]; exact ⟨t1, Nat.lt_of_lt_of_le t2 tl⟩⟩
  cases h1 : (decide (x.length < y.length) || decide (Builtin.Str.strKind x < Builtin.Str.strKind y))
  · cases hf : (Builtin.Str.occurrences x y 0 x.length (x.length + 1)).isEmpty
    · refine call_meets F.slot_str_split (typeIs_str _ _ _) F.entry_str_split (F.args_str_split_2 _ _) (meets_str_split_sep x y t t' h1 hy hf hz hp) ?_
      refine q _ _ _ (push_stays _ _) (Nat.le_add_right _ _) ⟨_, _, rfl, Heap.get?_push_size _ rfl, none_of st (fresh_none _), numbered s.toks _, strsFrom_eq _ _, (numbered_texts _ _).trans ?_, fun p hp => ?_⟩
      · unfold Txt.split; rw [if_neg (ne_true_of_eq_false h1), if_neg (ne_true_of_eq_false hf)]
      · have := numbered_tok _ _ p hp
        exact ⟨Nat.lt_of_lt_of_le W.pos (Nat.le_trans tl this.1), this.2⟩
    · refine call_meets F.slot_str_split (typeIs_str _ _ _) F.entry_str_split (F.args_str_split_2 _ _) (meets_str_split_not_found x y t t' h1 hy hf) ?_
      refine q _ _ s.toks (push_stays _ _) (Nat.le_refl _) ⟨_, _, rfl, Heap.get?_push_size _ rfl, none_of st (fresh_none _), ?_⟩
      unfold Txt.split; rw [if_neg (ne_true_of_eq_false h1), if_pos hf]; exact own
  · refine call_meets F.slot_str_split (typeIs_str _ _ _) F.entry_str_split (F.args_str_split_2 _ _) (meets_str_split_cannot_occur x y t t' h1) ?_
    refine q _ _ s.toks (push_stays _ _) (Nat.le_refl _) ⟨_, _, rfl, Heap.get?_push_size _ rfl, none_of st (fresh_none _), ?_⟩
    unfold Txt.split; rw [if_pos h1]; exact own
theorem call_join {x : Str} {u v : Value} {D : Addr} {xs : List Str} (W : Wd w h n) (pu : IsS x u h n) (pv : AtL D xs v h n) (hok : JoinOk x xs = true) : Ev w A h n (call (.builtin "str.join") [u, v]) (IsS (Txt.join x xs)) := by
  obtain ⟨t, rfl, t1, t2⟩ := pu
  obtain ⟨vs, ep, rfl, hD, l, rfl, rfl, hl⟩ := pv
  refine .of fun s Q E st tl q => ?_
  unfold JoinOk at hok
  rw [Bool.not_eq_true'] at hok
  refine call_meets F.slot_str_join (typeIs_str _ _ _) F.entry_str_join (F.args_str_join_2 _ _) (meets_str_join_list x t D l hok) ⟨⟨_, st _ _ hD, rfl, ep, rfl⟩, made_str (x := Txt.join x (l.map (·.1))) ?_ (Nat.lt_of_lt_of_le W.pos tl) q⟩
  match l, hl with
  | [], _ => exact .inr ⟨rfl, joinFit_length hok⟩
  | [p], hl => exact .inl ⟨_, rfl, p.2, rfl, (hl p (.head _)).1, Nat.lt_of_lt_of_le (hl p (.head _)).2 tl⟩
  | _ :: _ :: _, _ => exact .inr ⟨rfl, joinFit_length hok⟩
theorem ev_split {o e : Expr} {apos pos : Pos} {x y : Str} (W : Wd w h n) (h1 : Ev w A h n (eval o env) (IsS x)) (h2 : Ev w A h n (eval e env) (IsS y)) (hy : (y.length == 0) = false) (hz : x.length ≤ sizeLine) (hp : (Builtin.Str.partsBetween x (Builtin.Str.occurrences x y 0 x.length (x.length + 1)) y.length).length ≤ sizeLine)
    (hbase : attributeBase o "split" env (eval o env) = eval o env) (hs : starEach [e] env = [(false, eval e env)]) (hline : (apos.endLine == pos.line) = true) :
    Ev w A h n (eval (.Call (.Attribute o "split" apos) [e] [] pos) env) (NewL h (Txt.split x y)) :=
  ev_methC F.slot_str_split F.type_str_split h1 h2 (fun u v h' n' k l pu pv => (call_split (W.keeps k l) pu pv hy hz hp).post fun v h'' n'' _ _ ⟨D, vs, e1, e2, e3, e4⟩ => ⟨D, vs, e1, e2, none_of k e3, e4⟩) hbase hs hline
theorem ev_joinL {o e : Expr} {apos pos : Pos} {x : Str} {D : Addr} {xs : List Str} (W : Wd w h n) (h1 : Ev w A h n (eval o env) (IsS x)) (h2 : Ev w A h n (eval e env) (AtL D xs)) (hok : JoinOk x xs = true)
    (hbase : attributeBase o "join" env (eval o env) = eval o env) (hs : starEach [e] env = [(false, eval e env)]) (hline : (apos.endLine == pos.line) = true) :
    Ev w A h n (eval (.Call (.Attribute o "join" apos) [e] [] pos) env) (IsS (Txt.join x xs)) :=
  ev_methC F.slot_str_join F.type_str_join h1 h2 (fun u v h' n' k l pu pv => call_join (W.keeps k l) pu pv hok) hbase hs hline

/-- displays -/
theorem ev_list {elts : List Expr} {pos : Pos} {R : List Value → Heap → Nat → Prop} (h1 : Ev w A h n (spliced (backTo pos (starEach elts env))) R) (up : Up R) (hz : ∀ vs h' n', R vs h' n' → vs.length ≤ sizeLine) :
    Ev w A h n (eval (.List elts pos) env) (fun v h' n' => ∃ D vs, v = .ref D ∧ h'.get? D = some (lst vs 0) ∧ h.get? D = none ∧ R vs h' n') :=
  fun s Q E st tl q => List_ (h1 s _ E st tl fun vs h' tk st' tl' p => wpAny_newObj_type (q _ _ _ (stays_trans st' (push_stays _ _)) tl' ⟨_, vs, rfl, Heap.get?_push_size _ rfl, none_of (stays_trans st st') (fresh_none _), up _ _ _ _ _ p (push_stays _ _) (Nat.le_refl _)⟩) (by show vs.toArray.size ≤ sizeLine; rw [List.size_toArray]; exact hz _ _ _ p))
end

section
variable {w : World} {A : Around} {s : Shared} {h : Heap} {n : Nat} {env : Env} {h₀ : Heap} {m : Str → Option Value} {news : List (Addr × Obj)} {E : Value → Shared → Prop} {Q : Flow → Shared → Prop} {L : Addr}
/-- x = a new object -/
theorem st_asgN {x : Str} {p pos : Pos} {e : Expr} {rest : List Stmt} {P : Value → Heap → Nat → Prop} {o : Value → Obj} (F : Fr h₀ L h m) (N : News h₀ L h news) (hL : env.locals = L) (he : Ev w A h n (eval e env) P)
    (k : ∀ v h₁ h' tk, h.StaysIn h₁ → n ≤ tk → P v h₁ tk → (∀ b o, b ≠ L → h₁.get? b = some o → h'.get? b = some o) → Fr h₀ L h' (upd m x v) → News h₀ L h' news →
      (∀ D o, h₁.get? D = some o → h.get? D = none → News h₀ L h' ((D, o) :: news) ∧ (∀ q ∈ news, q.1 ≠ D)) → wpAny (Mo w) A (execs rest env) Q E (put s h' (tk + 1)))
    (hs : swapsWith e (some (.Name x p)) pos.line env = pure false) (hx : env.kindOf x = some .local) (hk : env.scope.kind = .function) :
    wpAny (Mo w) A (execs (.Assign [.Name x p] e pos :: rest) env) Q E (put s h n) :=
  st_asg F N hL he (fun v h₁ h' tk st tl pv sb F' N' => k v h₁ h' tk st tl pv (fun b o hb e => (sb.2 b hb).trans e) F' N' fun D o hD hn => by
    have hDL : D ≠ L := fun q => by obtain ⟨oL, _, _, hl, _⟩ := F.ns; rw [q, hl] at hn; cases hn
    refine ⟨fun q hq => ?_, fun q hq e => ?_⟩
    · rcases List.mem_cons.mp hq with e | hq
      · rw [e]; exact ⟨(sb.2 D hDL).trans hD, hDL, none_of F.keep hn⟩
      · exact N' q hq
    · have := (N q hq).1; rw [e, hn] at this; cases this) hs hx hk
/-- xs.append(e), xs an own list -/
theorem st_append {x : Str} {p ap pos pos2 : Pos} {e : Expr} {rest : List Stmt} {D : Addr} {vs : List Value} {ep : Nat} {news' : Value → List (Addr × Obj)} {P : Value → Heap → Nat → Prop} (F : Fr h₀ L h m) (N : News h₀ L h news) (hL : env.locals = L) (hv : m x = some (.ref D)) (hl : env.kindOf x = some .local) (hk : env.scope.kind = .function)
    (he : Ev w A h n (eval e env) P) (hz : vs.length ≤ sizeLine) (U : ∀ v, Upd D (lst vs ep) (lst (vs ++ [v]) (ep + 1)) news (news' v))
    (k : ∀ v h₁ h' tk, n ≤ tk → h.StaysIn h₁ → P v h₁ tk → (∀ b o, b ≠ D → h₁.get? b = some o → h'.get? b = some o) → Fr h₀ L h' m → News h₀ L h' (news' v) → wpAny (Mo w) A (execs rest env) Q E (put s h' tk))
    (hd : (x == ("__debug__" : Str)) = false) (hs : starEach [e] env = [(false, eval e env)]) (hline : (ap.endLine == pos.line) = true) (hi : interactive env = false) (hsw : swapsWith (.Call (.Attribute (.Name x p) "append" ap) [e] [] pos) none pos2.line env = pure false) :
    wpAny (Mo w) A (execs (.Expr (.Call (.Attribute (.Name x p) "append" ap) [e] [] pos) pos2 :: rest) env) Q E (put s h n) := by
  subst hL
  obtain ⟨pre, post, e1, _, a, b⟩ := (U .none).split
  have hm : (D, lst vs ep) ∈ news := by rw [e1]; exact List.mem_append_right _ (.head _)
  refine st_cons (wpAny_Expr_any (Call_method1 rfl hs hline (wpAny_Name (wpAny_loadName_local hk hl F.ns hv ?_) hd)) hi hsw)
  have hD := (N _ hm)
  refine ⟨"list", "list.append", PySem.F.plainAttrs_list, slot_list_append, type_list_append, ⟨_, hD.1, rfl⟩, (fun a ea => by cases ea; exact ⟨_, hD.1, rfl⟩), callWith_builtin rfl (evalArgs_plain (Calls.spliced_cons (he.use (s := put s h n) fun v h₁ tk st tl pv => Calls.spliced_nil ?_)))⟩
  have F₁ := fr_grow F st
  have N₁ := news_grow N st
  obtain ⟨pre, post, e1, e2, a, b⟩ := (U v).split
  refine append_at (its := vs.toArray) (n := ep) (hsz := by rw [List.size_toArray]; exact hz) (st _ _ hD.1) fun h' hs' ho' => ?_
  refine k v h₁ h' tk tl st pv (fun b o hb e => (hs'.2 b hb).trans e) (F₁.change hs' hD.2.1 hD.2.2) ?_
  rw [e2]
  rw [e1] at N₁
  exact news_set N₁ a b hs' (by rw [ho']; simp [lst])
end

def T3 (a b c : Str) : Value → Heap → Nat → Prop := fun v h n => ∃ D v1 v2 v3, v = .ref D ∧ h.get? D = some (tup [v1, v2, v3] 0) ∧ IsS a v1 h n ∧ IsS b v2 h n ∧ IsS c v3 h n
section
variable {w : World} {A : Around} {h : Heap} {n : Nat} {env : Env}
theorem ev_t3 {e1 e2 e3 : Expr} {k : Nat} {pos : Pos} {a b c : Str} (h1 : Ev w A h n (eval e1 env) (IsS a)) (h2 : Ev w A h n (eval e2 env) (IsS b)) (h3 : Ev w A h n (eval e3 env) (IsS c))
    (s1 : starEach [e1, e2, e3] env = (false, eval e1 env) :: starEach [e2, e3] env) (s2 : starEach [e2, e3] env = (false, eval e2 env) :: starEach [e3] env) (s3 : starEach [e3] env = [(false, eval e3 env)]) :
    Ev w A h n (eval (.Tuple [e1, e2, e3] k pos) env) (T3 a b c) :=
  (ev_tuple (ev_argsC h1 (ev_args2 h2 h3 upS s2 s3) upS s1) (fun _ _ _ _ _ ⟨v, r, e, p, v2, v3, e', p2, p3⟩ k l => ⟨v, r, e, upS _ _ _ _ _ p k l, v2, v3, e', upS _ _ _ _ _ p2 k l, upS _ _ _ _ _ p3 k l⟩) (fun vs h' n' ⟨v, r, e, _, v2, v3, e', _⟩ => by subst e'; subst e; exact (by decide : 3 ≤ sizeLine))).post
    fun v h' n' _ _ ⟨D, vs, e, g, _, v1, r, ev, p1, v2, v3, er, p2, p3⟩ => by subst er; subst ev; exact ⟨D, v1, v2, v3, e, g, p1, p2, p3⟩

def rootF (x : Str) : Str := if (Txt.slice x none (some 1) != sSl) = true then Str.ofString "" else sSl
def restF (x : Str) : Str := if (Txt.slice x none (some 1) != sSl) = true then x else Txt.slice x (some 1) none
def rootOk (x : Str) : Bool := Txt.slice x none (some 1) != sSl || (Txt.slice x (some 1) (some 2) != sSl || Txt.slice x (some 2) (some 3) == sSl)
theorem splitroot_ev {x : Str} {v : Value} (W : Wd w h n) (r : Rm 2 A) (p : IsS x v h n) (hx : x.length ≤ 100000) (hr : rootOk x = true) : Ev w A h n (call (.ref 122) [v]) (T3 (Str.ofString "") (rootF x) (restF x)) := by
  refine' ev_def (binds := [(Str.ofString "p", v)]) W ?ho ?hc r ?hb ?hl ?_ ?c2 ?c3 ?c4 ?c5
  walk_at "mine:def"
  intro A' L s₀ s h₀ n₀ Qf Ef r' st tl W' F N q
  have hz : x.length ≤ sizeLine := by rw [sizeLine_eq]; omega
  refine st_asgV F N rfl (c1 d_fspath (wd_at W' F (Nat.le_refl _)) (lS F (ufS _ _ _ _ _ p tl)) fun v h' n' W k l p => fspath_ev W (r'.le (by decide)) p) ufS ?_ rfl rfl rfl
  intro v₁ h₁ n₁ l₁ p₁ F₁ N₁
  have W₁ := wd_at W' F₁ l₁
  refine st_if (c := false) F₁ N₁ rfl (ev_isB (ev_notBytes W₁ (lS F₁ p₁) (ev_builtin W₁ (by with_unfolding_all rfl) boot_bytes (by decide) rfl rfl rfl rfl (by decide)) (ev_builtin W₁ (by with_unfolding_all rfl) boot_isinstance (by decide) rfl rfl rfl rfl (by decide)) rfl) rfl) (fun e => (nomatch e)) ?_
  intro _ h₂ n₂ l₂ F₂ N₂
  have l₂' := Nat.le_trans l₁ l₂
  refine st_asgV F₂ N₂ rfl (ev_str (wd_at W' F₂ l₂')) ufS ?_ rfl rfl rfl
  intro vs h₃ n₃ l₃ ps F₃ N₃
  have l₃' := Nat.le_trans l₂' l₃
  refine st_asgV F₃ N₃ rfl (ev_str (wd_at W' F₃ l₃')) ufS ?_ rfl rfl rfl
  intro ve h₄ n₄ l₄ pe F₄ N₄
  have l₄' := Nat.le_trans l₃' l₄
  replace ps := ufS _ _ h₄ _ _ ps l₄
  replace p₁ := ufS _ _ h₄ _ _ p₁ (Nat.le_trans l₂ (Nat.le_trans l₃ l₄))
  refine st_nil ?_
  have W₄ := wd_at W' F₄ l₄'
  refine st_if (c := Txt.slice x none (some 1) != sSl) F₄ N₄ rfl (ev_isCmp (ev_slice W₄ hz (lS F₄ p₁) ev_part0 (ev_part1 ev_int) (fun _ _ => rfl)) (lS F₄ ps) upS (fun a b h' n' _ _ pa pb => cmp_neS pa pb) rfl) ?_ ?_
  · intro hc h₅ n₅ l₅ F₅ N₅
    refine st_ret (ev_t3 (lS F₅ (ufS _ _ _ _ _ pe l₅)) (lS F₅ (ufS _ _ _ _ _ pe l₅)) (lS F₅ (ufS _ _ _ _ _ p₁ l₅)) rfl rfl rfl) fun v h' tk st' tl' pv => q v h' tk (stays_trans F₅.keep st') (Nat.le_trans l₄' (Nat.le_trans l₅ tl')) ?_
    rw [rootF, restF, if_pos hc, if_pos hc]; exact pv
  · intro hc h₅ n₅ l₅ F₅ N₅
    replace ps := ufS _ _ h₅ _ _ ps l₅
    replace p₁ := ufS _ _ h₅ _ _ p₁ l₅
    have l₅' := Nat.le_trans l₄' l₅
    have W₅ := wd_at W' F₅ l₅'
    have hor : (Txt.slice x (some 1) (some 2) != sSl || Txt.slice x (some 2) (some 3) == sSl) = true := by
      unfold rootOk at hr; rw [hc] at hr; exact hr
    refine st_if F₅ N₅ rfl (ev_isOr (ev_isCmp (ev_slice W₅ hz (lS F₅ p₁) (ev_part1 ev_int) (ev_part1 ev_int) (fun _ _ => rfl)) (lS F₅ ps) upS (fun a b h' n' _ _ pa pb => cmp_neS pa pb) rfl) (fun _ => ev_isCmp (ev_slice W₅ hz (lS F₅ p₁) (ev_part1 ev_int) (ev_part1 ev_int) (fun _ _ => rfl)) (lS F₅ ps) upS (fun a b h' n' _ _ pa pb => cmp_eqS pa pb) rfl)) ?_ (fun e => Bool.noConfusion (hor.symm.trans e))
    intro _ h₆ n₆ l₆ F₆ N₆
    refine st_ret (ev_t3 (lS F₆ (ufS _ _ _ _ _ pe (Nat.le_trans l₅ l₆))) (lS F₆ (ufS _ _ _ _ _ ps l₆)) (ev_slice (wd_at W' F₆ (Nat.le_trans l₅' l₆)) hz (lS F₆ (ufS _ _ _ _ _ p₁ l₆)) (ev_part1 ev_int) ev_part0 (fun _ _ => rfl)) rfl rfl rfl) fun v h' tk st' tl' pv => q v h' tk (stays_trans F₆.keep st') (Nat.le_trans l₅' (Nat.le_trans l₆ tl')) ?_
    have hc' : ¬ ((Txt.slice x none (some 1) != sSl) = true) := ne_true_of_eq_false hc
    rw [rootF, restF, if_neg hc', if_neg hc']; exact pv
theorem d_splitroot : IsDef w "splitroot" 122 := ⟨by with_unfolding_all rfl, by with_unfolding_all rfl⟩
end

/-- a text whose token was drawn from lo on -/
def IsF (lo : Nat) (x : Str) : Value → Heap → Nat → Prop := fun v _ n => ∃ t, v = .str x t ∧ lo ≤ t ∧ t < n
theorem ufF {lo : Nat} {x : Str} : UpF (IsF lo x) := fun _ _ _ _ _ p l => let ⟨t, e, a, b⟩ := p; ⟨t, e, a, Nat.lt_of_lt_of_le b l⟩
theorem IsF.toS {lo : Nat} {x : Str} {v : Value} {h : Heap} {n : Nat} (p : IsF lo x v h n) (l : 0 < lo) : IsS x v h n := let ⟨t, e, a, b⟩ := p; ⟨t, e, Nat.lt_of_lt_of_le l a, b⟩
/-- a text, whatever its token -/
def IsT (x : Str) : Value → Heap → Nat → Prop := fun v _ _ => ∃ t, v = .str x t
theorem IsS.toT {x : Str} {v : Value} {h : Heap} {n : Nat} (p : IsS x v h n) : IsT x v h n := let ⟨t, e, _⟩ := p; ⟨t, e⟩
section
variable {w : World} {A : Around} {h : Heap} {n : Nat} {env : Env}
theorem cmp_neT {x y : Str} {a b : Value} (pa : IsT x a h n) (pb : IsT y b h n) : Ev w A h n (compareOp .NotEq a b) (IsB (x != y)) := by
  obtain ⟨_, rfl⟩ := pa; obtain ⟨_, rfl⟩ := pb; exact .val _ (fun s Q E st tl q => ne_str q) (fun _ _ _ _ => rfl)
/-- a call of a built-in function by its name -/
theorem ev_callB1 {f : Str} {id : String} {p pos : Pos} {e : Expr} {P P₁ : Value → Heap → Nat → Prop} (h0 : Ev w A h n (eval (.Name f p) env) (Is (.builtin id)))
    (h1 : Ev w A h n (eval e env) P₁) (hc : ∀ v h' n', h.StaysIn h' → n ≤ n' → P₁ v h' n' → Ev w A h' n' (call (.builtin id) [v]) P)
    (he : starEach [e] env = [(false, eval e env)]) : Ev w A h n (eval (.Call (.Name f p) [e] [] pos) env) P :=
  .then (g := fun f => callWith pos f [] (backTo pos (starEach [e] env)) []) (fun s Q E x => Call_Name rfl x) h0 fun f h' n' k l ef => by
    cases ef
    refine .then (fun s Q E x => callWith_builtin1 x he rfl) ((ev_args1 h1 he).grow k l) fun vs h'' n'' k' l' p => ?_
    obtain ⟨v, rfl, pv⟩ := p
    exact hc v h'' n'' (stays_trans k k') (Nat.le_trans l l') pv
theorem ev_bi {x : Str} {pos : Pos} {v : Value} (W : Wd w h n) (hv : bootBuiltins x = some v) (e : nsIn (KK w.params) mainGlobals x = some none := by with_unfolding_all rfl) (hx : x ≠ "__name__" := by decide) (hk : env.scope.kind = .function := by rfl) (hl : env.kindOf x = some .globalImplicit := by rfl)
    (hg : env.globals = mainGlobals := by rfl) (hb : env.builtins = builtinsNs := by rfl) (hd : (x == ("__debug__" : Str)) = false := by decide) : Ev w A h n (eval (.Name x pos) env) (Is v) := ev_builtin W e hv hx hk hl hg hb hd
theorem call_lenS {x : Str} {v : Value} (p : IsS x v h n) (hz : x.length ≤ sizeLine) : Ev w A h n (call (.builtin "len") [v]) (IsI x.length) := by
  obtain ⟨_, rfl, _⟩ := p
  exact .of fun s Q E st tl q => len_str (by rw [sizeLine_eq] at hz; omega) (q _ _ (by omega) ⟨_, rfl⟩)
theorem ev_mulS {l r : Expr} {pos : Pos} {x : Str} {k : Nat} (h1 : Ev w A h n (eval l env) (IsS x)) (h2 : Ev w A h n (eval r env) (IsI (k : Int))) (hok : MulOk x (k : Int)) : Ev w A h n (eval (.BinOp l .Mult r pos) env) (IsT (Txt.mul x (k : Int))) :=
  ev_bin h1 h2 upS fun _ _ _ _ _ _ pa pb => by
    obtain ⟨_, rfl, _⟩ := pa; obtain ⟨_, rfl⟩ := pb
    exact .of0 fun s Q E st tl q => SB.mul hok fun t' k' => q _ s.heap k' (stays_refl _) fun _ => ⟨_, rfl⟩
/-- a slice that is not the whole is a new text -/
theorem ev_sliceF {value : Expr} {lower upper : Option Expr} {p pos : Pos} {x : Str} {i j : Option Int} (hz : x.length ≤ sizeLine) (hne : (Builtin.Str.strSliceIndices i j 1 x.length).length ≠ x.length) (h1 : Ev w A h n (eval value env) (IsS x)) (h2 : Ev w A h n (evalPart lower env) (PartV i)) (h3 : Ev w A h n (evalPart upper env) (PartV j))
    (ht : ∀ o r, letTemporaryGo value o r = pure ()) : Ev w A h n (eval (.Subscript value (.Slice lower upper none p) pos) env) (IsF n (Txt.slice x i j)) :=
  fun s Q E st tl q => wpAny_Subscript_str_slice (h1 s _ E st tl fun o h' tk st' tl' po => h2 _ _ E (stays_trans st st') (Nat.le_trans tl tl') fun vl h'' tk' st'' tl'' pl =>
    h3 _ _ E (stays_trans (stays_trans st st') st'') (Nat.le_trans (Nat.le_trans tl tl') tl'') fun vu h₃ tk₃ st₃ tl₃ pu => by
      obtain ⟨t, rfl, t1, t2⟩ := po
      obtain ⟨l, rfl, el⟩ := partV_eq pl
      obtain ⟨u, rfl, eu⟩ := partV_eq pu
      refine ⟨x, t, l, u, rfl, rfl, rfl, ?_⟩
      have hle := Txt.slice_le x i j
      have c : ¬ (((1 : Int) == 1 && (Builtin.Str.strSliceIndices i j 1 x.length).length == x.length) = true) := by simpa using hne
      have e : sliceMade x t l u none = .str (Txt.slice x i j) := by
        unfold sliceMade slicePicked Txt.slice
        rw [el, eu, if_neg c]
        exact if_neg c
      rw [e]
      have tle := Nat.le_trans tl' (Nat.le_trans tl'' tl₃)
      exact ⟨Nat.le_trans hle hz, q _ _ _ (stays_trans st' (stays_trans st'' (stays_trans st₃ (push_stays _ _)))) (Nat.le_succ_of_le tle) ⟨_, rfl, Nat.le_trans tl tle, Nat.lt_succ_self _⟩⟩) ht
theorem call_rstripF {lo : Nat} {x y : Str} {u v : Value} (pu : IsF lo x u h n) (pv : IsS y v h n) (hl : lo ≤ n) (hz : x.length ≤ sizeLine) : Ev w A h n (call (.builtin "str.rstrip") [u, v]) (IsF lo (Txt.rstripChars x y)) := by
  obtain ⟨t, rfl, t1, t2⟩ := pu
  obtain ⟨t', rfl, _⟩ := pv
  refine .of fun s Q E st tl q => call_gives F.slot_str_rstrip (typeIs_str _ _ _) F.entry_str_rstrip (F.args_str_rstrip_2 _ _) (gives_str_rstrip_chars x y t t') ?_
  unfold Txt.rstripChars Txt.stripBy at q
  by_cases c : PySem.stripSame y.cps.contains false true x = true
  · rw [if_pos c] at q ⊢
    exact q _ s.toks (Nat.le_refl _) ⟨t, rfl, t1, Nat.lt_of_lt_of_le t2 tl⟩
  · rw [if_neg c] at q ⊢
    exact ⟨fits_stripped _ _ _ hz, q _ _ (Nat.le_succ _) ⟨_, rfl, Nat.le_trans hl tl, Nat.lt_succ_self _⟩⟩

def dirHead (x : Str) : Str := Txt.slice x none (some (Txt.rfind x sSl + 1))
def dirnameF (x : Str) : Str := if (((dirHead x).length != 0) && ((dirHead x) != Txt.mul sSl ((dirHead x).length : Int))) = true then Txt.rstripChars (dirHead x) sSl else dirHead x
theorem d_dirname : IsDef w "dirname" 129 := ⟨by with_unfolding_all rfl, by with_unfolding_all rfl⟩
theorem dirname_ev {x : Str} {v : Value} (W : Wd w h n) (r : Rm 2 A) (p : IsS x v h n) (hx : x.length ≤ 100000) (hne : (Builtin.Str.strSliceIndices none (some (Txt.rfind x sSl + 1)) 1 x.length).length ≠ x.length)
    (hok : MulOk sSl ((dirHead x).length : Int)) : Ev w A h n (call (.ref 129) [v]) (IsF n (dirnameF x)) := by
  refine' ev_def (binds := [(Str.ofString "p", v)]) W ?ho ?hc r ?hb ?hl ?_ ?c2 ?c3 ?c4 ?c5
  walk_at "mine:def"
  intro A' L s₀ s h₀ n₀ Qf Ef r' st tl W' F N q
  have hz : x.length ≤ sizeLine := by rw [sizeLine_eq]; omega
  have hzd : (dirHead x).length ≤ sizeLine := Nat.le_trans (Txt.slice_le x _ _) hz
  refine st_asgV F N rfl (c1 d_fspath (wd_at W' F (Nat.le_refl _)) (lS F (ufS _ _ _ _ _ p tl)) fun v h' n' W k l p => fspath_ev W (r'.le (by decide)) p) ufS ?_ rfl rfl rfl
  intro v₁ h₁ n₁ l₁ p₁ F₁ N₁
  refine st_asgV F₁ N₁ rfl (c1 d_getsep (wd_at W' F₁ l₁) (lS F₁ p₁) fun v h' n' W k l p => getsep_ev W (r'.le (by decide)) p) ufS ?_ rfl rfl rfl
  intro vs h₂ n₂ l₂ ps F₂ N₂
  replace p₁ := ufS _ _ h₂ _ _ p₁ l₂
  refine st_asgV F₂ N₂ rfl (ev_addI (ev_rfind (lS F₂ p₁) (lS F₂ ps) rfl rfl rfl) ev_int) ufI ?_ rfl rfl rfl
  intro vi h₃ n₃ l₃ pi F₃ N₃
  replace p₁ := ufS _ _ h₃ _ _ p₁ l₃
  replace ps := ufS _ _ h₃ _ _ ps l₃
  have l₃' := Nat.le_trans l₁ (Nat.le_trans l₂ l₃)
  refine st_asgV F₃ N₃ rfl (ev_sliceF hz hne (lS F₃ p₁) ev_part0 (ev_part1 (lI F₃ pi)) (fun _ _ => rfl)) ufF ?_ rfl rfl rfl
  intro vd h₄ n₄ l₄ pd F₄ N₄
  replace ps := ufS _ _ h₄ _ _ ps l₄
  have l₄' := Nat.le_trans l₃' l₄
  have W₄ := wd_at W' F₄ l₄'
  have pd' := pd.toS (Nat.lt_of_lt_of_le W'.pos l₃')
  have lo : n ≤ n₃ := Nat.le_trans tl l₃'
  refine st_if (c := ((dirHead x).length != 0) && ((dirHead x) != Txt.mul sSl ((dirHead x).length : Int))) F₄ N₄ rfl (ev_isAnd (ev_isS (lS F₄ pd') hzd rfl) (fun _ => ev_isCmp (lS F₄ pd') (ev_mulS (lS F₄ ps) (ev_callB1 (ev_bi W₄ boot_len) (lS F₄ pd') (fun v h' n' _ _ p => call_lenS p hzd) rfl) hok) upS (fun a b h' n' _ _ pa pb => cmp_neT pa.toT pb) rfl)) ?_ ?_
  · intro hc h₅ n₅ l₅ F₅ N₅
    have l₅' := Nat.le_trans l₄ l₅
    refine st_asgV F₅ N₅ rfl (ev_methG (x := dirHead x) PySem.F.slot_str_rstrip PySem.F.type_str_rstrip (ev_local F₅.ns rfl (ufF _ _ _ _ _ pd l₅) ufF.up rfl rfl (by decide)) ufF.up (fun _ _ _ ⟨t, e, _⟩ => ⟨t, e⟩) (lS F₅ (ufS _ _ _ _ _ ps l₅)) (fun u v h' n' _ l pu pv => call_rstripF (lo := n₃) pu pv (Nat.le_trans l₅' l) hzd) rfl rfl rfl) ufF ?_ rfl rfl rfl
    intro v₆ h₆ n₆ l₆ p₆ F₆ N₆
    refine st_nil (st_ret (ev_local F₆.ns rfl p₆ ufF.up rfl rfl (by decide)) fun v h' tk st' tl' pv => q v h' tk (stays_trans F₆.keep st') (Nat.le_trans l₄' (Nat.le_trans l₅ (Nat.le_trans l₆ tl'))) ?_)
    unfold dirnameF; rw [if_pos hc]
    obtain ⟨t, e, a, b⟩ := pv
    exact ⟨t, e, Nat.le_trans lo a, b⟩
  · intro hc h₅ n₅ l₅ F₅ N₅
    refine st_nil (st_ret (ev_local F₅.ns rfl (ufF _ _ _ _ _ pd l₅) ufF.up rfl rfl (by decide)) fun v h' tk st' tl' pv => q v h' tk (stays_trans F₅.keep st') (Nat.le_trans l₄' (Nat.le_trans l₅ tl')) ?_)
    unfold dirnameF; rw [if_neg (ne_true_of_eq_false hc)]
    obtain ⟨t, e, a, b⟩ := pv
    exact ⟨t, e, Nat.le_trans lo a, b⟩
end

section
variable {w : World} {A : Around} {s : Shared} {h : Heap} {n : Nat} {env : Env} {h₀ : Heap} {m : Str → Option Value} {news : List (Addr × Obj)} {E : Value → Shared → Prop} {Q : Flow → Shared → Prop} {L : Addr}
theorem st_asgT3 {x1 x2 x3 : Str} {p1 p2 p3 tp pos : Pos} {k₀ : Nat} {e : Expr} {rest : List Stmt} {a b c : Str} (F : Fr h₀ L h m) (N : News h₀ L h news) (hL : env.locals = L) (hh : A.handled = none) (he : Ev w A h n (eval e env) (T3 a b c))
    (k : ∀ v1 v2 v3 h' tk, n ≤ tk → IsS a v1 h' tk → IsS b v2 h' tk → IsS c v3 h' tk → Fr h₀ L h' (upd (upd (upd m x1 v1) x2 v2) x3 v3) → News h₀ L h' news → wpAny (Mo w) A (execs rest env) Q E (put s h' tk))
    (hs : swapsWithSole [.Tuple [.Name x1 p1, .Name x2 p2, .Name x3 p3] k₀ tp] e pos.line env = pure false) (hw : swappedStores [.Tuple [.Name x1 p1, .Name x2 p2, .Name x3 p3] k₀ tp] e env = pure none)
    (h1 : env.kindOf x1 = some .local) (h2 : env.kindOf x2 = some .local) (h3 : env.kindOf x3 = some .local) (hk : env.scope.kind = .function) :
    wpAny (Mo w) A (execs (.Assign [.Tuple [.Name x1 p1, .Name x2 p2, .Name x3 p3] k₀ tp] e pos :: rest) env) Q E (put s h n) := by
  subst hL
  have hkk : (env.scope.kind == .class || (env.scope.kind == .module && env.locals != env.globals)) = false := by rw [hk]; rfl
  refine st_cons (Assign_Tuple (he.use (s := put s h n) fun v h₁ tk st tl pv => ?_) hs hw)
  obtain ⟨D, v1, v2, v3, rfl, g, q1, q2, q3⟩ := pv
  refine unpackN_ (s := put s h₁ tk) (fr_grow F st) (news_grow N st) ⟨_, g, rfl, _, rfl⟩ hh rfl rfl fun h₂ F₂ N₂ => ?_
  refine assignInOrder_cons (wpAny_assign_Name (wpAny_storeName_local h1 F₂.ns (fun h₃ n₃ s₃ => ?_) hkk))
  have F₃ := F₂.set n₃ s₃
  have N₃ := N₂.set s₃
  refine assignInOrder_cons (wpAny_assign_Name (wpAny_storeName_local h2 F₃.ns (fun h₄ n₄ s₄ => ?_) hkk))
  have F₄ := F₃.set n₄ s₄
  have N₄ := N₃.set s₄
  refine assignInOrder_cons (wpAny_assign_Name (wpAny_storeName_local h3 F₄.ns (fun h₅ n₅ s₅ => ?_) hkk))
  have l : tk ≤ tk + 1 + 1 + 1 := by omega
  exact assignInOrder_nil (k v1 v2 v3 h₅ (tk + 1 + 1 + 1) (Nat.le_trans tl l) (ufS _ _ _ _ _ q1 l) (ufS _ _ _ _ _ q2 l) (ufS _ _ _ _ _ q3 l) (F₄.set n₅ s₅) (N₄.set s₅))
end

def sDot : Str := Str.ofString "."
def sDD : Str := Str.ofString ".."
def comps (x : Str) : List Str := (Txt.split x sSl).filter fun c => (c.length != 0) && (c != sDot)
section
variable {w : World} {A : Around} {h : Heap} {n : Nat} {env : Env}
theorem ev_orS {a b : Expr} {pos : Pos} {x : Str} (h1 : Ev w A h n (eval a env) (IsS x)) (hz : x.length ≤ sizeLine) (hx : x.length ≠ 0) : Ev w A h n (eval (.BoolOp .Or [a, b] pos) env) (IsS x) :=
  fun s Q E st tl q => BoolOp_or (h1 s _ E st tl fun v h' tk st' tl' p => truthyS p hz _ _ E (stays_refl _) (Nat.le_refl _) fun c h'' tk' st'' tl'' pc => by
    have e : c = true := by cases pc; simpa using hx
    subst e
    exact q v h'' tk' (stays_trans st' st'') (Nat.le_trans tl' tl'') (upS _ _ _ _ _ p st'' tl''))
theorem d_normpath : IsDef w "normpath" 136 := ⟨by with_unfolding_all rfl, by with_unfolding_all rfl⟩
def normF (x : Str) : Str := rootF x ++ Txt.join sSl (comps (restF x))
theorem normpath_ev {x : Str} {v : Value} (W : Wd w h n) (r : Rm 3 A) (p : IsS x v h n) (hx : x.length ≤ 1000) (hx0 : x.length ≠ 0) (hr : rootOk x = true) (hdd : ∀ c ∈ comps (restF x), c ≠ sDD) (hres : (normF x).length ≠ 0)
    (hlen : (Txt.split (restF x) sSl).length ≤ 1001) (hp : (Builtin.Str.partsBetween (restF x) (Builtin.Str.occurrences (restF x) sSl 0 (restF x).length ((restF x).length + 1)) sSl.length).length ≤ sizeLine) (hok : JoinOk sSl (comps (restF x)) = true) (hzj : (Txt.join sSl (comps (restF x))).length ≤ 100000) (hcl : ∀ c ∈ Txt.split (restF x) sSl, c.length ≤ 1000) :
    Ev w A h n (call (.ref 136) [v]) (IsS (normF x)) := by
  refine' ev_def (binds := [(Str.ofString "path", v)]) W ?ho ?hc r ?hb ?hl ?_ ?c2 ?c3 ?c4 ?c5
  walk_at "mine:def"
  intro A' L s₀ s h₀ n₀ Qf Ef r' st tl W' F N q
  have hz : x.length ≤ sizeLine := by rw [sizeLine_eq]; omega
  refine st_asgV F N rfl (c1 d_fspath (wd_at W' F (Nat.le_refl _)) (lS F (ufS _ _ _ _ _ p tl)) fun v h' n' W k l p => fspath_ev W (r'.le (by decide)) p) ufS ?_ rfl rfl rfl
  intro v₁ h₁ n₁ l₁ p₁ F₁ N₁
  have W₁ := wd_at W' F₁ l₁
  refine st_if (c := false) F₁ N₁ rfl (ev_isB (ev_notBytes W₁ (lS F₁ p₁) (ev_bi W₁ boot_bytes) (ev_bi W₁ boot_isinstance) rfl) rfl) (fun e => (nomatch e)) ?_
  intro _ h₂ n₂ l₂ F₂ N₂
  have l₂' := Nat.le_trans l₁ l₂
  refine st_asgV F₂ N₂ rfl (ev_str (wd_at W' F₂ l₂')) ufS ?_ rfl rfl rfl
  intro vs h₃ n₃ l₃ ps F₃ N₃
  have l₃' := Nat.le_trans l₂' l₃
  refine st_asgV F₃ N₃ rfl (ev_str (wd_at W' F₃ l₃')) ufS ?_ rfl rfl rfl
  intro vd h₄ n₄ l₄ pd F₄ N₄
  have l₄' := Nat.le_trans l₃' l₄
  refine st_asgV F₄ N₄ rfl (ev_str (wd_at W' F₄ l₄')) ufS ?_ rfl rfl rfl
  intro ve h₅ n₅ l₅ pe F₅ N₅
  have l₅' := Nat.le_trans l₄' l₅
  refine st_nil ?_
  replace p₁ := ufS _ _ h₅ _ _ p₁ (Nat.le_trans l₂ (Nat.le_trans l₃ (Nat.le_trans l₄ l₅)))
  refine st_if (c := !(x.length != 0)) F₅ N₅ rfl (ev_isNot (ev_isS (lS F₅ p₁) hz rfl)) (fun e => absurd e (by simpa using hx0)) ?_
  intro _ h₆ n₆ l₆ F₆ N₆
  have l₆' := Nat.le_trans l₅' l₆
  refine st_nil ?_
  refine st_asgT3 F₆ N₆ rfl r'.hh (c1 d_splitroot (wd_at W' F₆ l₆') (lS F₆ (ufS _ _ _ _ _ p₁ l₆)) fun v h' n' W k l p => splitroot_ev W (r'.le (by decide)) p (by omega) hr) ?_ rfl rfl rfl rfl rfl rfl
  intro ve' vr vp h₇ n₇ l₇ _ pr pp F₇ N₇
  have l₇' := Nat.le_trans l₆' l₇
  replace ps := ufS _ _ h₇ _ _ ps (Nat.le_trans l₄ (Nat.le_trans l₅ (Nat.le_trans l₆ l₇)))
  have hzr : (restF x).length ≤ 1000 := by
    unfold restF
    split
    · exact hx
    · exact Nat.le_trans (Txt.slice_le x _ _) hx
  refine st_asgN (o := fun _ => default) F₇ N₇ rfl (ev_split (wd_at W' F₇ l₇') (lS F₇ pp) (lS F₇ ps) (by decide) (by rw [sizeLine_eq]; omega) hp rfl rfl rfl) ?_ rfl rfl rfl
  rintro _ h₈ h₈' n₈ st₈ l₈ ⟨D, ws, rfl, gD, nD, sD⟩ kp₈ F₈ N₈ nw₈
  obtain ⟨N₈, _⟩ := nw₈ D _ gD nD
  have l₈' := Nat.le_trans l₇' l₈
  refine st_asgN (o := fun _ => default) F₈ N₈ rfl (ev_list ev_args0 upIs (fun vs _ _ e => by cases e; exact Nat.zero_le _)) ?_ rfl rfl rfl
  rintro _ h₉ h₉' n₉ st₉ l₉ ⟨D2, _, rfl, gD2, nD2, rfl⟩ kp₉ F₉ N₉ nw₉
  obtain ⟨N₉, ne₉⟩ := nw₉ D2 _ gD2 nD2
  have hDD : D ≠ D2 := ne₉ (D, lst ws 0) (.head _)
  have l₉a := Nat.le_succ_of_le (Nat.le_of_succ_le l₉)
  have l₉' := Nat.le_trans l₈' l₉a
  replace sD := sD.up l₉a
  replace ps := ufS _ _ h₉' _ _ ps (Nat.le_trans l₈ l₉a)
  replace pd := ufS _ _ h₉' _ _ pd (Nat.le_trans l₅ (Nat.le_trans l₆ (Nat.le_trans l₇ (Nat.le_trans l₈ l₉a))))
  replace pe := ufS _ _ h₉' _ _ pe (Nat.le_trans l₆ (Nat.le_trans l₇ (Nat.le_trans l₈ l₉a)))
  replace pr := ufS _ _ h₉' _ _ pr (Nat.le_trans l₈ l₉a)
  refine st_cons (For_stop ((lV F₉).use (s := put s _ _) fun v ha na st₁ l₁₀ e => ?_) (fun _ => rfl))
  cases e
  have Fa := fr_grow F₉ st₁
  have Na := news_grow N₉ st₁
  replace sD := sD.up l₁₀
  replace ps := ufS _ _ ha _ _ ps l₁₀
  replace pd := ufS _ _ ha _ _ pd l₁₀
  replace pe := ufS _ _ ha _ _ pe l₁₀
  replace pr := ufS _ _ ha _ _ pr l₁₀
  have la := Nat.le_trans l₉' l₁₀
  refine loop_list (fun i tk m nw => ∃ vs2 ep rest, m = upd (upd (upd (upd (upd rest (Str.ofString "sep") vs) (Str.ofString "dot") vd) (Str.ofString "dotdot") ve) (Str.ofString "initial_slashes") vr) (Str.ofString "new_comps") (.ref D2) ∧ nw = [(D2, lst vs2 ep), (D, lst ws 0)] ∧ SL (((Txt.split (restF x) sSl).take i).filter fun c => (c.length != 0) && (c != sDot)) vs2 tk)
    (fun i x y m nw ⟨vs2, ep, rest, e1, e2, e3⟩ l => ⟨vs2, ep, rest, e1, e2, e3.up l⟩) r'.hh (.inr ⟨.tail _ (.head _), fun i k m nw ⟨_, _, _, _, e, _⟩ => e ▸ .tail _ (.head _)⟩) Fa Na rfl rfl rfl ?_ ?_ ?_
  · exact ⟨[], 0, _, upd_self rfl (upd_self rfl (upd_self rfl (upd_self rfl (upd_self rfl rfl)))), rfl, SL.nil⟩
  · rintro I i v m₁ news₁ oI hb nb lb hI hv ⟨vs2, ep, rest, rfl, rfl, sl⟩ hN Fb Nb
    obtain ⟨c, hc, pc⟩ := (sD.up lb).item hb hv
    replace hc : (Txt.split (restF x) sSl)[i]? = some c := hc
    have hcm := List.mem_of_getElem? hc
    have hcz : c.length ≤ sizeLine := Nat.le_trans (hcl c hcm) (by decide)
    have lb' := Nat.le_trans la lb
    have hstep : ((Txt.split (restF x) sSl).take (i + 1)).filter (fun c => (c.length != 0) && (c != sDot)) = ((Txt.split (restF x) sSl).take i).filter (fun c => (c.length != 0) && (c != sDot)) ++ if (c.length != 0 && c != sDot) = true then [c] else [] := by
      rw [List.take_add_one, hc, List.filter_append, Option.toList_some, List.filter_cons, List.filter_nil]
    refine st_if (c := !(c.length != 0) || c == sDot) Fb Nb rfl (ev_isOr (ev_isNot (ev_isS (lS Fb pc) hcz rfl)) (fun _ => ev_isCmp (lS Fb pc) (lS Fb (ufS _ _ _ _ _ pd lb)) upS (fun a b h' n' _ _ pa pb => cmp_eqS pa pb) rfl)) ?_ ?_
    · intro hb' hd' nd ld Fd Nd
      refine st_pass_cont (turn_cont (Q := fun _ _ => True) Fd Nd (fun p hp => hp) hN ⟨vs2, ep, _, upd_self rfl (upd_self rfl (upd_self rfl (upd_self rfl (upd_self rfl rfl)))), rfl, ?_⟩)
      rw [hstep, if_neg, List.append_nil]
      · exact sl.up ld
      · cases h1 : (c.length != 0) <;> cases h2 : (c == sDot) <;> simp_all [bne]
    · intro hb' hd' nd ld Fd Nd
      have hk : (c.length != 0 && c != sDot) = true := by cases h1 : (c.length != 0) <;> cases h2 : (c == sDot) <;> simp_all [bne]
      have hd2 : (c != sDD) = true := bne_iff_ne.mpr (hdd c (List.mem_filter.mpr ⟨hcm, hk⟩))
      have pc' := ufS _ _ hd' _ _ pc ld
      refine st_nil (st_if (c := true) Fd Nd rfl (ev_isOrT (hd2 ▸ ev_isCmp (lS Fd pc') (lS Fd (ufS _ _ _ _ _ pe (Nat.le_trans lb ld))) upS (fun a b h' n' _ _ pa pb => cmp_neS pa pb) rfl)) ?_ (fun e => nomatch e))
      intro _ he ne le Fe Ne
      refine st_append (vs := vs2) (ep := ep) (news' := fun v => [(D2, lst (vs2 ++ [v]) (ep + 1)), (D, lst ws 0)] ++ [(I, oI)]) Fe Ne rfl rfl rfl rfl (lS Fe (ufS _ _ _ _ _ pc' le)) ?_ (fun v => ?_) ?_ (by decide) rfl rfl rfl rfl
      · rw [sl.len]; exact Nat.le_trans (List.length_filter_le _ _) (Nat.le_trans (List.length_take_le' _ _) (Nat.le_trans hlen (by decide)))
      · exact .head fun p hp => by
          rcases List.mem_cons.mp hp with e | hp
          · rw [e]; exact hDD
          · rw [List.mem_singleton.mp hp]; exact fun e => hN (D2, lst vs2 ep) (.head _) e.symm
      · intro v hf hf' nf lf stf pv kpf Ff Nf
        refine st_nil (st_nil (turn_end Ff Nf (fun p hp => hp) (fun p hp => ?_) ⟨_, _, _, upd_self rfl (upd_self rfl (upd_self rfl (upd_self rfl (upd_self rfl rfl)))), rfl, ?_⟩))
        · rcases List.mem_cons.mp hp with e | hp
          · rw [e]; exact hN (D2, lst vs2 ep) (.head _)
          · exact hN p (.tail _ hp)
        · rw [hstep, if_pos hk]
          exact (sl.up (Nat.le_trans ld (Nat.le_trans le lf))).snoc pv
  · rintro m₁ news₁ hb nb lb ⟨vs2, ep, rest, rfl, rfl, sl⟩ Fb Nb
    have hfin : ((Txt.split (restF x) sSl).take ws.length).filter (fun c => (c.length != 0) && (c != sDot)) = comps (restF x) := by
      rw [sD.len]; unfold comps; rw [show Txt.split (restF x) (Str.ofString "/") = Txt.split (restF x) sSl from rfl, List.take_length]
    rw [hfin] at sl
    refine st_asg Fb Nb rfl (lV Fb) ?_ rfl rfl rfl
    intro _ hc hc' nc stc lc e sbc Fc Nc
    cases e
    have lcb := Nat.le_trans lb (Nat.le_succ_of_le lc)
    have Wc := wd_at W' Fc (Nat.le_trans la lcb)
    have hroot : (rootF x).length ≤ 1 := by unfold rootF; split <;> decide
    refine st_asgV Fc Nc rfl (ev_addS Wc (lS Fc (ufS _ _ _ _ _ pr lcb)) (ev_joinL Wc (lS Fc (ufS _ _ _ _ _ ps lcb)) (ev_local Fc.ns rfl ⟨vs2, ep, rfl, (Nc _ (.head _)).1, sl.up (Nat.le_succ_of_le lc)⟩ (upAtL (D := D2)) rfl rfl (by decide)) hok rfl rfl rfl) ?_) ufS ?_ rfl rfl rfl
    · rw [sizeLine_eq]; show _ + (Txt.join sSl _).length ≤ _; omega
    · intro vz hz' nz lz pz Fz Nz
      refine st_ret (ev_orS (x := normF x) (lS Fz pz) ?_ hres) fun v h' tk st' tl' pv => q v h' tk (stays_trans Fz.keep st') (Nat.le_trans la (Nat.le_trans lcb (Nat.le_trans lz tl'))) pv
      unfold normF; rw [Str.length_append, sizeLine_eq]; omega
end

section
variable {w : World} {A : Around} {h : Heap} {n : Nat} {env : Env}
theorem told {t : Tok} (W : Wd w h n) : Ev w A h n (sharingNotTold t) (Is false) :=
  .val false (fun s Q E st tl q => by
    unfold sharingNotTold
    exact wpAny_bind ((looks_nsIn (W.X.keeps st) (name := sharingNotToldKey) (r := none) (by with_unfolding_all rfl)).here (wpAny_pure q))) (fun _ _ _ _ => rfl)
/-- 'is' of two texts whose tokens differ -/
theorem cmp_isS {x y : Str} {t u : Tok} (W : Wd w h n) (ht : 0 < t) (hu : 0 < u) (hne : t ≠ u) : Ev w A h n (compareOp .Is (.str x t) (.str y u)) (fun v _ _ => ∃ b, v = .bool b ∧ (b = true → (x == y) = true)) := by
  intro s Q E st tl q
  show wpAny _ _ (isSame.created (x == y) t u >>= _) _ _ _
  have h0 : ¬ ((t == 0 || u == 0) = true) := by
    rw [beq_eq_false_iff_ne.mpr (Nat.ne_of_gt ht), beq_eq_false_iff_ne.mpr (Nat.ne_of_gt hu)]; exact Bool.false_ne_true
  have h1 : ¬ ((t == u) = true) := fun e => hne (eq_of_beq e)
  refine wpAny_bind ?_
  unfold isSame.created
  refine wpAny_ite ?_
  rw [if_neg h0]
  refine wpAny_ite ?_
  rw [if_neg h1]
  refine wpAny_ite ?_
  by_cases c : (!(x == y)) = true
  · rw [if_pos c]
    exact wpAny_pure (wpAny_pure (q _ _ s.toks (stays_refl _) (Nat.le_refl _) ⟨false, rfl, fun e => nomatch e⟩))
  · rw [if_neg c]
    have c' : (x == y) = true := by cases e : (x == y) <;> simp_all
    refine wpAny_bind ((told (W.keeps st tl)).use fun b h₁ tk₁ st₁ tl₁ e => ?_)
    cases e
    rw [if_neg Bool.false_ne_true]
    refine wpAny_bind ((told (W.keeps (stays_trans st st₁) (Nat.le_trans tl tl₁))).use (s := put s h₁ tk₁) fun b h₂ tk₂ st₂ tl₂ e => ?_)
    cases e
    rw [if_neg Bool.false_ne_true]
    exact wpAny_bind (wpAny_rule (wpAny_bind (wpAny_askSetting (wpAny_pure (wpAny_pure (q _ h₂ tk₂ (stays_trans st₁ st₂) (Nat.le_trans tl₁ tl₂) ⟨_, rfl, fun _ => c'⟩))))))
/-- a or b, where a says true only where b would -/
theorem ev_isOrU {a b : Expr} {pos : Pos} {whole : Sem Value} {d : Bool} (h1 : Ev w A h n (isTrue a env (eval a env)) (fun c _ _ => c = true → d = true)) (h2 : Ev w A h n (isTrue b env (eval b env)) (Is d)) : Ev w A h n (isTrue (.BoolOp .Or [a, b] pos) env whole) (Is d) :=
  fun s Q E st tl q => isTrue_or (h1 s _ E st tl fun c h' tk st' tl' p => by
    cases c with
    | true => rw [p rfl] at q; exact q true h' tk st' tl' rfl
    | false => exact isTrue_or (h2 _ _ E (stays_trans st st') (Nat.le_trans tl tl') fun v h'' tk' st'' tl'' p => by
        cases p
        cases d with
        | true => exact q true h'' tk' (stays_trans st' st'') (Nat.le_trans tl' tl'') rfl
        | false => exact isTrue_or_nil (q false h'' tk' (stays_trans st' st'') (Nat.le_trans tl' tl'') rfl)))
theorem ev_isIs {l r : Expr} {pos : Pos} {whole : Sem Value} {P₁ P₂ : Value → Heap → Nat → Prop} {d : Bool} (h1 : Ev w A h n (eval l env) P₁) (h2 : Ev w A h n (eval r env) P₂) (up : Up P₁) (ho : ∀ a b h' n', h.StaysIn h' → n ≤ n' → P₁ a h' n' → P₂ b h' n' → Ev w A h' n' (compareOp .Is a b) (fun v _ _ => ∃ b, v = .bool b ∧ (b = true → d = true)))
    (hm : behindInMarks .Is r = false) : Ev w A h n (isTrue (.Compare l [.Is] [r] pos) env whole) (fun c _ _ => c = true → d = true) :=
  fun s Q E st tl q => wpAny_isTrue_Compare1 (h1 s _ E st tl fun a h' tk st' tl' p => h2 _ _ E (stays_trans st st') (Nat.le_trans tl tl') fun b h'' tk' st'' tl'' p' =>
    ho a b h'' tk' (stays_trans (stays_trans st st') st'') (Nat.le_trans (Nat.le_trans tl tl') tl'') (up _ _ _ _ _ p st'' tl'') p' _ _ _ (stays_refl _) (Nat.le_refl _) fun v h₃ tk₃ st₃ tl₃ pv => by
      obtain ⟨c, rfl, hc⟩ := pv; exact wpAny_truthy_bool (q c h₃ tk₃ (stays_trans st' (stays_trans st'' st₃)) (Nat.le_trans tl' (Nat.le_trans tl'' tl₃)) hc)) hm

/-- what countOf walks over: texts none of which is the object u -/
def Cnt (va : Value) (h : Heap) (n : Nat) (u : Tok) (items : List Str) : Prop :=
  (∃ z t, va = .str z t ∧ items = z.cps.toList.map (fun c => (⟨#[c]⟩ : Str))) ∨
  (∃ (D : Addr) (vs : List Value) (ep : Nat), va = .ref D ∧ h.get? D = some (lst vs ep) ∧ vs.length = items.length ∧ ∀ (i : Nat) (v : Value), vs[i]? = some v → ∃ (x : Str) (t : Tok), items[i]? = some x ∧ v = .str x t ∧ 0 < t ∧ t < n ∧ t ≠ u)
theorem Cnt.keeps {va : Value} {h h' : Heap} {n n' : Nat} {u : Tok} {items : List Str} (c : Cnt va h n u items) (k : h.StaysIn h') (l : n ≤ n') : Cnt va h' n' u items :=
  c.imp id fun ⟨D, vs, ep, e, g, hl, f⟩ => ⟨D, vs, ep, e, k _ _ g, hl, fun i v hv => let ⟨x, t, a, b, c, d, e⟩ := f i v hv; ⟨x, t, a, b, c, Nat.lt_of_lt_of_le d l, e⟩⟩
theorem loop_cnt {s : Shared} {h₀ : Heap} {x : Str} {px : Pos} {body : List Stmt} {E : Value → Shared → Prop} {Q : Flow → Shared → Prop} {m₀ : Str → Option Value} (Inv : Nat → Nat → (Str → Option Value) → List (Addr × Obj) → Prop) (mono : ∀ i a b m nw, Inv i a m nw → a ≤ b → Inv i b m nw) {va : Value} {u : Tok} {items : List Str}
    {L : Addr} {hs : Heap} {n₀ : Nat} (hc : Cnt va h₀ n₀ u items) (hun : u < n₀) (hn : 0 < n₀) (hh : A.handled = none)
    (F : Fr h₀ L hs m₀) (N : News h₀ L hs []) (hL : env.locals = L) (hx : env.kindOf x = some .local) (hfk : env.scope.kind = .function) (hI : Inv 0 n₀ m₀ [])
    (turn : ∀ I i y t m₁ news₁ oI h tk, n₀ ≤ tk → items[i]? = some y → 0 < t → t < tk → t ≠ u → Inv i tk m₁ news₁ → (∀ p ∈ news₁, p.1 ≠ I) →
      Fr h₀ L h (upd m₁ x (.str y t)) → News h₀ L h (news₁ ++ [(I, oI)]) →
      wpAny (Mo w) A (execs body env) (TurnEnd h₀ L I (Inv (i + 1)) [(I, oI)] s Q) (fun _ _ => False) (put s h tk))
    (done : ∀ m₁ news₁ h tk, n₀ ≤ tk → Inv items.length tk m₁ news₁ → Fr h₀ L h m₁ → News h₀ L h news₁ → Q .next (put s h tk)) :
    Stop (wpAny (Mo w) A (pyIter va) (fun it s₂ => codeAny (Mo w) A (.forLoop (.Name x px) it body [] env) (fun r s' => match r with | .ok f => Q f s' | .error e => cameBackBy (Mo w) A env E e s') s₂) E (put s hs n₀)) := by
  rcases hc with ⟨z, t, rfl, rfl⟩ | ⟨D, vs, ep, rfl, g, hl, f⟩
  · refine loop_str Inv mono hh F N hL hx hfk hI (fun I i c v m₁ news₁ oI h tk l0 l1 _ hc hi hN F N => turn I i _ v m₁ news₁ oI h tk (Nat.le_trans l0 (Nat.le_of_lt l1)) ?_ (Nat.lt_of_lt_of_le hn l0) l1 (fun e => absurd (e ▸ hun) (Nat.not_lt_of_le l0)) hi hN F N) (fun m₁ news₁ h tk l hi => done m₁ news₁ h tk l (by rw [List.length_map, Array.length_toList]; exact hi))
    rw [List.getElem?_map, Array.getElem?_toList, hc]; rfl
  · refine loop_list Inv mono hh (.inl g) F N hL hx hfk hI (fun I i v m₁ news₁ oI h tk l0 _ hv hi hN F N => ?_) (fun m₁ news₁ h tk l hi => done m₁ news₁ h tk l (by rw [← hl]; exact hi))
    obtain ⟨x, t, a, rfl, c, d, e⟩ := f i v hv
    exact turn I i x t m₁ news₁ oI h tk l0 a c (Nat.lt_of_lt_of_le d l0) e hi hN F N
theorem d_countOf : IsDef w "countOf" 183 := ⟨by with_unfolding_all rfl, by with_unfolding_all rfl⟩
theorem countOf_ev {va : Value} {u : Tok} {items : List Str} {y : Str} (W : Wd w h n) (r : Rm 1 A) (hu : 0 < u) (hun : u < n) (hc : Cnt va h n u items) : Ev w A h n (call (.ref 183) [va, .str y u]) (IsI (items.countP (· == y) : Nat)) := by
  refine' ev_def (binds := [(Str.ofString "a", va), (Str.ofString "b", .str y u)]) W ?ho ?hc r ?hb ?hl ?_ ?c2 ?c3 ?c4 ?c5
  walk_at "mine:def"
  intro A' L s₀ s h₀ n₀ Qf Ef r' st tl W' F N q
  refine st_asgV F N rfl ev_int ufI ?_ rfl rfl rfl
  intro vc h₁ n₁ l₁ pc F₁ N₁
  refine st_cons (For_stop ((lV F₁).use (s := put s h₁ n₁) fun v ha na st₁ l₂ e => ?_) (fun _ => rfl))
  cases e
  have Fa := fr_grow F₁ st₁
  have Na := news_grow N₁ st₁
  have la := Nat.le_trans l₁ l₂
  have hstep : ∀ i (x : Str), items[i]? = some x → (items.take (i + 1)).countP (· == y) = (items.take i).countP (· == y) + if (x == y) = true then 1 else 0 := fun i x hx => by
    rw [List.take_add_one, hx, List.countP_append, Option.toList_some, List.countP_singleton]
  refine loop_cnt (fun i tk m nw => ∃ v rest, m = upd (upd rest (Str.ofString "b") (Value.str y u)) (Str.ofString "count") v ∧ nw = [] ∧ IsI ((items.take i).countP (· == y) : Nat) v h tk) (fun _ _ _ _ _ x _ => x) (hc.keeps st (Nat.le_trans tl la)) (Nat.lt_of_lt_of_le hun (Nat.le_trans tl la)) (Nat.lt_of_lt_of_le W'.pos la) r'.hh Fa Na rfl rfl rfl ⟨_, _, upd_self rfl (upd_self rfl rfl), rfl, pc⟩ ?_ ?_
  · rintro I i x t m₁ news₁ oI hb nb lb hx t1 t2 t3 ⟨v, rest, rfl, rfl, pv⟩ hN Fb Nb
    have hu' := Nat.lt_of_lt_of_le hun (Nat.le_trans tl (Nat.le_trans la lb))
    have Wb := wd_at W' Fb (Nat.le_trans la lb)
    refine st_if (c := x == y) Fb Nb rfl (ev_isOrU (ev_isIs (lV Fb) (lV Fb) upIs (fun a b h' n' k l ea eb => by cases ea; cases eb; exact cmp_isS (Wb.keeps k l) t1 hu t3) rfl)
      (ev_isCmp (lS Fb ⟨t, rfl, t1, t2⟩) (lS Fb ⟨u, rfl, hu, hu'⟩) upS (fun a b h' n' _ _ pa pb => cmp_eqS pa pb) rfl)) ?_ ?_
    · intro hxy hc nc lc Fc Nc
      refine st_aug Fc Nc rfl rfl ev_int ufI (fun v' h' n' k l p => op_iaddI pv p) ?_ rfl rfl
      intro v' hd nd ld pv' Fd Nd
      refine st_nil (st_nil (turn_end Fd Nd (fun p hp => hp) hN ⟨v', _, upd_self rfl (upd_self rfl rfl), rfl, ?_⟩))
      rw [hstep i x hx, if_pos hxy]; exact pv'
    · intro hxy hc nc lc Fc Nc
      refine st_nil (st_nil (turn_end Fc Nc (fun p hp => hp) hN ⟨v, _, upd_self rfl (upd_self rfl rfl), rfl, ?_⟩))
      rw [hstep i x hx, if_neg (ne_true_of_eq_false hxy)]; exact pv
  · rintro m₁ news₁ hb nb lb ⟨v, rest, rfl, rfl, pv⟩ Fb Nb
    refine st_ret (lI Fb pv) fun v h' tk st' tl' pv => q v h' tk (stays_trans Fb.keep st') (Nat.le_trans la (Nat.le_trans lb tl')) ?_
    rw [List.take_length] at pv; exact pv
end

section
variable {w : World} {A : Around} {h : Heap} {n : Nat} {env : Env}
theorem d_add : IsDef w "add" 148 := ⟨by with_unfolding_all rfl, by with_unfolding_all rfl⟩
theorem d_floordiv : IsDef w "floordiv" 155 := ⟨by with_unfolding_all rfl, by with_unfolding_all rfl⟩
theorem d_mul : IsDef w "mul" 162 := ⟨by with_unfolding_all rfl, by with_unfolding_all rfl⟩
theorem d_neg : IsDef w "neg" 169 := ⟨by with_unfolding_all rfl, by with_unfolding_all rfl⟩
theorem d_sub : IsDef w "sub" 176 := ⟨by with_unfolding_all rfl, by with_unfolding_all rfl⟩
def slashes (x : Str) : Nat := (x.cps.toList.map (fun c => (⟨#[c]⟩ : Str))).countP (· == sSl)
def depthF (x top : Str) : Int := (slashes (joinF x (Str.ofString "")) : Int) - (slashes top : Int)
theorem d_depth : IsDef w "_law_depth" 204 := ⟨by with_unfolding_all rfl, by with_unfolding_all rfl⟩
theorem depth_ev {x top : Str} {vx vt : Value} (W : Wd w h n) (r : Rm 3 A) (px : IsS x vx h n) (pt : IsS top vt h n) (hx : x.length ≤ 100000) : Ev w A h n (call (.ref 204) [vx, vt]) (IsI (depthF x top)) := by
  refine' ev_def (binds := [(Str.ofString "path", vx), (Str.ofString "top", vt)]) W ?ho ?hc r ?hb ?hl ?_ ?c2 ?c3 ?c4 ?c5
  walk_at "mine:def"
  intro A' L s₀ s h₀ n₀ Qf Ef r' st tl W' F N q
  have W₁ := wd_at W' F (Nat.le_refl _)
  have cnt : ∀ (z : Str) (v₁ v₂ : Value) (h' : Heap) (n' : Nat), Wd w h' n' → IsS z v₁ h' n' → IsS sSl v₂ h' n' → Ev w A' h' n' (call (.ref 183) [v₁, v₂]) (IsI (slashes z : Nat)) := by
    rintro z v₁ v₂ h' n' W ⟨t, rfl, t1, t2⟩ ⟨u, rfl, u1, u2⟩
    exact countOf_ev W (r'.le (by decide)) u1 u2 (.inl ⟨z, t, rfl, rfl⟩)
  refine st_ret (c2 d_sub W₁ (c2 d_countOf W₁ (c2 d_join W₁ (lS F (ufS _ _ _ _ _ px tl)) (ev_str W₁) upS (fun v₁ v₂ h' n' W k l p1 p2 => join_ev W r' p1 p2 hx (by decide))) (ev_str W₁) upS (fun v₁ v₂ h' n' W k l p1 p2 => cnt _ _ _ _ _ W p1 p2))
    (c2 d_countOf W₁ (lS F (ufS _ _ _ _ _ pt tl)) (ev_str W₁) upS (fun v₁ v₂ h' n' W k l p1 p2 => cnt _ _ _ _ _ W p1 p2)) upI (fun v₁ v₂ h' n' W k l p1 p2 => sub_ev W (r'.le (by decide)) p1 p2)) fun v h' tk st' tl' pv => q v h' tk (stays_trans F.keep st') tl' pv
end

/-- a list whose items are so -/
def LV (R : List Value → Heap → Nat → Prop) : Value → Heap → Nat → Prop := fun o h n => ∃ D vs ep, o = .ref D ∧ h.get? D = some (lst vs ep) ∧ R vs h n
theorem upLV {R : List Value → Heap → Nat → Prop} (u : Up R) : Up (LV R) := fun _ _ _ _ _ ⟨D, vs, ep, e, g, r⟩ k l => ⟨D, vs, ep, e, k _ _ g, u _ _ _ _ _ r k l⟩
def SLR (xs : List Str) : List Value → Heap → Nat → Prop := fun vs _ n => SL xs vs n
theorem upSLR {xs : List Str} : Up (SLR xs) := fun _ _ _ _ _ p _ l => p.up l
theorem SL.cons {xs : List Str} {vs : List Value} {n : Nat} {x : Str} {v : Value} {h : Heap} (b : IsS x v h n) (a : SL xs vs n) : SL (x :: xs) (v :: vs) n := by
  obtain ⟨l, rfl, rfl, g⟩ := a
  obtain ⟨t, rfl, t1, t2⟩ := b
  exact ⟨(x, t) :: l, rfl, rfl, fun p hp => by
    rcases List.mem_cons.mp hp with e | hp
    · rw [e]; exact ⟨t1, t2⟩
    · exact g p hp⟩
theorem strsAre_of : ∀ (l : List (Str × Tok)), StrsAre (strValues l) (l.map (·.1))
  | [] => .nil
  | (x, t) :: r => .cons x t (strsAre_of r)
theorem SL.strs {xs : List Str} {vs : List Value} {n : Nat} (a : SL xs vs n) : StrsAre vs xs := by
  obtain ⟨l, rfl, rfl, _⟩ := a; exact strsAre_of l
section
variable {w : World} {A : Around} {h : Heap} {n : Nat} {env : Env}
theorem ev_slNil {pos : Pos} : Ev w A h n (spliced (backTo pos (starEach [] env))) (SLR []) := .val [] (fun s Q E st tl q => spliced_none q) (fun _ _ _ _ => SL.nil)
theorem ev_slCons {pos : Pos} {e : Expr} {rest : List Expr} {x : Str} {xs : List Str} (h1 : Ev w A h n (eval e env) (IsS x)) (h2 : Ev w A h n (spliced (backTo pos (starEach rest env))) (SLR xs))
    (he : starEach (e :: rest) env = (false, eval e env) :: starEach rest env) : Ev w A h n (spliced (backTo pos (starEach (e :: rest) env))) (SLR (x :: xs)) :=
  (ev_argsC h1 h2 upS he).post fun _ _ _ _ _ ⟨_, _, e, p, q⟩ => e ▸ SL.cons p q
theorem ev_slC {pos p : Pos} {k : Nat} {rest : List Expr} {x : Str} {xs : List Str} (W : Wd w h n) (h2 : Ev w A h n (spliced (backTo pos (starEach rest env))) (SLR xs)) :
    Ev w A h n (spliced (backTo pos (starEach (.Constant (.str x) k p :: rest) env))) (SLR (x :: xs)) := ev_slCons (ev_str W) h2 rfl
theorem ev_listS {elts : List Expr} {pos : Pos} {xs : List Str} (h1 : Ev w A h n (spliced (backTo pos (starEach elts env))) (SLR xs)) (hz : xs.length ≤ sizeLine) : Ev w A h n (eval (.List elts pos) env) (LV (SLR xs)) :=
  (ev_list h1 upSLR (fun vs h' n' r => by rw [r.len]; exact hz)).post fun v h' n' _ _ ⟨D, vs, e, g, _, r⟩ => ⟨D, vs, 0, e, g, r⟩
/-- l[k] -/
theorem ev_item {value slice : Expr} {pos : Pos} {R : List Value → Heap → Nat → Prop} {P : Value → Heap → Nat → Prop} {k : Int} (h1 : Ev w A h n (eval value env) (LV R)) (up : Up R) (h2 : Ev w A h n (eval slice env) (IsI k)) (h0 : 0 ≤ k) (hfit : k < 2 ^ 63)
    (hg : ∀ vs h' n', h.StaysIn h' → n ≤ n' → R vs h' n' → ∃ x, vs[k.toNat]? = some x ∧ P x h' n') (hs : ∀ o i, subscripted slice false o i = operate [o, i] (getItem o i)) : Ev w A h n (eval (.Subscript value slice pos) env) P :=
  .two (fun s Q E x => Subscript_ x) h1 h2 (upLV up) fun a b h' n' k l pa pb => by
    obtain ⟨D, vs, ep, rfl, g, r⟩ := pa
    obtain ⟨t, rfl⟩ := pb
    obtain ⟨x, hx, px⟩ := hg vs h' n' k l r
    intro s Q E st tl q
    have hl : s.heap.IsList D vs.toArray := ⟨_, st _ _ g, rfl, ep, rfl⟩
    refine W.kba_turn (value' := .Name (Str.ofString "_") ⟨0, 0, 0, 0⟩) (fun _ => rfl) (subscriptTail_builtin hl.typeIs slot_list_getitem.lookup (wpAny_getItem_list hl h0 hfit (by simpa using hx) ?_) (hs _ _) (fun _ => rfl))
    obtain ⟨x', hx', px'⟩ := hg vs s.heap s.toks (stays_trans k st) (Nat.le_trans l tl) (up _ _ _ _ _ r st tl)
    rw [hx] at hx'; cases hx'
    exact q x s.heap s.toks (stays_refl _) (Nat.le_refl _) px'
theorem ev_itemS {value slice : Expr} {pos : Pos} {xs : List Str} {x : Str} {k : Int} (h1 : Ev w A h n (eval value env) (LV (SLR xs))) (h2 : Ev w A h n (eval slice env) (IsI k)) (h0 : 0 ≤ k) (hfit : k < 2 ^ 63) (hx : xs[k.toNat]? = some x)
    (hs : ∀ o i, subscripted slice false o i = operate [o, i] (getItem o i)) : Ev w A h n (eval (.Subscript value slice pos) env) (IsS x) :=
  ev_item h1 upSLR h2 h0 hfit (fun vs h' n' _ _ r => r.get h' hx) hs
/-- x in (..) -/
theorem cmp_inT {x : Str} {xs : List Str} {a b : Value} (pa : IsS x a h n) (pb : ∃ D vs, b = .ref D ∧ h.get? D = some (tup vs 0) ∧ SL xs vs n) : Ev w A h n (compareOp .In a b) (IsB (xs.any (· == x))) := by
  obtain ⟨_, rfl, _⟩ := pa
  obtain ⟨D, vs, rfl, g, r⟩ := pb
  exact .val _ (fun s Q E st tl q => in_tuple_strs (ys := xs) ⟨_, st _ _ g, rfl, 0, rfl⟩ r.strs q) (fun _ _ _ _ => rfl)
theorem cmp_notInL {x : Str} {xs : List Str} {a b : Value} (pa : IsS x a h n) (pb : LV (SLR xs) b h n) : Ev w A h n (compareOp .NotIn a b) (IsB (!(xs.any (· == x)))) := by
  obtain ⟨_, rfl, _⟩ := pa
  obtain ⟨D, vs, ep, rfl, g, r⟩ := pb
  exact .val _ (fun s Q E st tl q => notin_list_strs (ys := xs) ⟨_, st _ _ g, rfl, ep, rfl⟩ r.strs q) (fun _ _ _ _ => rfl)
theorem call_chr {i : Int} {v : Value} (W : Wd w h n) (p : IsI i v h n) (h0 : 0 ≤ i) (h1 : i ≤ 1114111) : Ev w A h n (call (.builtin "chr") [v]) (IsS ⟨#[i.toNat]⟩) := by
  obtain ⟨t, rfl⟩ := p
  exact .of fun s Q E st tl q => chr_of_range h0 h1 (q _ _ (Nat.le_succ _) ⟨_, rfl, Nat.lt_of_lt_of_le W.pos tl, Nat.lt_succ_self _⟩)
end

def pNames (code : Int) : List Str := [Str.ofString "a", Str.ofString "b", Str.ofString "ab", Str.ofString "a-", Str.ofString "...", Str.ofString "a.b", Str.ofString "..a", ⟨#[(1 + (code.fdiv 8).fmod 55295).toNat]⟩]
def pPre : List Str := [Str.ofString "", Str.ofString "./", Str.ofString ".//"]
def pSuf : List Str := [Str.ofString "", Str.ofString "/", Str.ofString "//", Str.ofString "/./", Str.ofString "/."]
def pName0 (code : Int) : Str := (pNames code).getD (code.fmod 8).toNat (Str.ofString "")
def pBad (x : Str) : Bool := [sSl, sDot].any (· == x)
def pName (code : Int) : Str := if pBad (pName0 code) = true then Str.ofString "c" else pName0 code
def pieceF (code : Int) : Str := pPre.getD (code.fmod 3).toNat (Str.ofString "") ++ pName code ++ pSuf.getD (code.fmod 5).toNat (Str.ofString "")
theorem getD_some {xs : List Str} {i : Nat} (h : i < xs.length) : xs[i]? = some (xs.getD i (Str.ofString "")) := by
  rw [List.getD_eq_getElem?_getD, List.getElem?_eq_getElem h]; rfl
theorem fmod_nat {a : Int} (b : Int) (hb : 0 < b) : 0 ≤ a.fmod b ∧ a.fmod b < b := ⟨Int.fmod_nonneg_of_pos _ hb, Int.fmod_lt_of_pos _ hb⟩
theorem all_getD {xs : List Str} {k i : Nat} (h : ∀ x ∈ xs, x.length ≤ k) (hi : i < xs.length) : (xs.getD i (Str.ofString "")).length ≤ k := h _ (List.mem_of_getElem? (getD_some hi))
theorem pName_len (code : Int) : (pName code).length ≤ 3 := by
  unfold pName
  split
  · decide
  · refine all_getD (fun x hx => ?_) ?_
    · simp only [pNames, List.mem_cons, List.not_mem_nil, or_false] at hx
      rcases hx with rfl | rfl | rfl | rfl | rfl | rfl | rfl | rfl <;> first | decide | exact (by decide : 1 ≤ 3)
    · have := fmod_nat (a := code) 8 (by decide); show _ < 8; omega
/-- what a branch leaves behind -/
def Left (h₀ : Heap) (L : Addr) (news : List (Addr × Obj)) (s : Shared) (n : Nat) (J : Nat → (Str → Option Value) → Prop) (f : Flow) (s' : Shared) : Prop :=
  f = .next ∧ ∃ h' tk m', s' = put s h' tk ∧ n ≤ tk ∧ Fr h₀ L h' m' ∧ News h₀ L h' news ∧ J tk m'
/-- an if whose branches meet again -/
theorem st_ifJ {w : World} {A : Around} {s : Shared} {h : Heap} {n : Nat} {env : Env} {h₀ : Heap} {m : Str → Option Value} {news : List (Addr × Obj)} {E : Value → Shared → Prop} {Q : Flow → Shared → Prop} {test : Expr} {body orelse rest : List Stmt} {pos : Pos} {c : Bool} {L : Addr} (J : Nat → (Str → Option Value) → Prop) (F : Fr h₀ L h m) (N : News h₀ L h news) (hL : env.locals = L) (ht : Ev w A h n (isTrue test env (eval test env)) (Is c))
    (kt : c = true → ∀ h' tk, n ≤ tk → Fr h₀ L h' m → News h₀ L h' news → wpAny (Mo w) A (execs body env) (Left h₀ L news s n J) (fun _ _ => False) (put s h' tk))
    (kf : c = false → ∀ h' tk, n ≤ tk → Fr h₀ L h' m → News h₀ L h' news → wpAny (Mo w) A (execs orelse env) (Left h₀ L news s n J) (fun _ _ => False) (put s h' tk))
    (k : ∀ h' tk m', n ≤ tk → Fr h₀ L h' m' → News h₀ L h' news → J tk m' → wpAny (Mo w) A (execs rest env) Q E (put s h' tk)) :
    wpAny (Mo w) A (execs (.If test body orelse pos :: rest) env) Q E (put s h n) := by
  have go : ∀ f s', Left h₀ L news s n J f s' → Then w A env E rest Q f s' := by
    rintro f s' ⟨rfl, h', tk, m', rfl, l, F', N', j⟩
    exact k h' tk m' l F' N' j
  exact st_if F N hL ht (fun e h' tk l F' N' => wpAny_mono (kt e h' tk l F' N') go fun _ _ x => x.elim) (fun e h' tk l F' N' => wpAny_mono (kf e h' tk l F' N') go fun _ _ x => x.elim)
section
variable {w : World} {A : Around} {h : Heap} {n : Nat} {env : Env}
theorem d_piece : IsDef w "_law_piece" 190 := ⟨by with_unfolding_all rfl, by with_unfolding_all rfl⟩
theorem ev_tupS {elts : List Expr} {k : Nat} {pos : Pos} {xs : List Str} (h1 : Ev w A h n (spliced (backTo pos (starEach elts env))) (SLR xs)) (hz : xs.length ≤ sizeLine) : Ev w A h n (eval (.Tuple elts k pos) env) (fun b h' n' => ∃ D vs, b = .ref D ∧ h'.get? D = some (tup vs 0) ∧ SL xs vs n') :=
  (ev_tuple h1 upSLR (fun vs h' n' r => by rw [r.len]; exact hz)).post fun v h' n' _ _ ⟨D, vs, e, g, _, r⟩ => ⟨D, vs, e, g, r⟩
set_option maxHeartbeats 2000000 in
theorem piece_ev {code : Int} {v : Value} (W : Wd w h n) (r : Rm 1 A) (p : IsI code v h n) : Ev w A h n (call (.ref 190) [v]) (IsS (pieceF code)) := by
  refine' ev_def (binds := [(Str.ofString "code", v)]) W ?ho ?hc r ?hb ?hl ?_ ?c2 ?c3 ?c4 ?c5
  walk_at "mine:def"
  intro A' L s₀ s h₀ n₀ Qf Ef r' st tl W' F N q
  have W₁ := wd_at W' F (Nat.le_refl _)
  have m8 := fmod_nat (a := code) 8 (by decide)
  have m3 := fmod_nat (a := code) 3 (by decide)
  have m5 := fmod_nat (a := code) 5 (by decide)
  have mc := fmod_nat (a := code.fdiv 8) 55295 (by decide)
  refine st_asgV F N rfl (ev_itemS (xs := pNames code) (ev_listS (ev_slC W₁ (ev_slC W₁ (ev_slC W₁ (ev_slC W₁ (ev_slC W₁ (ev_slC W₁ (ev_slC W₁ (ev_slCons (ev_callB1 (ev_bi W₁ boot_chr) (ev_addI ev_int (ev_modI (ev_divI (lI F p) ev_int (by decide) (by decide)) ev_int (by decide))) (fun v h' n' k l p => call_chr (W₁.keeps k l) p (by omega) (by omega)) rfl) ev_slNil rfl)))))))) (by exact (by decide : 8 ≤ sizeLine)))
    (ev_modI (lI F p) ev_int (by decide)) m8.1 (by omega) (getD_some (xs := pNames code) (by show _ < 8; omega)) (fun _ _ => rfl)) ufS ?_ rfl rfl rfl
  intro v₁ h₁ n₁ l₁ p₁ F₁ N₁
  have W₂ := wd_at W' F₁ l₁
  refine st_ifJ (c := pBad (pName0 code)) (fun tk m' => ∃ v₂ rest, m' = upd (upd rest (Str.ofString "code") v) (Str.ofString "name") v₂ ∧ IsS (pName code) v₂ h tk) F₁ N₁ rfl (ev_isCmp (lS F₁ p₁) (ev_tupS (ev_slC W₂ (ev_slC W₂ ev_slNil)) (by decide)) upS (fun a b h' n' _ _ pa pb => cmp_inT pa pb) rfl) ?_ ?_ ?_
  · intro hc h₂ n₂ l₂ F₂ N₂
    refine st_asgV F₂ N₂ rfl (ev_str (wd_at W' F₂ (Nat.le_trans l₁ l₂))) ufS ?_ rfl rfl rfl
    intro v₃ h₃ n₃ l₃ p₃ F₃ N₃
    exact st_nil ⟨rfl, h₃, n₃, _, rfl, Nat.le_trans l₂ l₃, F₃, N₃, v₃, _, upd_self rfl (upd_self rfl rfl), by unfold pName; rw [if_pos hc]; exact p₃⟩
  · intro hc h₂ n₂ l₂ F₂ N₂
    exact st_nil ⟨rfl, h₂, n₂, _, rfl, l₂, F₂, N₂, v₁, _, upd_self rfl (upd_self rfl rfl), by unfold pName; rw [if_neg (ne_true_of_eq_false hc)]; exact ufS _ _ _ _ _ p₁ l₂⟩
  · rintro h₂ n₂ _ l₂ F₂ N₂ ⟨v₂, rest, rfl, p₂⟩
    have l₂' := Nat.le_trans l₁ l₂
    have W₃ := wd_at W' F₂ l₂'
    have z1 : (pPre.getD (code.fmod 3).toNat (Str.ofString "")).length ≤ 3 := all_getD (by decide) (by show _ < 3; omega)
    have z2 : (pSuf.getD (code.fmod 5).toNat (Str.ofString "")).length ≤ 3 := all_getD (by decide) (by show _ < 5; omega)
    have z3 := pName_len code
    refine st_ret (ev_addS W₃ (ev_addS W₃ (ev_itemS (xs := pPre) (ev_listS (ev_slC W₃ (ev_slC W₃ (ev_slC W₃ ev_slNil))) (by exact (by decide : 3 ≤ sizeLine))) (ev_modI (lI F₂ p) ev_int (by decide)) m3.1 (by omega) (getD_some (xs := pPre) (by show _ < 3; omega)) (fun _ _ => rfl)) (lS F₂ p₂) (by rw [sizeLine_eq]; omega))
      (ev_itemS (xs := pSuf) (ev_listS (ev_slC W₃ (ev_slC W₃ (ev_slC W₃ (ev_slC W₃ (ev_slC W₃ ev_slNil))))) (by exact (by decide : 5 ≤ sizeLine))) (ev_modI (lI F₂ p) ev_int (by decide)) m5.1 (by omega) (getD_some (xs := pSuf) (by show _ < 5; omega)) (fun _ _ => rfl)) (by rw [Str.length_append, sizeLine_eq]; omega)) fun v h' tk st' tl' pv => q v h' tk (stays_trans F₂.keep st') (Nat.le_trans l₂' tl') pv
end

/-- walking over v: k items, the i-th so -/
def Src (w : World) (A : Around) (v : Value) (h : Heap) (n : Nat) (k : Nat) (It : Nat → Value → Prop) : Prop :=
  ∀ (s : Shared) (Q : Value → Shared → Prop) (E : Value → Shared → Prop), h.StaysIn s.heap → n ≤ s.toks →
    (∀ fp St o, Walks Pg w A s.heap.objs.size fp [s.heap.objs.size] k It St → (∀ b ∈ fp, b ≠ s.heap.objs.size → ∃ o, s.heap.get? b = some o) → (∀ i h, St i h → ∃ o, h.get? s.heap.objs.size = some o) → St 0 (s.heap.push o) →
      Q (.ref s.heap.objs.size) { s with heap := s.heap.push o }) → wpAny (Mo w) A (pyIter v) Q E s
noncomputable abbrev compIfs (ifs : List Expr) (env : Env) : Sem Bool := forIn ifs true fun c r => if r = true then do let ok ← isTrue c env (eval c env); pure (ForInStep.yield ok) else pure (ForInStep.yield r)
/-- a comprehension's list, and what its elements made -/
def CompRes (h : Heap) (J : List Value → List (Addr × Obj) → Nat → Prop) : Value → Heap → Nat → Prop := fun v h' n' =>
  ∃ D ys nw ep, v = .ref D ∧ h'.get? D = some (lst ys ep) ∧ h.get? D = none ∧ (∀ p ∈ nw, h'.get? p.1 = some p.2 ∧ h.get? p.1 = none ∧ p.1 ≠ D) ∧ nw.Pairwise (fun a b => a.1 ≠ b.1) ∧ J ys nw n'
section
variable {w : World} {A : Around} {h : Heap} {n : Nat} {env : Env}
theorem src_list {D : Addr} {vs : List Value} {ep : Nat} (hh : A.handled = none) (g : h.get? D = some (lst vs ep)) : Src w A (.ref D) h n vs.length (fun i v => vs[i]? = some v) := fun s Q E st tl q => by
  have hl := st _ _ g
  have hne : D ≠ s.heap.objs.size := Nat.ne_of_lt (Heap.lt_size hl)
  have W := Walks.list (prog := Pg) (w := w) hh s.heap.objs.size D hne vs.toArray
  have hls : s.heap.IsList D vs.toArray := ⟨_, hl, rfl, ep, rfl⟩
  simp only [List.size_toArray, List.getElem?_toArray] at W
  refine wpAny_pyIter_list hls (q _ _ _ W (fun b hb hn => ?_) (fun i h st => st.1.imp fun o e => e.1) ⟨⟨_, Heap.get?_push_size _ rfl, rfl, rfl⟩, hls.at fun o e => Heap.get?_push_of_some _ e⟩)
  rcases List.mem_cons.mp hb with e | e
  · exact absurd e hn
  · rw [List.mem_singleton.mp e]; exact ⟨_, hl⟩
theorem src_tuple {D : Addr} {vs : List Value} {ep : Nat} (hh : A.handled = none) (g : h.get? D = some (tup vs ep)) : Src w A (.ref D) h n vs.length (fun i v => vs[i]? = some v) := fun s Q E st tl q => by
  have hl := st _ _ g
  have hne : D ≠ s.heap.objs.size := Nat.ne_of_lt (Heap.lt_size hl)
  have W := Walks.tuple (prog := Pg) (w := w) hh s.heap.objs.size D hne vs.toArray
  have hls : s.heap.IsTuple D vs.toArray := ⟨_, hl, rfl, ep, rfl⟩
  simp only [List.size_toArray, List.getElem?_toArray] at W
  refine wpAny_pyIter_tuple hls (q _ _ _ W (fun b hb hn => ?_) (fun i h st => st.1.imp fun o e => e.1) ⟨⟨_, Heap.get?_push_size _ rfl, rfl, rfl⟩, hls.at fun o e => Heap.get?_push_of_some _ e⟩)
  rcases List.mem_cons.mp hb with e | e
  · exact absurd e hn
  · rw [List.mem_singleton.mp e]; exact ⟨_, hl⟩
theorem src_range {r : Addr} {k : Nat} {t u v : Tok} (hh : A.handled = none) (hr : IsRange h r 0 k 1 t u v) (hk : Builtin.Range.small 0 k 1 = true) (hz : Builtin.Range.rangeSize 0 k 1 = (k : Int)) : Src w A (.ref r) h n k (fun i v => ∃ t, v = .int (i : Int) t) := fun s Q E st tl q => by
  have W := Walks.range (prog := Pg) (w := w) hh s.heap.objs.size 0 1 k
  have W' : Walks Pg w A s.heap.objs.size [s.heap.objs.size] [s.heap.objs.size] k (fun i v => ∃ t, v = .int (i : Int) t) _ :=
    { sub := W.sub, frame := W.frame, item := fun i s Q E a b c => W.item i s Q E a b fun v h' tk ⟨t, e⟩ => c v h' tk ⟨t, by rw [e]; simp⟩, done := W.done, self := W.self }
  have hr' : IsRange s.heap r 0 k 1 t u v := st _ _ hr
  refine wpAny_pyIter_range hr' hk (q _ _ _ W' (fun b hb hn => absurd (List.mem_singleton.mp hb) hn) (fun i h st => ⟨_, st⟩) ?_)
  show IsRangeIter (s.heap.push _) s.heap.objs.size _ _ _; rw [hz]; simpa using Heap.get?_push_size s.heap rfl

/-- the loop of a list comprehension -/
theorem comp_core {elt iter : Expr} {x : Str} {px pos : Pos} {ifs : List Expr} {scope : Scope} {cl : List (Str × Addr)} {k : Nat} {It : Nat → Value → Prop} {hb : Heap} {nb : Nat} {s : Shared} {E : Value → Shared → Prop} {fp : List Addr} {St : Nat → Heap → Prop} {oI : Obj} {RR : Value → Addr → Result → Shared → Prop} (J : Nat → List Value → List (Addr × Obj) → Nat → Prop)
    (up : ∀ i ys nw a b, J i ys nw a → a ≤ b → J i ys nw b) (hk : k ≤ sizeLine) (st1 : h.StaysIn hb) (tl1 : n ≤ nb) (W : Walks Pg w A hb.objs.size fp [hb.objs.size] k It St) (hfp : ∀ b ∈ fp, b ≠ hb.objs.size → ∃ o, hb.get? b = some o) (live : ∀ i h, St i h → ∃ o, h.get? hb.objs.size = some o) (st0 : St 0 (hb.push oI)) (J0 : ∀ n', n ≤ n' → J 0 [] [] n')
    (step : ∀ i v C m ys nw h' n', h.StaysIn h' → n ≤ n' → i < k → It i v → J i ys nw n' → h'.Ns C m → m x = some v →
      Ev w A h' n' (compIfs ifs (compEnvC scope cl C env)) (fun ok h2 n2 => (ok = false → J (i + 1) ys nw n2) ∧ (ok = true → Ev w A h2 n2 (eval elt (compEnvC scope cl C env)) (fun y h3 n3 =>
        ∃ add : List (Addr × Obj), (∀ p ∈ add, h3.get? p.1 = some p.2 ∧ h2.get? p.1 = none) ∧ add.Pairwise (fun a b => a.1 ≠ b.1) ∧ J (i + 1) (ys ++ [y]) (nw ++ add) n3))))
    (hcell : ∀ y ∈ scope.names, y.2 ≠ .cell) (hkind : scope.kind = .function) (hx : scope.names.lookup x = some .local)
    (hRR : ∀ D C m H tk ys nw ep, hb.StaysIn H → nb ≤ tk → H.get? D = some (lst ys ep) → hb.get? D = none → H.Ns C m → hb.get? C = none → D ≠ C → (∀ p ∈ nw, H.get? p.1 = some p.2 ∧ hb.get? p.1 = none ∧ p.1 ≠ D ∧ p.1 ≠ C) → nw.Pairwise (fun a b => a.1 ≠ b.1) → J k ys nw tk → RR (.ref D) C (.ok .next) (put s H tk)) :
    wpAny (Mo w) A (newList []) (fun acc s₃ => wpAny (Mo w) A (newFunctionEnv scope env.globals cl [] env.qual none .none (some env)) (fun cenv s₄ =>
      codeAny (Mo w) A (.compStart (.ListComp elt [⟨.Name x px, iter, ifs, 0⟩] scope pos) 0 (.ref hb.objs.size) acc { cenv with scope := relabel scope env }) (RR acc cenv.locals) s₄) E s₃) E { s with heap := hb.push oI, toks := nb } := by
  generalize hI : hb.objs.size = I at W hfp live st0 ⊢
  generalize hH1 : hb.push oI = H1 at st0 ⊢
  refine wpAny_newObj_type (wpAny_newFunctionEnv hcell (by intro y hy; simp at hy) (fun h₁ hns₁ hsb₁ => ?_) hkind)
  dsimp only at hns₁ hsb₁ ⊢
  generalize hH2 : H1.push { cls := .type "list", dict := none, data := .seq ([] : List Value).toArray } = H2 at hns₁ hsb₁ ⊢
  have s1 : H1.objs.size = I + 1 := by rw [← hH1, Heap.size_push, hI]
  have s2 : H2.objs.size = I + 2 := by rw [← hH2, Heap.size_push, s1]
  rw [s2] at hns₁ hsb₁ ⊢
  rw [s1]
  have n01 : (I : Nat) ≠ I + 1 := by omega
  have n02 : (I : Nat) ≠ I + 2 := by omega
  have n12 : (I + 1 : Nat) ≠ I + 2 := by omega
  have blw : ∀ b o, hb.get? b = some o → b < I := fun b o e => hI ▸ Heap.lt_size e
  have far : ∀ b : Nat, b ≤ I → b ≠ I + 1 ∧ b ≠ I + 2 := fun b hb => ⟨by omega, by omega⟩
  have old1 : ∀ b o, H1.get? b = some o → h₁.get? b = some o := fun b o e => hsb₁.extBut b o (by have := Heap.lt_size e; rw [s1] at this; exact Nat.ne_of_lt (Nat.lt_succ_of_lt this)) (Heap.get?_push_of_some _ (hH2 ▸ Heap.get?_push_of_some _ e))
  have old : hb.StaysIn h₁ := fun b o e => old1 b o (hH1 ▸ Heap.get?_push_of_some _ e)
  have hacc : h₁.PlainList (I + 1) [].toArray := ⟨_, hsb₁.extBut _ _ n12 (Heap.get?_push_of_some _ (hH2 ▸ s1 ▸ Heap.get?_push_size _ rfl))⟩
  have fps : ∀ b ∈ fp, b ≤ I := fun b hb' => by
    by_cases e : b = I
    · exact Nat.le_of_eq e
    · obtain ⟨o, ho⟩ := hfp b hb' e; exact Nat.le_of_lt (blw _ _ ho)
  have hst₁ : St 0 h₁ := W.frame _ _ _ st0 fun b _ o e => old1 b o e
  have loop : codeAny (Mo w) A (.compLoop (.ListComp elt [⟨.Name x px, iter, ifs, 0⟩] scope pos) 0 (.ref I) (.ref (I + 1)) (compEnvC scope cl (I + 2) env)) (RR (.ref (I + 1)) (I + 2)) (put s h₁ nb) := by
    refine codeAny_compLoop_tests
      (fun c s' => ∃ H tk m ys nw i, s' = put s H tk ∧ nb ≤ tk ∧ c = k + 1 - i ∧ i ≤ k ∧ ys.length ≤ i ∧ hb.StaysIn H ∧ St i H ∧ H.PlainList (I + 1) ys.toArray ∧ H.Ns (I + 2) m ∧
        (∀ p ∈ nw, H.get? p.1 = some p.2 ∧ hb.get? p.1 = none ∧ p.1 ≠ I ∧ p.1 ≠ I + 1 ∧ p.1 ≠ I + 2) ∧ nw.Pairwise (fun a b => a.1 ≠ b.1) ∧ J i ys nw tk) ?_ (k + 1)
      ⟨h₁, nb, _, [], [], 0, rfl, Nat.le_refl _, rfl, Nat.zero_le _, Nat.le_refl _, old, hst₁, hacc, hns₁, (fun _ hp => nomatch hp), List.Pairwise.nil, J0 _ tl1⟩
    rintro c s' ⟨H, tk, m, ys, nw, i, rfl, htk, rfl, hi, hyl, hst, hSt, hpl, hns, hnw, hpw, hJ⟩
    have hp : ((compEnvC scope cl (I + 2) env).scope.kind == .class || ((compEnvC scope cl (I + 2) env).scope.kind == .module && (compEnvC scope cl (I + 2) env).locals != (compEnvC scope cl (I + 2) env).globals)) = false := by simp [compEnvC, relabel, hkind]
    by_cases hlt : i < k
    · refine wpAny_with_toks (n := tk) (Nat.le_refl _) (W.item i _ _ _ hlt hSt fun v h2 tk2 hPv hst2 hk2 htk2 => ?_)
      have hk2' : ∀ b o, b ≠ I → H.get? b = some o → h2.get? b = some o := fun b o hb => hk2 b o fun hm => hb (List.mem_singleton.mp hm)
      refine wpAny_assign_Name (wpAny_storeName_local (lookup_relabel_local hx) (hns.at' fun o e => hk2' _ o n02.symm e) (fun h3 hn3 hs3 => ?_) hp)
      have up3 : ∀ b o, b ≠ I → b ≠ I + 2 → H.get? b = some o → h3.get? b = some o := fun b o hb hb' e => hs3.extBut b o hb' (hk2' b o hb e)
      have St3 : St (i + 1) h3 := W.frame _ _ _ hst2 fun b hb o e => hs3.extBut b o (far b (fps b hb)).2 e
      have stay3 : hb.StaysIn h3 := fun b o e => up3 b o (Nat.ne_of_lt (blw b o e)) (far b (Nat.le_of_lt (blw b o e))).2 (hst b o e)
      have hpl3 : h3.PlainList (I + 1) ys.toArray := by obtain ⟨e, he⟩ := hpl; exact ⟨e, up3 _ _ n01.symm n12 he⟩
      have hnw3 : ∀ p ∈ nw, h3.get? p.1 = some p.2 ∧ hb.get? p.1 = none ∧ p.1 ≠ I ∧ p.1 ≠ I + 1 ∧ p.1 ≠ I + 2 := fun p hp => by
        obtain ⟨a, b, c, d, e⟩ := hnw p hp; exact ⟨up3 _ _ c e a, b, c, d, e⟩
      have l3 : nb ≤ tk2 + 1 := Nat.le_succ_of_le (Nat.le_trans htk htk2)
      refine step i v (I + 2) _ ys nw h3 (tk2 + 1) (stays_trans st1 stay3) (Nat.le_trans tl1 l3) hlt hPv (up _ _ _ _ _ hJ (Nat.le_succ_of_le htk2)) hn3 (if_pos rfl) _ _ _ (stays_refl _) (Nat.le_refl _) fun ok h4 tk4 st4 tl4 hok => ?_
      cases ok with
      | false =>
        simp only [Bool.false_eq_true, if_false]
        exact ⟨k + 1 - (i + 1), by omega, h4, tk4, _, ys, nw, i + 1, rfl, Nat.le_trans l3 tl4, rfl, hlt, Nat.le_succ_of_le hyl, stays_trans stay3 st4, W.frame _ _ _ St3 fun b _ o e => st4 b o e, hpl3.imp fun _ e => st4 _ _ e, hn3.keeps st4, fun p hp => ⟨st4 _ _ (hnw3 p hp).1, (hnw3 p hp).2⟩, hpw, hok.1 rfl⟩
      | true =>
        simp only [if_true]
        refine hok.2 rfl _ _ _ (stays_refl _) (Nat.le_refl _) fun y h5 tk5 st5 tl5 hy => ?_
        obtain ⟨add, hadd, hpa, hJ5⟩ := hy
        have st35 := stays_trans st4 st5
        obtain ⟨ep, hD⟩ := hpl3
        refine wpAny_list_append_plain (hsz := by rw [List.size_toArray]; exact Nat.le_trans (Nat.le_trans hyl hi) hk) ⟨ep, st35 _ _ hD⟩ fun h6 hl6 hs6 => ?_
        have nin : ∀ (a : Addr) (o : Obj), h3.get? a = some o → ∀ p ∈ add, p.1 ≠ a := fun a o ea p hp e => by
          have := (hadd p hp).2; rw [e, st4 _ _ ea] at this; cases this
        obtain ⟨oC, _, _, hC, _⟩ := id hn3
        obtain ⟨oo, hIo⟩ := live _ _ St3
        refine ⟨k + 1 - (i + 1), by omega, h6, tk5, _, ys ++ [y], nw ++ add, i + 1, rfl, Nat.le_trans l3 (Nat.le_trans tl4 tl5), rfl, hlt, by rw [List.length_append, List.length_singleton]; omega,
          fun b o e => hs6.extBut b o (far b (Nat.le_of_lt (blw b o e))).1 (st35 b o (stay3 b o e)), W.frame _ _ _ St3 fun b hb o e => hs6.extBut b o (far b (fps b hb)).1 (st35 b o e), by simpa using hl6, (hn3.keeps st35).sameBut hs6 n12.symm, fun p hp => ?_, ?_, hJ5⟩
        · rcases List.mem_append.mp hp with hp | hp
          · obtain ⟨a, b, c, d, e⟩ := hnw3 p hp; exact ⟨hs6.extBut _ _ d (st35 _ _ a), b, c, d, e⟩
          · have a1 := nin _ _ hD p hp
            exact ⟨hs6.extBut _ _ a1 (hadd p hp).1, none_of (stays_trans stay3 st4) (hadd p hp).2, nin _ _ hIo p hp, a1, nin _ _ hC p hp⟩
        · exact List.pairwise_append.mpr ⟨hpw, hpa, fun a ha b hb e => nin _ _ (hnw3 a ha).1 b hb e.symm⟩
    · have hin : i = k := by omega
      subst hin
      refine wpAny_with_toks (n := tk) (Nat.le_refl _) (W.done _ _ _ hSt fun h2 tk2 hk2 htk2 => ?_)
      have hk2' : ∀ b o, b ≠ I → H.get? b = some o → h2.get? b = some o := fun b o hb => hk2 b o fun hm => hb (List.mem_singleton.mp hm)
      obtain ⟨ep, hD⟩ := hpl
      have none1 : ∀ b : Nat, I ≤ b → hb.get? b = none := fun b l => by
        cases e : hb.get? b with
        | none => rfl
        | some o => exact absurd (blw _ _ e) (Nat.not_lt.mpr l)
      refine hRR _ _ _ h2 tk2 ys nw ep (fun b o e => hk2' b o (Nat.ne_of_lt (blw b o e)) (hst b o e)) (Nat.le_trans htk htk2) (hk2' _ _ n01.symm hD) (none1 _ (Nat.le_succ _)) (hns.at' fun o e => hk2' _ o n02.symm e) (none1 _ (by omega)) n12 (fun p hp => ?_) hpw (up _ _ _ _ _ hJ htk2)
      obtain ⟨a, b, c, d, e⟩ := hnw p hp
      exact ⟨hk2' _ _ c a, b, d, e⟩
  exact codeAny_compStart_list loop (W.self 0 _ _ _ hst₁ loop)
theorem ev_comp {elt iter : Expr} {x : Str} {px pos : Pos} {ifs : List Expr} {scope : Scope} {cl : List (Str × Addr)} {k : Nat} {It : Nat → Value → Prop} {P0 : Value → Heap → Nat → Prop} (J : Nat → List Value → List (Addr × Obj) → Nat → Prop)
    (up : ∀ i ys nw a b, J i ys nw a → a ≤ b → J i ys nw b) (hk : k ≤ sizeLine) (he : Ev w A h n (eval iter env) P0) (src : ∀ v h' n', h.StaysIn h' → n ≤ n' → P0 v h' n' → Src w A v h' n' k It) (J0 : ∀ n', n ≤ n' → J 0 [] [] n')
    (step : ∀ i v C m ys nw h' n', h.StaysIn h' → n ≤ n' → i < k → It i v → J i ys nw n' → h'.Ns C m → m x = some v →
      Ev w A h' n' (compIfs ifs (compEnvC scope cl C env)) (fun ok h2 n2 => (ok = false → J (i + 1) ys nw n2) ∧ (ok = true → Ev w A h2 n2 (eval elt (compEnvC scope cl C env)) (fun y h3 n3 =>
        ∃ add : List (Addr × Obj), (∀ p ∈ add, h3.get? p.1 = some p.2 ∧ h2.get? p.1 = none) ∧ add.Pairwise (fun a b => a.1 ≠ b.1) ∧ J (i + 1) (ys ++ [y]) (nw ++ add) n3))))
    (hclos : closureFor scope env = pure cl) (hcell : ∀ y ∈ scope.names, y.2 ≠ .cell) (hkind : scope.kind = .function) (hnames : ∀ y ∈ scope.names, y.2 = .local → scope.names.lookup y.1 = some .local) (hx : scope.names.lookup x = some .local) (hs : ∀ x, foldedSetIterable iter env x = pure x) :
    Ev w A h n (eval (.ListComp elt [⟨.Name x px, iter, ifs, 0⟩] scope pos) env) (CompRes h (J k)) := fun s Q E st tl q => by
  rw [eval_ListComp]
  refine wpAny_comprehension_free (use := none) rfl hs hclos hkind hnames (he s _ E st tl fun xv hb nb st₁ tl₁ pv => src xv hb nb (stays_trans st st₁) (Nat.le_trans tl tl₁) pv _ _ _ (stays_refl _) (Nat.le_refl _) fun fp St oI W hfp live st0 => ?_)
  refine comp_core (s := s) (RR := fun acc C => compPost (Mo w) A E none Q acc C) J up hk (stays_trans st st₁) (Nat.le_trans tl tl₁) W hfp live st0 J0 step hcell hkind hx fun D C m H tk ys nw ep stH tlH gD nD hn nC hDC hnw hpw hJ => ⟨m, hn, fun h3 hs3 => ?_⟩
  have up3 : ∀ b o, b ≠ C → H.get? b = some o → h3.get? b = some o := fun b o hb e => hs3.extBut b o hb e
  exact q _ h3 tk (fun b o e => up3 b o (fun c => by rw [c] at e; rw [st₁ _ _ e] at nC; cases nC) (stH b o (st₁ b o e))) (Nat.le_trans tl₁ tlH)
    ⟨D, ys, nw, ep, rfl, up3 _ _ hDC gD, none_of (stays_trans st st₁) nD, fun p hp => ⟨up3 _ _ (hnw p hp).2.2.2 (hnw p hp).1, none_of (stays_trans st st₁) (hnw p hp).2.1, (hnw p hp).2.2.1⟩, hpw, hJ⟩
/-- y = a list comprehension: its variables go once y is stored -/
theorem st_asgComp {h₀ : Heap} {L : Addr} {m : Str → Option Value} {news : List (Addr × Obj)} {s : Shared} {Q : Flow → Shared → Prop} {E : Value → Shared → Prop} {rest : List Stmt} {elt iter : Expr} {x y : Str} {px py pos spos : Pos} {ifs : List Expr} {scope : Scope} {cl : List (Str × Addr)} {k : Nat} {It : Nat → Value → Prop} {P0 : Value → Heap → Nat → Prop} (J : Nat → List Value → List (Addr × Obj) → Nat → Prop)
    (F : Fr h₀ L h m) (N : News h₀ L h news) (hL : env.locals = L)
    (up : ∀ i ys nw a b, J i ys nw a → a ≤ b → J i ys nw b) (hk : k ≤ sizeLine) (he : Ev w A h n (eval iter env) P0) (src : ∀ v h' n', h.StaysIn h' → n ≤ n' → P0 v h' n' → Src w A v h' n' k It) (J0 : ∀ n', n ≤ n' → J 0 [] [] n')
    (step : ∀ i v C m ys nw h' n', h.StaysIn h' → n ≤ n' → i < k → It i v → J i ys nw n' → h'.Ns C m → m x = some v →
      Ev w A h' n' (compIfs ifs (compEnvC scope cl C env)) (fun ok h2 n2 => (ok = false → J (i + 1) ys nw n2) ∧ (ok = true → Ev w A h2 n2 (eval elt (compEnvC scope cl C env)) (fun y h3 n3 =>
        ∃ add : List (Addr × Obj), (∀ p ∈ add, h3.get? p.1 = some p.2 ∧ h2.get? p.1 = none) ∧ add.Pairwise (fun a b => a.1 ≠ b.1) ∧ J (i + 1) (ys ++ [y]) (nw ++ add) n3))))
    (go : ∀ D ys nw ep h' tk, n ≤ tk → Fr h₀ L h' (upd m y (.ref D)) → News h₀ L h' ((D, lst ys ep) :: (nw ++ news)) → (∀ q ∈ news, q.1 ≠ D ∧ ∀ p ∈ nw, p.1 ≠ q.1) → (∀ p ∈ nw, p.1 ≠ D) → nw.Pairwise (fun a b => a.1 ≠ b.1) → J k ys nw tk → wpAny (Mo w) A (execs rest env) Q E (put s h' tk))
    (hsw : swapsWith (.ListComp elt [⟨.Name x px, iter, ifs, 0⟩] scope pos) (some (.Name y py)) spos.line env = pure true)
    (hclos : closureFor scope env = pure cl) (hcell : ∀ y ∈ scope.names, y.2 ≠ .cell) (hkind : scope.kind = .function) (hnames : ∀ y ∈ scope.names, y.2 = .local → scope.names.lookup y.1 = some .local) (hx : scope.names.lookup x = some .local) (hs : ∀ x, foldedSetIterable iter env x = pure x)
    (hy : env.kindOf y = some .local) (hfk : env.scope.kind = .function) :
    wpAny (Mo w) A (execs (.Assign [.Name y py] (.ListComp elt [⟨.Name x px, iter, ifs, 0⟩] scope pos) spos :: rest) env) Q E (put s h n) := by
  subst hL
  refine st_cons ?_
  rw [exec_Assign_Name_used _ _ _ _ hsw]
  refine wpAny_bind (wpAny_standAt (wpAny_bind ?_))
  show wpAny _ A (do let _ ← comprehension (.ListComp elt [⟨.Name x px, iter, ifs, 0⟩] scope pos) scope env _ (newList []) false (eval iter env) (some (assign (.Name y py) env))) _ _ _
  refine wpAny_bind (wpAny_mono (wpAny_comprehension_free (use := some (assign (.Name y py) env)) (Q := fun _ s' => wpAny (Mo w) A (execs rest env) Q E s') rfl hs hclos hkind hnames
    (he (put s h n) _ E (stays_refl _) (Nat.le_refl _) fun xv hb nb st₁ tl₁ pv => src xv hb nb st₁ tl₁ pv _ _ _ (stays_refl _) (Nat.le_refl _) fun fp St oI W hfp live st0 => ?_)) (fun _ s' hq => wpAny_pure (wpAny_pure hq)) fun _ _ e => e)
  have st₁' : h.StaysIn hb := st₁
  have tl₁' : n ≤ nb := tl₁
  refine comp_core (s := s) (RR := fun acc C => compPost (Mo w) A E (some (assign (.Name y py) env)) (fun _ s' => wpAny (Mo w) A (execs rest env) Q E s') acc C) J up hk st₁' tl₁' W hfp live st0 J0 step hcell hkind hx fun D C m' H tk ys nw ep stH tlH gD nD hn nC hDC hnw hpw hJ => ?_
  have sHH := stays_trans st₁' stH
  have F₁ := fr_grow F sHH
  have hLo : ∃ o, h.get? env.locals = some o := by obtain ⟨o, _, _, e, _⟩ := F.ns; exact ⟨o, e⟩
  obtain ⟨oL, hLo⟩ := hLo
  have apart : ∀ a : Addr, hb.get? a = none → ∀ b o, h.get? b = some o → b ≠ a := fun a ha b o e c => by rw [c] at e; rw [st₁' _ _ e] at ha; cases ha
  have hLC := apart C nC _ _ hLo
  have hLD := apart D nD _ _ hLo
  show wpAny _ A (assign (.Name y py) env (.ref D)) _ _ _
  refine wpAny_assign_Name (wpAny_storeName_local hy F₁.ns (fun h₂ hn₂ hs₂ => ?_) (by rw [hfk]; rfl))
  refine ⟨m', hn.sameBut hs₂ (Ne.symm hLC), fun h₃ hs₃ => ?_⟩
  have up3 : ∀ b o, b ≠ C → b ≠ env.locals → H.get? b = some o → h₃.get? b = some o := fun b o h1 h2 e => hs₃.extBut b o h1 (hs₂.extBut b o h2 e)
  refine go D ys nw ep h₃ (tk + 1) (Nat.le_succ_of_le (Nat.le_trans tl₁' tlH)) ⟨hn₂.sameBut hs₃ hLC, fun b o e => up3 b o (apart C nC _ _ (F.keep b o e)) (fun c => ?_) (stH b o (st₁' b o (F.keep b o e))), F.above⟩ (fun p hp => ?_) (fun q hq => ⟨apart D nD _ _ (N q hq).1, fun p hp c => apart p.1 (hnw p hp).2.1 _ _ (N q hq).1 c.symm⟩) (fun p hp => (hnw p hp).2.2.1) hpw (up _ _ _ _ _ hJ (Nat.le_succ _))
  · have := Heap.lt_size e; rw [c] at this; exact absurd (Nat.lt_of_lt_of_le this F.above) (Nat.lt_irrefl _)
  · have none0 : ∀ a, hb.get? a = none → h₀.get? a = none := fun a e => none_of F.keep (none_of st₁' e)
    have fresh : ∀ a o, H.get? a = some o → hb.get? a = none → a ≠ C → h₃.get? a = some o ∧ a ≠ env.locals ∧ h₀.get? a = none := fun a o e na hc => by
      have hal : a ≠ env.locals := fun c => apart a na _ _ hLo c.symm
      exact ⟨up3 a o hc hal e, hal, none0 _ na⟩
    rcases List.mem_cons.mp hp with e | hp
    · rw [e]; exact fresh _ _ gD nD hDC
    · rcases List.mem_append.mp hp with hp | hp
      · exact fresh _ _ (hnw p hp).1 (hnw p hp).2.1 (hnw p hp).2.2.2
      · have := N p hp
        exact ⟨up3 _ _ (apart C nC _ _ this.1) this.2.1 (sHH _ _ this.1), this.2⟩
end

def hB (b : Bool) : Int := if b then 1 else 0
theorem hash_bool {prog : Program} {w : World} {A : Around} {E : Value → Shared → Prop} {s : Shared} {b : Bool} {Q : Int → Shared → Prop} (h : Q (hB b) { s with toks := s.toks + 1 }) : wpAny (model prog w) A (pyHash (.bool b)) Q E s := by
  have hT : s.TypeIs (.bool b) "bool" := rfl
  unfold pyHash
  have hv : [Value.bool b].any Value.onHeap = false := rfl
  refine wpAny_bind ?_
  rw [cRoomFor, if_neg (by rw [hv]; exact Bool.false_ne_true)]; refine wpAny_pure ?_
  refine wpAny_bind (wpAny_specialOf hT F.slot_bool_hash.lookup ?_)
  show wpAny _ _ (if (some (Value.builtin "int.__hash__") == some Value.none) = true then _ else _) Q E s
  rw [if_neg (by rw [beq_builtin_none]; exact Bool.false_ne_true)]
  refine wpAny_bind (wpAny_specialOf hT F.slot_bool_hash.lookup ?_)
  show wpAny _ _ (callSpecialIfBoundUnlessNone? (.bool b) "__hash__" _ >>= _) Q E s
  refine wpAny_bind (wpAny_callSpecialIfBoundUnlessNone?_slot hT F.slot_bool_hash
    (wpAny_call_entry F.slot_bool_hash hT entry_int_hash
      (show wpAny _ _ (do ret (← mkInt (rawHash (hB b)))) _ _ s from wpAny_ret_mkInt ?_) (args_int_hash _)))
  show wpAny _ _ (if (decide (-(2 : Int) ^ 63 ≤ rawHash (hB b)) && decide (rawHash (hB b) < 2 ^ 63)) = true then _ else _) Q E _
  have hr := rawHash_range (hB b)
  rw [if_pos (by rw [decide_eq_true hr.1, decide_eq_true hr.2]; rfl)]
  have e : hashInt (hB b) = hB b := by cases b <;> decide +kernel
  refine wpAny_pure ?_
  show Q (hashInt (hB b)) _
  rw [e]; exact h
theorem eqBool_bool {prog : Program} {w : World} {A : Around} {E : Value → Shared → Prop} {s : Shared} {b : Bool} {Q : Bool → Shared → Prop} (h : Q true s) : wpAny (model prog w) A (eqBool (.bool b) (.bool b)) Q E s := by
  unfold eqBool
  show wpAny _ _ (if (Value.bool b == Value.bool b) = true then _ else _) Q E s
  rw [if_pos (by cases b <;> decide +kernel)]
  exact wpAny_bind (wpAny_rule (wpAny_pure h))
/-- the one key b -/
def oneBool (prog : Program) (w : World) (b : Bool) : KeyKind prog w Unit := ⟨fun _ v => v == .bool b, fun _ => hB b, fun _ _ _ _ _ => rfl, fun _ v h => by rw [eq_of_beq h]; rfl,
  fun hv h => by rw [eq_of_beq hv]; exact hash_bool h, fun hu hv h => by rw [eq_of_beq hu, eq_of_beq hv]; exact eqBool_bool (by simpa using h), fun _ x t v h => by cases b <;> cases h⟩
def sTab (led b : Bool) : SetTable := { mask := 7, place := #[if b then 1 else 0], dummies := #[], finger := 0, led := led, moves := 0, plain := true }
abbrev setO0 (led : Bool) : Obj := { cls := .type "set", dict := none, data := .set #[] 0 (.fresh 0 0 led) }
abbrev setO1 (led b : Bool) : Obj := { cls := .type "set", dict := none, data := .set #[(hB b, .bool b)] 1 (sTab led b) }
theorem layNew_one (led b : Bool) : layNew (.fresh 0 0 led) #[] (hB b) (.bool b) = (#[(hB b, .bool b)], sTab led b, false, false) := by cases led <;> cases b <;> decide +kernel
theorem fits_one (led b : Bool) : (sTab led b).fits 1 = true := by cases led <;> cases b <;> decide
section
variable {w : World} {A : Around} {E : Value → Shared → Prop} {s : Shared} {a : Addr} {led b : Bool}
theorem set_add0 {Q : Bool → Shared → Prop} (ho : s.heap.get? a = some (setO0 led)) (h : ∀ h', Heap.SameBut a s.heap h' → h'.get? a = some (setO1 led b) → Q true { s with heap := h' }) :
    wpAny (Mo w) A (setAddHashed a (.bool b) (hB b)) Q E s := by
  unfold setAddHashed setAddHashedIn
  refine wpAny_holding (wpAny_bind (wpAny_setState_of ho rfl rfl ?_))
  dsimp only
  rw [show byScan (.bool b) #[] = true from by cases b <;> decide +kernel]
  simp only [↓reduceIte]
  unfold setAddByScan
  rw [layNew_one]
  refine wpAny_bind (wpAny_bind (wpAny_rule (wpAny_bind (wpAny_setScan_of (knd := oneBool Pg w b) (k := ()) (by simp [oneBool]) ho rfl rfl (fun e he => nomatch he) ?_))))
  refine wpAny_bind (wpAny_pure ?_)
  refine wpAny_bind ?_
  show wpAny _ _ (pure true) _ _ _
  refine wpAny_pure ?_
  simp only [↓reduceIte]
  refine wpAny_bind (wpAny_storeSet_of ho rfl ?_ (by simp; decide))
  have hf : (!false && (sTab led b).tooFull) = false := by cases led <;> cases b <;> decide
  rw [hf]
  simp only [Bool.false_eq_true, ↓reduceIte]
  repeat (first | refine wpAny_pure ?_ | refine wpAny_bind ?_)
  refine h _ (Heap.SameBut.update ..) ?_
  rw [Heap.get?_update_self _ ho rfl]; rfl
theorem set_add1 {Q : Bool → Shared → Prop} (ho : s.heap.get? a = some (setO1 led b)) (h : Q false s) :
    wpAny (Mo w) A (setAddHashed a (.bool b) (hB b)) Q E s := by
  unfold setAddHashed setAddHashedIn
  refine wpAny_holding (wpAny_bind (wpAny_setState_of ho rfl (fits_one led b) ?_))
  dsimp only
  rw [show byScan (.bool b) #[(hB b, .bool b)] = true from by cases b <;> decide +kernel]
  simp only [↓reduceIte]
  unfold setAddByScan
  refine wpAny_bind (wpAny_bind (wpAny_rule (wpAny_bind (wpAny_setScan_of (knd := oneBool Pg w b) (k := ()) (by simp [oneBool]) ho rfl (fits_one led b) (fun e he => ?_) ?_))))
  · rw [List.mem_singleton.mp he]; exact ⟨⟨(), by simp [oneBool], rfl⟩, rfl⟩
  · rw [show List.findIdx? (fun e => (oneBool Pg w b).is () e.2) #[(hB b, Value.bool b)].toList = some 0 from by simp [oneBool, List.findIdx?_cons]]
    exact wpAny_pure (wpAny_pure h)
theorem call_add {o : Obj} {Q : Value → Shared → Prop} (ho : s.heap.get? a = some o) (hc : o.cls = .type "set")
    (h : wpAny (Mo w) A.in1 (setAddHashed a (.bool b) (hB b)) (fun _ s' => Q .none s') (fun _ _ => False) { s with toks := s.toks + 1 }) : wpAny (Mo w) A (call (.builtin "set.add") [.ref a, .bool b]) Q E s := by
  refine wpAny_call_entry F.slot_set_add ⟨o, ho, hc⟩ F.entry_set_add ?_ (F.args_set_add_2 _ _)
  unfold Builtin.«set.add» Builtin.Frozenset.oneOther
  simp only [List.isEmpty_nil, bind_assoc]
  unfold Builtin.Frozenset.addrOf setAdd
  refine wpAny_bind (wpAny_pure ?_)
  try dsimp only
  refine wpAny_bind (wpAny_pure ?_)
  try dsimp only
  refine wpAny_bind ?_
  refine wpAny_holding ?_
  refine wpAny_bind (hash_bool ?_)
  refine wpAny_mono h (fun _ s' q => ?_) fun _ _ x => x.elim
  show wpAny _ _ (ret Value.none) _ _ _
  exact wpAny_pure ⟨_, rfl, q⟩
end
theorem compTurn_set (elt target iter : Expr) (scope : Scope) (pos : Pos) (it acc : Value) (env : Env) :
    compTurn (.SetComp elt [⟨target, iter, [], 0⟩] scope pos) 0 it acc env = (standAt iter.pos >>= fun _ => pyNext it >>= fun r => match r with
      | none => pure (.done .next)
      | some v => letOwnedTupleGo target it v >>= fun _ => assign target env v >>= fun _ =>
        (eval elt env >>= fun x => standAt elt.pos >>= fun _ => call (.builtin "set.add") [acc, x] >>= fun _ => pure ()) >>= fun _ =>
          again (.compLoop (.SetComp elt [⟨target, iter, [], 0⟩] scope pos) 0 it acc env)) := by rfl
section
variable {w : World} {A : Around} {h : Heap} {n : Nat} {env : Env}
theorem compLoop_set {elt target iter : Expr} {scope : Scope} {pos : Pos} {it acc : Value} {R : Result → Shared → Prop} {s : Shared} (I : Nat → Shared → Prop)
    (turn : ∀ n s, I n s → wpAny (Mo w) A (pyNext it) (fun r s₁ => match r with
      | none => R (.ok .next) s₁
      | some v => wpAny (Mo w) A (assign target env v) (fun _ s₂ => wpAny (Mo w) A (eval elt env) (fun x s₃ =>
          wpAny (Mo w) A (call (.builtin "set.add") [acc, x]) (fun _ s₄ => ∃ m, m < n ∧ I m s₄) (fun _ _ => False) s₃) (fun _ _ => False) s₂) (fun _ _ => False) s₁) (fun _ _ => False) s)
    (n : Nat) (h : I n s) (ht : ∀ v, letOwnedTupleGo target it v = pure ()) :
    codeAny (Mo w) A (.compLoop (.SetComp elt [⟨target, iter, [], 0⟩] scope pos) 0 it acc env) R s := by
  refine codeAny_loop rfl I (fun n s hI => ?_) n h
  show wpAny _ _ ((compTurn (.SetComp elt [⟨target, iter, [], 0⟩] scope pos) 0 it acc env).onRaise (fun x => do noteFrame x env; theTreesLotGoes x)) _ _ s
  refine wpAny_noted ?_
  rw [compTurn_set]
  refine wpAny_bind (wpAny_standAt (wpAny_bind (wpAny_mono (turn n s hI) (fun r s₁ h₁ => ?_) fun _ _ x => x.elim)))
  cases r with
  | none => exact wpAny_pure h₁
  | some v =>
    refine wpAny_bind (wpAny_of_eq (ht v) ?_)
    exact wpAny_bind (wpAny_mono h₁ (fun _ s₂ h₂ => wpAny_bind (wpAny_bind (wpAny_mono h₂ (fun x s₃ h₃ => wpAny_bind (wpAny_standAt (wpAny_bind (wpAny_mono h₃
      (fun _ s₄ h₄ => wpAny_pure (wpAny_pure ⟨rfl, h₄⟩)) fun _ _ x => x.elim)))) fun _ _ x => x.elim))) fun _ _ x => x.elim)
theorem compStart_set {elt target iter : Expr} {scope : Scope} {pos : Pos} {it acc : Value} {R : Result → Shared → Prop} {s : Shared}
    (h0 : codeAny (Mo w) A (.compLoop (.SetComp elt [⟨target, iter, [], 0⟩] scope pos) 0 it acc env) R s)
    (h : wpAny (Mo w) A (pyIter it) (fun it' s' => codeAny (Mo w) A (.compLoop (.SetComp elt [⟨target, iter, [], 0⟩] scope pos) 0 it' acc env) R s') (fun _ _ => False) s) :
    codeAny (Mo w) A (.compStart (.SetComp elt [⟨target, iter, [], 0⟩] scope pos) 0 it acc env) R s := by
  refine codeAny_of_tree ?_
  show wpAny _ _ ((compStart (.SetComp elt [⟨target, iter, [], 0⟩] scope pos) 0 it acc env).onRaise (fun x => do noteFrame x env; standAt theWindowsPlace)) _ _ s
  refine wpAny_notedAt ?_
  unfold compStart
  show wpAny _ _ (ask >>= _) _ _ s
  refine wpAny_bind (wpAny_askSetting (wpAny_ite ?_))
  split
  · first
      | exact wpAny_bind (wpAny_pure (wpAny_pure (And.intro rfl h0)))
      | exact wpAny_pure (And.intro rfl h0)
  · refine wpAny_bind (wpAny_rule ?_)
    show wpAny _ _ (standAt iter.pos >>= _) _ _ s
    exact wpAny_bind (wpAny_standAt (wpAny_bind (wpAny_mono h (fun it' s' h' => wpAny_pure (And.intro rfl h')) fun _ _ x => x.elim)))
/-- whether this world's sets are walked by their text -/
abbrev byTxt (w : World) : Bool := w.params.followText "set-order"
theorem ev_setComp {elt iter : Expr} {x : Str} {px pos : Pos} {scope : Scope} {cl : List (Str × Addr)} {k : Nat} {b : Bool} {It : Nat → Value → Prop} {P0 : Value → Heap → Nat → Prop} (hk : 0 < k)
    (he : Ev w A h n (eval iter env) P0) (src : ∀ v h' n', h.StaysIn h' → n ≤ n' → P0 v h' n' → Src w A v h' n' k It)
    (step : ∀ i v C m h' n', h.StaysIn h' → n ≤ n' → i < k → It i v → h'.Ns C m → m x = some v → Ev w A h' n' (eval elt (compEnvC scope cl C env)) (IsB b))
    (hclos : closureFor scope env = pure cl) (hcell : ∀ y ∈ scope.names, y.2 ≠ .cell) (hkind : scope.kind = .function) (hnames : ∀ y ∈ scope.names, y.2 = .local → scope.names.lookup y.1 = some .local) (hx : scope.names.lookup x = some .local) (hs : ∀ x, foldedSetIterable iter env x = pure x) :
    Ev w A h n (eval (.SetComp elt [⟨.Name x px, iter, [], 0⟩] scope pos) env) (fun v h' _ => ∃ D, v = .ref D ∧ h'.get? D = some (setO1 (!byTxt w) b) ∧ h.get? D = none) := fun s Q E st tl q => by
  rw [arm_eval_SetComp]
  refine wpAny_comprehension_free (use := none) rfl hs hclos hkind hnames (he s _ E st tl fun xv hb nb st₁ tl₁ pv => src xv hb nb (stays_trans st st₁) (Nat.le_trans tl tl₁) pv _ _ _ (stays_refl _) (Nat.le_refl _) fun fp St oI W hfp live st0 => ?_)
  have st1 : h.StaysIn hb := stays_trans st st₁
  have tl1 : n ≤ nb := Nat.le_trans tl tl₁
  dsimp only at st0 ⊢
  generalize hI : hb.objs.size = I at W hfp live st0 ⊢
  generalize hH1 : hb.push oI = H1 at st0 ⊢
  unfold newSet setsByText
  refine wpAny_bind (wpAny_bind (wpAny_askSetting (wpAny_pure ?_)))
  dsimp only
  simp only [newObj]
  refine wpAny_bind (wpAny_alloc (wpAny_pure ?_))
  refine wpAny_newFunctionEnv hcell (by intro y hy; simp at hy) (fun h₁ hns₁ hsb₁ => ?_) hkind
  dsimp only at hns₁ hsb₁ ⊢
  generalize hH2 : H1.push _ = H2 at hns₁ hsb₁ ⊢
  have s1 : H1.objs.size = I + 1 := by rw [← hH1, Heap.size_push, hI]
  have s2 : H2.objs.size = I + 2 := by rw [← hH2, Heap.size_push, s1]
  rw [s2] at hns₁ hsb₁ ⊢
  rw [s1]
  have n01 : (I : Nat) ≠ I + 1 := by omega
  have n02 : (I : Nat) ≠ I + 2 := by omega
  have n12 : (I + 1 : Nat) ≠ I + 2 := by omega
  have blw : ∀ b o, hb.get? b = some o → b < I := fun b o e => hI ▸ Heap.lt_size e
  have far : ∀ b : Nat, b ≤ I → b ≠ I + 1 ∧ b ≠ I + 2 := fun b hb => ⟨by omega, by omega⟩
  have old1 : ∀ b o, H1.get? b = some o → h₁.get? b = some o := fun b o e => hsb₁.extBut b o (by have := Heap.lt_size e; rw [s1] at this; exact Nat.ne_of_lt (Nat.lt_succ_of_lt this)) (Heap.get?_push_of_some _ (hH2 ▸ Heap.get?_push_of_some _ e))
  have old : hb.StaysIn h₁ := fun b o e => old1 b o (hH1 ▸ Heap.get?_push_of_some _ e)
  have hacc : h₁.get? (I + 1) = some (setO0 (!byTxt w)) := hsb₁.extBut _ _ n12 (Heap.get?_push_of_some _ (hH2 ▸ s1 ▸ Heap.get?_push_size _ rfl))
  have fps : ∀ b ∈ fp, b ≤ I := fun b hb' => by
    by_cases e : b = I
    · exact Nat.le_of_eq e
    · obtain ⟨o, ho⟩ := hfp b hb' e; exact Nat.le_of_lt (blw _ _ ho)
  have hst₁ : St 0 h₁ := W.frame _ _ _ st0 fun b _ o e => old1 b o e
  have loop : codeAny (Mo w) A (.compLoop (.SetComp elt [⟨.Name x px, iter, [], 0⟩] scope pos) 0 (.ref I) (.ref (I + 1)) (compEnvC scope cl (I + 2) env)) (compPost (Mo w) A E none Q (.ref (I + 1)) (I + 2)) (put s h₁ nb) := by
    refine compLoop_set (fun c s' => ∃ H tk m i, s' = put s H tk ∧ nb ≤ tk ∧ c = k + 1 - i ∧ i ≤ k ∧ hb.StaysIn H ∧ St i H ∧ H.get? (I + 1) = some (if i = 0 then setO0 (!byTxt w) else setO1 (!byTxt w) b) ∧ H.Ns (I + 2) m) ?_ (k + 1)
      ⟨h₁, nb, _, 0, rfl, Nat.le_refl _, rfl, Nat.zero_le _, old, hst₁, hacc, hns₁⟩ (fun _ => rfl)
    rintro c s' ⟨H, tk, m, i, rfl, htk, rfl, hi, hst, hSt, hD, hns⟩
    have hp : ((compEnvC scope cl (I + 2) env).scope.kind == .class || ((compEnvC scope cl (I + 2) env).scope.kind == .module && (compEnvC scope cl (I + 2) env).locals != (compEnvC scope cl (I + 2) env).globals)) = false := by simp [compEnvC, relabel, hkind]
    by_cases hlt : i < k
    · refine wpAny_with_toks (n := tk) (Nat.le_refl _) (W.item i _ _ _ hlt hSt fun v h2 tk2 hPv hst2 hk2 htk2 => ?_)
      have hk2' : ∀ b o, b ≠ I → H.get? b = some o → h2.get? b = some o := fun b o hb => hk2 b o fun hm => hb (List.mem_singleton.mp hm)
      refine wpAny_assign_Name (wpAny_storeName_local (lookup_relabel_local hx) (hns.at' fun o e => hk2' _ o n02.symm e) (fun h3 hn3 hs3 => ?_) hp)
      have up3 : ∀ b o, b ≠ I → b ≠ I + 2 → H.get? b = some o → h3.get? b = some o := fun b o hb hb' e => hs3.extBut b o hb' (hk2' b o hb e)
      have St3 : St (i + 1) h3 := W.frame _ _ _ hst2 fun b hb o e => hs3.extBut b o (far b (fps b hb)).2 e
      have stay3 : hb.StaysIn h3 := fun b o e => up3 b o (Nat.ne_of_lt (blw b o e)) (far b (Nat.le_of_lt (blw b o e))).2 (hst b o e)
      have hD3 := up3 _ _ n01.symm n12 hD
      have l3 : nb ≤ tk2 + 1 := Nat.le_succ_of_le (Nat.le_trans htk htk2)
      refine step i v (I + 2) _ h3 (tk2 + 1) (stays_trans st1 stay3) (Nat.le_trans tl1 l3) hlt hPv hn3 (if_pos rfl) _ _ _ (stays_refl _) (Nat.le_refl _) fun y h4 tk4 st4 tl4 hy => ?_
      cases hy
      have hD4 := st4 _ _ hD3
      have fin : ∀ h5, Heap.SameBut (I + 1) h4 h5 → h5.get? (I + 1) = some (setO1 (!byTxt w) b) → ∃ m, m < k + 1 - i ∧ ∃ H tk m_1 j, put s h5 (tk4 + 1) = put s H tk ∧ nb ≤ tk ∧ m = k + 1 - j ∧ j ≤ k ∧ hb.StaysIn H ∧ St j H ∧ H.get? (I + 1) = some (if j = 0 then setO0 (!byTxt w) else setO1 (!byTxt w) b) ∧ H.Ns (I + 2) m_1 := fun h5 sb e =>
        ⟨k + 1 - (i + 1), by omega, h5, tk4 + 1, _, i + 1, rfl, Nat.le_succ_of_le (Nat.le_trans l3 tl4), rfl, hlt, fun b o e => sb.extBut b o (far b (Nat.le_of_lt (blw b o e))).1 (st4 b o (stay3 b o e)), W.frame _ _ _ St3 fun b hb o e => sb.extBut b o (far b (fps b hb)).1 (st4 b o e), e, (hn3.keeps st4).sameBut sb n12.symm⟩
      by_cases h0 : i = 0
      · rw [if_pos h0] at hD4
        exact call_add hD4 rfl (set_add0 hD4 fun h5 sb e => fin h5 sb e)
      · rw [if_neg h0] at hD4
        exact call_add hD4 rfl (set_add1 hD4 (fin h4 (.refl ..) hD4))
    · have hin : i = k := by omega
      subst hin
      rw [if_neg (Nat.ne_of_gt hk)] at hD
      refine wpAny_with_toks (n := tk) (Nat.le_refl _) (W.done _ _ _ hSt fun h2 tk2 hk2 htk2 => ?_)
      have hk2' : ∀ b o, b ≠ I → H.get? b = some o → h2.get? b = some o := fun b o hb => hk2 b o fun hm => hb (List.mem_singleton.mp hm)
      refine ⟨_, hns.at' fun o e => hk2' _ o n02.symm e, fun h3 hs3 => ?_⟩
      have up3 : ∀ b o, b ≠ I → b ≠ I + 2 → H.get? b = some o → h3.get? b = some o := fun b o hb hb' e => hs3.extBut b o hb' (hk2' b o hb e)
      refine q _ h3 tk2 (fun b o e => up3 b o (Nat.ne_of_lt (blw b o (st₁ b o e))) (far b (Nat.le_of_lt (blw b o (st₁ b o e)))).2 (hst b o (st₁ b o e))) (Nat.le_trans tl₁ (Nat.le_trans htk htk2)) ⟨I + 1, rfl, up3 _ _ n01.symm n12 hD, none_of st1 ?_⟩
      cases e : hb.get? (I + 1) with
      | none => rfl
      | some o => exact absurd (blw _ _ e) (Nat.not_lt.mpr (Nat.le_succ _))
  exact compStart_set loop (W.self 0 _ _ _ hst₁ loop)
end

def ltS (x y : Str) : Bool := x.cps.toList < y.cps.toList
def ltL : List Str → List Str → Bool
  | x :: xs, y :: ys => if x = y then ltL xs ys else ltS x y
  | [], _ :: _ => true
  | _, [] => false
def gtL : List Str → List Str → Bool
  | x :: xs, y :: ys => if x = y then gtL xs ys else ltS y x
  | _ :: _, [] => true
  | [], _ => false
theorem cmpLt {prog : Program} {w : World} {A : Around} {E : Value → Shared → Prop} {s : Shared} {x y : Str} {t u : Tok} {Q : Value → Shared → Prop} (h : Q (.bool (ltS x y)) s) : wpAny (model prog w) A (richCompare .Lt (.str x t) (.str y u)) Q E s :=
  richCompare_gives (op := .Lt) (T := "str") rfl rfl F.slot_str_lt F.entry_str_lt (F.args_str_lt_2 _ _) (gives_str_lt x y t u) (fun e => nomatch e) h
theorem cmpGt {prog : Program} {w : World} {A : Around} {E : Value → Shared → Prop} {s : Shared} {x y : Str} {t u : Tok} {Q : Value → Shared → Prop} (h : Q (.bool (ltS y x)) s) : wpAny (model prog w) A (richCompare .Gt (.str x t) (.str y u)) Q E s :=
  richCompare_gives (op := .Gt) (T := "str") rfl rfl F.slot_str_gt F.entry_str_gt (F.args_str_gt_2 _ _) (gives_str_gt x y t u) (fun e => nomatch e) h
open AutoSeq1 MeetsSeq3 in
theorem lt_loop (l b n n2 : Nat) : ∀ (xs ys : List (Str × Tok)) (us vs : List (Str × Tok)) (i : Nat), i = us.length → i = vs.length →
    Meets (Builtin.«list.__eq__.loop» ⟨[.ref l, .ref b, rawInt i, rawInt 0], []⟩)
      (fun A R s => s.heap.get? l = some (lst (strValues (us ++ xs)) n) ∧ s.heap.get? b = some (lst (strValues (vs ++ ys)) n2) ∧ R (.ok (.ret (.bool (ltL (xs.map (·.1)) (ys.map (·.1)))))) s)
  | [], ys, us, vs, i, hi, hj => by
    intro prog w A R s h
    obtain ⟨hp, g, d, tk, os⟩ := s; obtain ⟨hl, hb, h⟩ := h
    wp_walk using wpAny_loadPart' hl, wpAny_loadPart' hb
    have hi1 : (strValues (us ++ [])).toArray[((i : Nat) : Int).toNat]? = none := by simp [strValues, hi]
    rw [hi1]
    cases hy : (strValues (vs ++ ys)).toArray[((i : Nat) : Int).toNat]? <;>
    · wp_walk using wpAny_loadPart' hl, wpAny_loadPart' hb
      have e : decide ((strValues (us ++ [])).toArray.size < (strValues (vs ++ ys)).toArray.size) = ltL (([] : List (Str × Tok)).map (·.1)) (ys.map (·.1)) := by
        cases ys <;> simp [strValues, ltL] <;> omega
      rw [← e] at h
      exact h
  | x :: xs, [], us, vs, i, hi, hj => by
    intro prog w A R s h
    obtain ⟨hp, g, d, tk, os⟩ := s; obtain ⟨hl, hb, h⟩ := h
    wp_walk using wpAny_loadPart' hl, wpAny_loadPart' hb
    have hi1 : (strValues (vs ++ [])).toArray[((i : Nat) : Int).toNat]? = none := by simp [strValues, hj]
    rw [hi1]
    cases hy : (strValues (us ++ x :: xs)).toArray[((i : Nat) : Int).toNat]? <;>
    · wp_walk using wpAny_loadPart' hl, wpAny_loadPart' hb
      have e : decide ((strValues (us ++ x :: xs)).toArray.size < (strValues (vs ++ [])).toArray.size) = ltL ((x :: xs).map (·.1)) (([] : List (Str × Tok)).map (·.1)) := by
        simp [strValues, ltL]; omega
      rw [← e] at h
      exact h
  | (x, t) :: xs, (y, u) :: ys, us, vs, i, hi, hj => by
    have ih := lt_loop l b n n2 xs ys (us ++ [(x, t)]) (vs ++ [(y, u)]) (i + 1) (by simp [hi]) (by simp [hj])
    intro prog w A R s h
    obtain ⟨hp, g, d, tk, os⟩ := s; obtain ⟨hl, hb, h⟩ := h
    wp_walk using wpAny_loadPart' hl, wpAny_loadPart' hb
    have hi1 : (strValues (us ++ (x, t) :: xs)).toArray[((i : Nat) : Int).toNat]? = some (.str x t) := by simp [strValues, hi]
    have hi2 : (strValues (vs ++ (y, u) :: ys)).toArray[((i : Nat) : Int).toNat]? = some (.str y u) := by simp [strValues, hj]
    rw [hi1, hi2]
    refine wpAny_bind (wpAny_eqBool_str ?_)
    have hc : ((i : Int) + 1) = ((i + 1 : Nat) : Int) := by push_cast; rfl
    by_cases e : x = y
    · subst e
      rw [decide_eq_true rfl]
      wp_walk
      rw [hc]
      exact ⟨plainId_quiet plain_eq_loop _, codeAny_builtin entry_eq_loop (by
        rw [Around.under_plainId plain_eq_loop _]
        exact ih prog w A R _ ⟨by simpa using hl, by simpa using hb, by simpa [ltL] using h⟩)⟩
    · rw [decide_eq_false e]
      wp_walk using wpAny_loadPart' hl, wpAny_loadPart' hb
      rw [hi1, hi2]
      refine wpAny_bind (cmpLt ?_)
      exact wpAny_pure (by simpa [ltL, e] using h)
open AutoSeq1 MeetsSeq3 in
theorem gt_loop (l b n n2 : Nat) : ∀ (xs ys : List (Str × Tok)) (us vs : List (Str × Tok)) (i : Nat), i = us.length → i = vs.length →
    Meets (Builtin.«list.__eq__.loop» ⟨[.ref l, .ref b, rawInt i, rawInt 4], []⟩)
      (fun A R s => s.heap.get? l = some (lst (strValues (us ++ xs)) n) ∧ s.heap.get? b = some (lst (strValues (vs ++ ys)) n2) ∧ R (.ok (.ret (.bool (gtL (xs.map (·.1)) (ys.map (·.1)))))) s)
  | [], ys, us, vs, i, hi, hj => by
    intro prog w A R s h
    obtain ⟨hp, g, d, tk, os⟩ := s; obtain ⟨hl, hb, h⟩ := h
    wp_walk using wpAny_loadPart' hl, wpAny_loadPart' hb
    have hi1 : (strValues (us ++ [])).toArray[((i : Nat) : Int).toNat]? = none := by simp [strValues, hi]
    rw [hi1]
    cases hy : (strValues (vs ++ ys)).toArray[((i : Nat) : Int).toNat]? <;>
    · wp_walk using wpAny_loadPart' hl, wpAny_loadPart' hb
      have e : decide ((strValues (us ++ [])).toArray.size > (strValues (vs ++ ys)).toArray.size) = gtL (([] : List (Str × Tok)).map (·.1)) (ys.map (·.1)) := by
        cases ys <;> simp [strValues, gtL] <;> omega
      rw [← e] at h
      exact h
  | x :: xs, [], us, vs, i, hi, hj => by
    intro prog w A R s h
    obtain ⟨hp, g, d, tk, os⟩ := s; obtain ⟨hl, hb, h⟩ := h
    wp_walk using wpAny_loadPart' hl, wpAny_loadPart' hb
    have hi1 : (strValues (vs ++ [])).toArray[((i : Nat) : Int).toNat]? = none := by simp [strValues, hj]
    rw [hi1]
    cases hy : (strValues (us ++ x :: xs)).toArray[((i : Nat) : Int).toNat]? <;>
    · wp_walk using wpAny_loadPart' hl, wpAny_loadPart' hb
      have e : decide ((strValues (us ++ x :: xs)).toArray.size > (strValues (vs ++ [])).toArray.size) = gtL ((x :: xs).map (·.1)) (([] : List (Str × Tok)).map (·.1)) := by
        simp [strValues, gtL]; omega
      rw [← e] at h
      exact h
  | (x, t) :: xs, (y, u) :: ys, us, vs, i, hi, hj => by
    have ih := gt_loop l b n n2 xs ys (us ++ [(x, t)]) (vs ++ [(y, u)]) (i + 1) (by simp [hi]) (by simp [hj])
    intro prog w A R s h
    obtain ⟨hp, g, d, tk, os⟩ := s; obtain ⟨hl, hb, h⟩ := h
    wp_walk using wpAny_loadPart' hl, wpAny_loadPart' hb
    have hi1 : (strValues (us ++ (x, t) :: xs)).toArray[((i : Nat) : Int).toNat]? = some (.str x t) := by simp [strValues, hi]
    have hi2 : (strValues (vs ++ (y, u) :: ys)).toArray[((i : Nat) : Int).toNat]? = some (.str y u) := by simp [strValues, hj]
    rw [hi1, hi2]
    refine wpAny_bind (wpAny_eqBool_str ?_)
    have hc : ((i : Int) + 1) = ((i + 1 : Nat) : Int) := by push_cast; rfl
    by_cases e : x = y
    · subst e
      rw [decide_eq_true rfl]
      wp_walk
      rw [hc]
      exact ⟨plainId_quiet plain_eq_loop _, codeAny_builtin entry_eq_loop (by
        rw [Around.under_plainId plain_eq_loop _]
        exact ih prog w A R _ ⟨by simpa using hl, by simpa using hb, by simpa [gtL] using h⟩)⟩
    · rw [decide_eq_false e]
      wp_walk using wpAny_loadPart' hl, wpAny_loadPart' hb
      rw [hi1, hi2]
      refine wpAny_bind (cmpGt ?_)
      exact wpAny_pure (by simpa [gtL, e] using h)
open AutoSeq1 MeetsSeq3 in
theorem list_lt (l b n n2 : Nat) (lx ly : List (Str × Tok)) : Meets (Builtin.«list.__lt__» ⟨[.ref l, .ref b], []⟩)
    (fun A R s => s.heap.get? l = some (lst (strValues lx) n) ∧ s.heap.get? b = some (lst (strValues ly) n2) ∧ R (.ok (.ret (.bool (ltL (lx.map (·.1)) (ly.map (·.1)))))) s) := by
  intro prog w A R s h
  obtain ⟨hp, g, d, tk, os⟩ := s; obtain ⟨hl, hb, h⟩ := h
  have f3 := AutoSeq1.sub_list_list
  wp_walk using wpAny_loadPart' hl, wpAny_loadPart' hb
  exact ⟨plainId_quiet plain_eq_loop _, codeAny_builtin entry_eq_loop (by
    rw [Around.under_plainId plain_eq_loop _]
    exact lt_loop l b n n2 lx ly [] [] 0 rfl rfl prog w A R _ ⟨hl, hb, h⟩)⟩
open AutoSeq1 MeetsSeq3 in
theorem list_gt (l b n n2 : Nat) (lx ly : List (Str × Tok)) : Meets (Builtin.«list.__gt__» ⟨[.ref l, .ref b], []⟩)
    (fun A R s => s.heap.get? l = some (lst (strValues lx) n) ∧ s.heap.get? b = some (lst (strValues ly) n2) ∧ R (.ok (.ret (.bool (gtL (lx.map (·.1)) (ly.map (·.1)))))) s) := by
  intro prog w A R s h
  obtain ⟨hp, g, d, tk, os⟩ := s; obtain ⟨hl, hb, h⟩ := h
  have f3 := AutoSeq1.sub_list_list
  wp_walk using wpAny_loadPart' hl, wpAny_loadPart' hb
  exact ⟨plainId_quiet plain_eq_loop _, codeAny_builtin entry_eq_loop (by
    rw [Around.under_plainId plain_eq_loop _]
    exact gt_loop l b n n2 lx ly [] [] 0 rfl rfl prog w A R _ ⟨hl, hb, h⟩)⟩
section
variable {w : World} {A : Around} {E : Value → Shared → Prop} {s : Shared}
theorem cmp_listLt {l b n n2 : Nat} {lx ly : List (Str × Tok)} {Q : Value → Shared → Prop} (hu : A.units < cLine) (hl : s.heap.get? l = some (lst (strValues lx) n)) (hb : s.heap.get? b = some (lst (strValues ly) n2)) (h : Q (.bool (ltL (lx.map (·.1)) (ly.map (·.1)))) s) :
    wpAny (Mo w) A (richCompare .Lt (.ref l) (.ref b)) Q E s :=
  wpAny_richCompare_same_or (op := .Lt) (T := "list") ⟨_, hl, rfl⟩ ⟨_, hb, rfl⟩ F.slot_list_lt (call_meets F.slot_list_lt ⟨_, hl, rfl⟩ F.entry_list_lt (F.args_list_lt_2 _ _) (list_lt l b n n2 lx ly) ⟨hl, hb, ⟨(fun e => nomatch e), h⟩⟩) (.inr hu)
theorem cmp_listGt {l b n n2 : Nat} {lx ly : List (Str × Tok)} {Q : Value → Shared → Prop} (hu : A.units < cLine) (hl : s.heap.get? l = some (lst (strValues lx) n)) (hb : s.heap.get? b = some (lst (strValues ly) n2)) (h : Q (.bool (gtL (lx.map (·.1)) (ly.map (·.1)))) s) :
    wpAny (Mo w) A (richCompare .Gt (.ref l) (.ref b)) Q E s :=
  wpAny_richCompare_same_or (op := .Gt) (T := "list") ⟨_, hl, rfl⟩ ⟨_, hb, rfl⟩ F.slot_list_gt (call_meets F.slot_list_gt ⟨_, hl, rfl⟩ F.entry_list_gt (F.args_list_gt_2 _ _) (list_gt l b n n2 lx ly) ⟨hl, hb, ⟨(fun e => nomatch e), h⟩⟩) (.inr hu)
/-- min of a list of two -/
theorem call_min2 {l ep : Nat} {va vb : Value} {bt : Bool} {Q : Value → Shared → Prop} (hh : A.handled = none) (hl : s.heap.get? l = some (lst [va, vb] ep))
    (cmp : ∀ (s' : Shared) (Q : Value → Shared → Prop) (E : Value → Shared → Prop), s.heap.StaysIn s'.heap → Q (.bool bt) s' → wpAny (Mo w) A.in1 (richCompare .Lt vb va) Q E s')
    (h : ∀ h' tk, s.heap.StaysIn h' → Q (if bt = true then vb else va) { s with heap := h', toks := tk }) : wpAny (Mo w) A (call (.builtin "min") [.ref l]) Q E s := by
  have hname : (toString "min" ++ toString ".loop" : String) = "min.loop" := by decide
  refine call_function_tree PySem.F.kind_min PySem.F.plain_min PySem.F.entry_min (PySem.F.args_min1 _) ?_
  show wpAny _ A.in1 (Builtin.Builtins.bindParams "min" ["key", "default"] 0 ⟨[], []⟩ >>= _) _ _ s
  refine wpAny_bind (wpAny_of_eq (show Builtin.Builtins.bindParams "min" ["key", "default"] 0 ⟨[], []⟩ = pure [none, none] from rfl) ?_)
  refine wpAny_bind (wpAny_pure ?_)
  have hlI : l ≠ s.heap.objs.size := Nat.ne_of_lt (Heap.lt_size hl)
  have W := Walks.list (prog := Pg) (w := w) (A := A.in1) hh s.heap.objs.size l hlI [va, vb].toArray
  have hls : s.heap.IsList l [va, vb].toArray := ⟨_, hl, rfl, ep, rfl⟩
  refine wpAny_bind (wpAny_pyIter_list hls ?_)
  generalize hH1 : s.heap.push _ = H1
  have h01 : s.heap.StaysIn H1 := hH1 ▸ push_stays _ _
  have st0 : H1.IsListIter s.heap.objs.size l 0 ∧ H1.IsList l [va, vb].toArray := ⟨hH1 ▸ ⟨_, Heap.get?_push_size _ rfl, rfl, rfl⟩, hls.at fun o e => h01 _ _ e⟩
  have hz : H1.objs.size = s.heap.objs.size + 1 := by rw [← hH1, Heap.size_push]
  refine wpAny_bind (wpAny_newObj_type ?_)
  dsimp only
  generalize hS : H1.objs.size = S
  generalize hH2 : H1.push _ = H2
  have hSne : ∀ b : Nat, b ≤ s.heap.objs.size → S ≠ b := fun b hb => by rw [← hS, hz]; omega
  have old : ∀ b o, s.heap.get? b = some o → b ≠ s.heap.objs.size ∧ S ≠ b := fun b o e => ⟨Nat.ne_of_lt (Heap.lt_size e), hSne b (Nat.le_of_lt (Heap.lt_size e))⟩
  have up2 : H1.StaysIn H2 := hH2 ▸ push_stays _ _
  have g2 : H2.get? S = some (lst [] 0) := by rw [← hS, ← hH2]; exact Heap.get?_push_size _ rfl
  have st2 : H2.IsListIter s.heap.objs.size l 0 ∧ H2.IsList l [va, vb].toArray := W.frame _ _ _ st0 fun b _ o e => up2 b o e
  have h02 : s.heap.StaysIn H2 := stays_trans h01 up2
  have fpS : ∀ b ∈ [s.heap.objs.size, l], S ≠ b := fun b hb => by
    rcases List.mem_cons.mp hb with e | e
    · exact hSne b (Nat.le_of_eq e)
    · rw [List.mem_singleton.mp e]; exact hSne l (Nat.le_of_lt (Heap.lt_size hl))
  have upd : ∀ (H : Heap) f, s.heap.StaysIn H → s.heap.StaysIn (H.update S f) := fun H f k b o e => (Heap.get?_update_other _ _ (old b o e).2).trans (k b o e)
  have nxt : ∀ H H' : Heap, s.heap.StaysIn H → (∀ b o, b ∉ [s.heap.objs.size] → H.get? b = some o → H'.get? b = some o) → s.heap.StaysIn H' := fun H H' k k' b o e => k' b o (fun m => (old b o e).1 (List.mem_singleton.mp m)) (k b o e)
  have hSw : S ∉ [s.heap.objs.size] := fun m => hSne _ (Nat.le_refl _) (List.mem_singleton.mp m)
  rw [hname]
  refine wpAny_pure ⟨plainId_quiet PySem.F.plain_min_loop _, codeAny_builtin PySem.F.entry_min_loop ?_⟩
  rw [Around.under_plainId PySem.F.plain_min_loop _]
  show wpAny _ A.in1 (seqItems? (.ref S) >>= _) _ _ _
  refine wpAny_bind (wpAny_seqItems g2 rfl ?_)
  show wpAny _ A.in1 (tryCatch (pyNext (.ref s.heap.objs.size)) _ >>= _) _ _ _
  refine wpAny_bind (wpAny_tryCatch (W.item 0 _ _ _ (by show 0 < 2; decide) st2 fun v h3 tk3 hv st3 k3 => ?_))
  obtain rfl : va = v := by simpa using hv
  have g3 := k3 S _ hSw g2
  have h03 := nxt _ _ h02 k3
  show wpAny _ A.in1 (updateSeq S (fun _ => #[va, va]) >>= _) _ _ _
  refine wpAny_bind (wpAny_updateSeq g3 rfl ?_)
  have g4 := Heap.get?_update_self (Obj.mapSeq fun _ => #[va, va]) g3 rfl
  have st4 : (h3.update S (Obj.mapSeq fun _ => #[va, va])).IsListIter s.heap.objs.size l 1 ∧ (h3.update S (Obj.mapSeq fun _ => #[va, va])).IsList l [va, vb].toArray := W.frame _ _ _ st3 fun b hb o e => (Heap.get?_update_other _ _ (fpS b hb)).trans e
  have h04 := upd h3 (Obj.mapSeq fun _ => #[va, va]) h03
  rw [hname]
  refine wpAny_pure ⟨plainId_quiet PySem.F.plain_min_loop _, codeAny_builtin PySem.F.entry_min_loop ?_⟩
  rw [Around.under_plainId PySem.F.plain_min_loop _]
  show wpAny _ A.in1 (seqItems? (.ref S) >>= _) _ _ _
  refine wpAny_bind (wpAny_seqItems g4 rfl ?_)
  show wpAny _ A.in1 (tryCatch (pyNext (.ref s.heap.objs.size)) _ >>= _) _ _ _
  refine wpAny_bind (wpAny_tryCatch (W.item 1 _ _ _ (by show 1 < 2; decide) st4 fun v h5 tk5 hv st5 k5 => ?_))
  obtain rfl : vb = v := by simpa using hv
  have g5 := k5 S _ hSw g4
  have h05 := nxt _ _ h04 k5
  show wpAny _ A.in1 (tryCatch (holding [vb, vb] (richCompare .Lt vb va >>= _)) _ >>= _) _ _ _
  refine wpAny_bind (wpAny_tryCatch (wpAny_holding (wpAny_bind (cmp _ _ _ h05 ?_))))
  refine wpAny_bind (wpAny_holding (wpAny_truthy_bool ?_))
  refine wpAny_bind (wpAny_letGo (wpAny_pure ?_))
  have fin : ∀ (H : Heap) (tk c : Nat) (u : Value), s.heap.StaysIn H → H.get? S = some { cls := .type "list", dict := none, data := .seq #[u, u] c, slots := #[] } → (H.IsListIter s.heap.objs.size l 2 ∧ H.IsList l [va, vb].toArray) → (∀ h' tk, s.heap.StaysIn h' → Q u { s with heap := h', toks := tk }) →
      codeAny (Mo w) A (.builtin "min.loop" ⟨[.ref s.heap.objs.size, .none, .ref S], []⟩) (wants Q E) { s with heap := H, toks := tk } := fun H tk c u k g st q => by
    refine codeAny_builtin PySem.F.entry_min_loop ?_
    rw [Around.under_plainId PySem.F.plain_min_loop _]
    show wpAny _ A.in1 (seqItems? (.ref S) >>= _) _ _ _
    refine wpAny_bind (wpAny_seqItems g rfl ?_)
    show wpAny _ A.in1 (tryCatch (pyNext (.ref s.heap.objs.size)) _ >>= _) _ _ _
    refine wpAny_bind (wpAny_tryCatch (W.done _ _ _ st fun h6 tk6 k6 => ?_))
    show wpAny _ A.in1 (updateSeq S (fun _ => #[]) >>= _) _ _ _
    refine wpAny_bind (wpAny_updateSeq (k6 S _ hSw g) rfl (wpAny_bind (wpAny_letGo (wpAny_pure ?_))))
    exact q _ tk6 (upd _ _ (nxt _ _ k k6))
  cases bt with
  | true =>
    simp only [if_true]
    refine wpAny_bind (wpAny_updateSeq g5 rfl (wpAny_bind (wpAny_letGo ?_)))
    rw [hname]
    exact wpAny_pure ⟨plainId_quiet PySem.F.plain_min_loop _, fin _ tk5 _ vb (upd _ _ h05) (Heap.get?_update_self _ g5 rfl) (W.frame _ _ _ st5 fun b hb o e => (Heap.get?_update_other _ _ (fpS b hb)).trans e) h⟩
  | false =>
    simp only [Bool.false_eq_true, if_false]
    refine wpAny_bind (wpAny_letGo ?_)
    rw [hname]
    exact wpAny_pure ⟨plainId_quiet PySem.F.plain_min_loop _, fin _ tk5 _ va h05 g5 st5 h⟩
/-- max of a list of two -/
theorem call_max2 {l ep : Nat} {va vb : Value} {bt : Bool} {Q : Value → Shared → Prop} (hh : A.handled = none) (hl : s.heap.get? l = some (lst [va, vb] ep))
    (cmp : ∀ (s' : Shared) (Q : Value → Shared → Prop) (E : Value → Shared → Prop), s.heap.StaysIn s'.heap → Q (.bool bt) s' → wpAny (Mo w) A.in1 (richCompare .Gt vb va) Q E s')
    (h : ∀ h' tk, s.heap.StaysIn h' → Q (if bt = true then vb else va) { s with heap := h', toks := tk }) : wpAny (Mo w) A (call (.builtin "max") [.ref l]) Q E s := by
  have hname : (toString "max" ++ toString ".loop" : String) = "max.loop" := by decide
  refine call_function_tree PySem.F.kind_max PySem.F.plain_max PySem.F.entry_max (PySem.F.args_max1 _) ?_
  show wpAny _ A.in1 (Builtin.Builtins.bindParams "max" ["key", "default"] 0 ⟨[], []⟩ >>= _) _ _ s
  refine wpAny_bind (wpAny_of_eq (show Builtin.Builtins.bindParams "max" ["key", "default"] 0 ⟨[], []⟩ = pure [none, none] from rfl) ?_)
  refine wpAny_bind (wpAny_pure ?_)
  have hlI : l ≠ s.heap.objs.size := Nat.ne_of_lt (Heap.lt_size hl)
  have W := Walks.list (prog := Pg) (w := w) (A := A.in1) hh s.heap.objs.size l hlI [va, vb].toArray
  have hls : s.heap.IsList l [va, vb].toArray := ⟨_, hl, rfl, ep, rfl⟩
  refine wpAny_bind (wpAny_pyIter_list hls ?_)
  generalize hH1 : s.heap.push _ = H1
  have h01 : s.heap.StaysIn H1 := hH1 ▸ push_stays _ _
  have st0 : H1.IsListIter s.heap.objs.size l 0 ∧ H1.IsList l [va, vb].toArray := ⟨hH1 ▸ ⟨_, Heap.get?_push_size _ rfl, rfl, rfl⟩, hls.at fun o e => h01 _ _ e⟩
  have hz : H1.objs.size = s.heap.objs.size + 1 := by rw [← hH1, Heap.size_push]
  refine wpAny_bind (wpAny_newObj_type ?_)
  dsimp only
  generalize hS : H1.objs.size = S
  generalize hH2 : H1.push _ = H2
  have hSne : ∀ b : Nat, b ≤ s.heap.objs.size → S ≠ b := fun b hb => by rw [← hS, hz]; omega
  have old : ∀ b o, s.heap.get? b = some o → b ≠ s.heap.objs.size ∧ S ≠ b := fun b o e => ⟨Nat.ne_of_lt (Heap.lt_size e), hSne b (Nat.le_of_lt (Heap.lt_size e))⟩
  have up2 : H1.StaysIn H2 := hH2 ▸ push_stays _ _
  have g2 : H2.get? S = some (lst [] 0) := by rw [← hS, ← hH2]; exact Heap.get?_push_size _ rfl
  have st2 : H2.IsListIter s.heap.objs.size l 0 ∧ H2.IsList l [va, vb].toArray := W.frame _ _ _ st0 fun b _ o e => up2 b o e
  have h02 : s.heap.StaysIn H2 := stays_trans h01 up2
  have fpS : ∀ b ∈ [s.heap.objs.size, l], S ≠ b := fun b hb => by
    rcases List.mem_cons.mp hb with e | e
    · exact hSne b (Nat.le_of_eq e)
    · rw [List.mem_singleton.mp e]; exact hSne l (Nat.le_of_lt (Heap.lt_size hl))
  have upd : ∀ (H : Heap) f, s.heap.StaysIn H → s.heap.StaysIn (H.update S f) := fun H f k b o e => (Heap.get?_update_other _ _ (old b o e).2).trans (k b o e)
  have nxt : ∀ H H' : Heap, s.heap.StaysIn H → (∀ b o, b ∉ [s.heap.objs.size] → H.get? b = some o → H'.get? b = some o) → s.heap.StaysIn H' := fun H H' k k' b o e => k' b o (fun m => (old b o e).1 (List.mem_singleton.mp m)) (k b o e)
  have hSw : S ∉ [s.heap.objs.size] := fun m => hSne _ (Nat.le_refl _) (List.mem_singleton.mp m)
  rw [hname]
  refine wpAny_pure ⟨plainId_quiet PySem.F.plain_max_loop _, codeAny_builtin PySem.F.entry_max_loop ?_⟩
  rw [Around.under_plainId PySem.F.plain_max_loop _]
  show wpAny _ A.in1 (seqItems? (.ref S) >>= _) _ _ _
  refine wpAny_bind (wpAny_seqItems g2 rfl ?_)
  show wpAny _ A.in1 (tryCatch (pyNext (.ref s.heap.objs.size)) _ >>= _) _ _ _
  refine wpAny_bind (wpAny_tryCatch (W.item 0 _ _ _ (by show 0 < 2; decide) st2 fun v h3 tk3 hv st3 k3 => ?_))
  obtain rfl : va = v := by simpa using hv
  have g3 := k3 S _ hSw g2
  have h03 := nxt _ _ h02 k3
  show wpAny _ A.in1 (updateSeq S (fun _ => #[va, va]) >>= _) _ _ _
  refine wpAny_bind (wpAny_updateSeq g3 rfl ?_)
  have g4 := Heap.get?_update_self (Obj.mapSeq fun _ => #[va, va]) g3 rfl
  have st4 : (h3.update S (Obj.mapSeq fun _ => #[va, va])).IsListIter s.heap.objs.size l 1 ∧ (h3.update S (Obj.mapSeq fun _ => #[va, va])).IsList l [va, vb].toArray := W.frame _ _ _ st3 fun b hb o e => (Heap.get?_update_other _ _ (fpS b hb)).trans e
  have h04 := upd h3 (Obj.mapSeq fun _ => #[va, va]) h03
  rw [hname]
  refine wpAny_pure ⟨plainId_quiet PySem.F.plain_max_loop _, codeAny_builtin PySem.F.entry_max_loop ?_⟩
  rw [Around.under_plainId PySem.F.plain_max_loop _]
  show wpAny _ A.in1 (seqItems? (.ref S) >>= _) _ _ _
  refine wpAny_bind (wpAny_seqItems g4 rfl ?_)
  show wpAny _ A.in1 (tryCatch (pyNext (.ref s.heap.objs.size)) _ >>= _) _ _ _
  refine wpAny_bind (wpAny_tryCatch (W.item 1 _ _ _ (by show 1 < 2; decide) st4 fun v h5 tk5 hv st5 k5 => ?_))
  obtain rfl : vb = v := by simpa using hv
  have g5 := k5 S _ hSw g4
  have h05 := nxt _ _ h04 k5
  show wpAny _ A.in1 (tryCatch (holding [vb, vb] (richCompare .Gt vb va >>= _)) _ >>= _) _ _ _
  refine wpAny_bind (wpAny_tryCatch (wpAny_holding (wpAny_bind (cmp _ _ _ h05 ?_))))
  refine wpAny_bind (wpAny_holding (wpAny_truthy_bool ?_))
  refine wpAny_bind (wpAny_letGo (wpAny_pure ?_))
  have fin : ∀ (H : Heap) (tk c : Nat) (u : Value), s.heap.StaysIn H → H.get? S = some { cls := .type "list", dict := none, data := .seq #[u, u] c, slots := #[] } → (H.IsListIter s.heap.objs.size l 2 ∧ H.IsList l [va, vb].toArray) → (∀ h' tk, s.heap.StaysIn h' → Q u { s with heap := h', toks := tk }) →
      codeAny (Mo w) A (.builtin "max.loop" ⟨[.ref s.heap.objs.size, .none, .ref S], []⟩) (wants Q E) { s with heap := H, toks := tk } := fun H tk c u k g st q => by
    refine codeAny_builtin PySem.F.entry_max_loop ?_
    rw [Around.under_plainId PySem.F.plain_max_loop _]
    show wpAny _ A.in1 (seqItems? (.ref S) >>= _) _ _ _
    refine wpAny_bind (wpAny_seqItems g rfl ?_)
    show wpAny _ A.in1 (tryCatch (pyNext (.ref s.heap.objs.size)) _ >>= _) _ _ _
    refine wpAny_bind (wpAny_tryCatch (W.done _ _ _ st fun h6 tk6 k6 => ?_))
    show wpAny _ A.in1 (updateSeq S (fun _ => #[]) >>= _) _ _ _
    refine wpAny_bind (wpAny_updateSeq (k6 S _ hSw g) rfl (wpAny_bind (wpAny_letGo (wpAny_pure ?_))))
    exact q _ tk6 (upd _ _ (nxt _ _ k k6))
  cases bt with
  | true =>
    simp only [if_true]
    refine wpAny_bind (wpAny_updateSeq g5 rfl (wpAny_bind (wpAny_letGo ?_)))
    rw [hname]
    exact wpAny_pure ⟨plainId_quiet PySem.F.plain_max_loop _, fin _ tk5 _ vb (upd _ _ h05) (Heap.get?_update_self _ g5 rfl) (W.frame _ _ _ st5 fun b hb o e => (Heap.get?_update_other _ _ (fpS b hb)).trans e) h⟩
  | false =>
    simp only [Bool.false_eq_true, if_false]
    refine wpAny_bind (wpAny_letGo ?_)
    rw [hname]
    exact wpAny_pure ⟨plainId_quiet PySem.F.plain_max_loop _, fin _ tk5 _ va h05 g5 st5 h⟩
end

theorem map_next : Slot "map" "__next__" "map.__next__" :=
  .of (owner := "map") (n := "__next__") (by rw [typeLookup_type, builtinLookup_eq_fast]; kernel_rfl) (by decide +kernel) (by decide +kernel) (by decide +kernel)
    (by first | exact .inl (by decide +kernel) | exact .inr (by decide +kernel)) (by rw [isSubtype_type]; kernel_rfl)
theorem map_iter : Slot "map" "__iter__" "map.__iter__" :=
  .of (owner := "map") (n := "__iter__") (by rw [typeLookup_type, builtinLookup_eq_fast]; kernel_rfl) (by decide +kernel) (by decide +kernel) (by decide +kernel)
    (by first | exact .inl (by decide +kernel) | exact .inr (by decide +kernel)) (by rw [isSubtype_type]; kernel_rfl)
theorem map_init : Slot "map" "__init__" "object.__init__" :=
  .of (owner := "object") (n := "__init__") (by rw [typeLookup_type, builtinLookup_eq_fast]; kernel_rfl) (by decide +kernel) (by decide +kernel) (by decide +kernel)
    (by first | exact .inl (by decide +kernel) | exact .inr (by decide +kernel)) (by rw [isSubtype_type]; kernel_rfl)
theorem map_nolen : typeLookup (.type "map") "__len__" = pure none := by rw [typeLookup_type, builtinLookup_eq_fast]; kernel_rfl
theorem map_nohint : typeLookup (.type "map") "__length_hint__" = pure none := by rw [typeLookup_type, builtinLookup_eq_fast]; kernel_rfl
theorem map_entry_next : entryFor table "map.__next__" = some Builtin.«map.__next__» := entryFor_of_tree (by kernel_rfl)
theorem map_entry_new : entryFor table "map.__new__" = some Builtin.«map.__new__» := entryFor_of_tree (by kernel_rfl)
theorem map_entry_iter : entryFor table "map.__iter__" = some Builtin.«dict_keyiterator.__iter__» :=
  entryFor_alias (id' := "dict_keyiterator.__iter__") (by kernel_rfl) rfl (by decide +kernel) (by kernel_rfl)
theorem map_args_next (a : Value) : argsOk "map.__next__" ⟨[a], []⟩ := by unfold argsOk; kernel_rfl
theorem map_args_iter (a : Value) : argsOk "map.__iter__" ⟨[a], []⟩ := by unfold argsOk; kernel_rfl
theorem map_mro : mroOf (.type "map") = pure [.type "map", .type "object"] := by rw [mroOf_type]; kernel_rfl
theorem map_new : typeLookup (.type "map") "__new__" = pure (some (.builtin "map.__new__")) := by rw [typeLookup_type, builtinLookup_eq_fast]; kernel_rfl
theorem map_called : TypeCalled "map" "map.__new__" "object.__init__" :=
  ⟨by decide +kernel, by decide +kernel, ⟨_, _, map_mro⟩, madeBy_type map_mro map_new (by decide +kernel), by decide +kernel, by rw [isSubtype_type]; kernel_rfl, map_init⟩
theorem map_typeCall (a b : Value) : checkTypeCall "map" ⟨[a, b], []⟩ = pure () := by kernel_rfl
theorem map_newCall (a b : Value) : checkBuiltinCall "map.__new__" ⟨[.type "map", a, b], []⟩ = pure () := by kernel_rfl
abbrev mapO (T : Addr) (f : Value) : Obj := { cls := .type "map", dict := none, data := .fields #[.ref T, f], slots := #[] }
abbrev litO (D : Addr) (i : Nat) : Obj := { cls := .type "list_iterator", dict := none, data := .fields #[.ref D, .int i 0], slots := #[] }
theorem meets_map_new (f : Value) (D ep : Nat) (vs : List Value) : Meets (Builtin.«map.__new__» ⟨[.type "map", f, .ref D], []⟩)
    (fun _ R s => s.heap.get? D = some (lst vs ep) ∧ R (.ok (.ret (.ref (s.heap.objs.size + 2)))) { s with heap := ((s.heap.push (litO D 0)).push (tup [.ref s.heap.objs.size] 0)).push (mapO (s.heap.objs.size + 1) f) }) :=
  .of_wp fun prog w A R s h => by
    obtain ⟨hD, h⟩ := h
    have hsub := map_called.sub
    have hls : s.heap.IsList D vs.toArray := ⟨_, hD, rfl, ep, rfl⟩
    wp_walk using wpAny_pyIter_list hls
    refine ⟨_, rfl, ?_⟩
    rw [Heap.size_push, Heap.size_push]
    exact h
/-- the state of a map's walk over the list at D: i items taken -/
structure MapSt (w : World) (hb : Heap) (nb : Nat) (D ep : Nat) (vs : List Value) (I : Nat) (i : Nat) (s : Shared) : Prop where
  old : hb.StaysIn s.heap
  tks : nb ≤ s.toks
  lst_ : s.heap.get? D = some (lst vs ep)
  it : s.heap.get? I = some (litO D i)
  tp : s.heap.get? (I + 1) = some (tup [.ref I] 0)
  mp : s.heap.get? (I + 2) = some (mapO (I + 1) (.ref 94))
section
variable {w : World} {A : Around} {hb : Heap} {nb D ep I : Nat} {vs : List Value}
theorem litO_fields (D i : Nat) : Obj.mapFields (·.setIfInBounds 1 (rawInt ((i : Int) + 1))) (litO D i) = litO D (i + 1) := by
  simp [litO, Obj.mapFields, rawInt]
theorem fspath_same {x : Str} {v : Value} {h : Heap} {n : Nat} (W : Wd w h n) (r : Rm 1 A) (p : IsS x v h n) : Ev w A h n (call (.ref 94) [v]) (Is v) := fspath_ev0 W r p
theorem map_item {i : Nat} {v : Value} {x : Str} {s : Shared} {Q : Option Value → Shared → Prop} {E : Value → Shared → Prop} (W : Wd w hb nb) (r : Rm 1 A.in1) (hI : hb.objs.size ≤ I) (st : MapSt w hb nb D ep vs I i s) (hv : vs[i]? = some v) (px : IsS x v hb nb) (hDI : D < I)
    (h : ∀ s', MapSt w hb nb D ep vs I (i + 1) s' → Moved [I] (fun a b => a = b) s s' → Q (some v) s') : wpAny (Mo w) A (pyNext (.ref (I + 2))) Q E s := by
  have hM : s.TypeIs (.ref (I + 2)) "map" := ⟨_, st.mp, rfl⟩
  have hT : s.TypeIs (.ref I) "list_iterator" := ⟨_, st.it, rfl⟩
  unfold pyNext
  refine wpAny_bind (wpAny_attempt (wpAny_callSpecial?_slot (name := Str.ofString "__next__") hM map_next (wpAny_call_entry map_next hM map_entry_next ?_ (map_args_next _))))
  show wpAny _ _ (field (.ref (I + 2)) 0 >>= _) _ _ s
  refine wpAny_bind (wpAny_field st.mp rfl (x := .ref (I + 1)) rfl ?_)
  show wpAny _ _ (seqItems? (.ref (I + 1)) >>= _) _ _ s
  refine wpAny_bind (wpAny_seqItems st.tp rfl ?_)
  show wpAny _ _ (forIn #[Value.ref I] (#[] : Array Value) _ >>= _) _ _ s
  rw [← Array.forIn_toList]
  simp only [List.forIn_cons, List.forIn_nil]
  unfold Builtin.SmallTypes.nextOf
  refine wpAny_bind (wpAny_bind (wpAny_bind (wpAny_holding (wpAny_bind (wpAny_callSpecial?_slot (name := Str.ofString "__next__") hT slot_listiter_next (wpAny_call_entry slot_listiter_next hT entry_listiter_next ?_ (args_listiter_next _)))))))
  show wpAny _ _ (field (.ref I) 0 >>= _) _ _ s
  refine wpAny_bind (wpAny_field st.it rfl (x := .ref D) rfl ?_)
  show wpAny _ _ (if (Value.ref D == Value.none) = true then _ else _) _ _ s
  rw [if_neg (show ¬ ((Value.ref D == Value.none) = true) from Bool.false_ne_true)]
  show wpAny _ _ (field (.ref I) 1 >>= _) _ _ s
  refine wpAny_bind (wpAny_field st.it rfl (x := .int i 0) rfl ?_)
  show wpAny _ _ (seqItems? (.ref D) >>= _) _ _ s
  refine wpAny_bind (wpAny_seqItems st.lst_ rfl ?_)
  simp only [Int.toNat_natCast, List.getElem?_toArray, hv]
  refine wpAny_bind (wpAny_setField st.it rfl (by simp) (wpAny_pure ⟨v, rfl, ?_⟩))
  generalize hh : s.heap.update I _ = h1
  have g1 : h1.get? I = some (litO D (i + 1)) := by rw [← hh, Heap.get?_update_self _ st.it rfl]; simp [litO, Obj.mapFields, rawInt]
  have k1 : ∀ b o, b ≠ I → s.heap.get? b = some o → h1.get? b = some o := fun b o hb e => hh ▸ (Heap.get?_update_other _ _ (Ne.symm hb)).trans e
  have n1 : (I + 1 : Nat) ≠ I := by omega
  have n2 : (I + 2 : Nat) ≠ I := by omega
  have low : ∀ b o, hb.get? b = some o → b ≠ I := fun b o e => Nat.ne_of_lt (Nat.lt_of_lt_of_le (Heap.lt_size e) hI)
  have st1 : hb.StaysIn h1 := fun b o e => k1 b o (low b o e) (st.old b o e)
  repeat (first | refine wpAny_pure ?_ | refine wpAny_bind ?_)
  refine wpAny_load (k1 _ _ n2 st.mp) (wpAny_pure (wpAny_pure ?_))
  refine wpAny_bind (wpAny_holding ?_)
  show wpAny _ _ (call (.ref 94) [v]) _ _ _
  refine ((fspath_ev0 (W.keeps st1 st.tks) r (ufS _ _ h1 _ s.toks px st.tks)).use (s := { s with heap := h1 }) fun u h2 tk2 st2 tl2 e => ?_)
  cases e
  refine wpAny_bind (wpAny_letGo ?_)
  refine wpAny_pure ⟨v, rfl, wpAny_pure (h _ ⟨stays_trans st1 st2, Nat.le_trans st.tks tl2, st2 _ _ (k1 _ _ (Nat.ne_of_lt hDI) st.lst_), st2 _ _ g1, st2 _ _ (k1 _ _ n1 st.tp), st2 _ _ (k1 _ _ n2 st.mp)⟩ ⟨fun b o hb e => st2 _ _ (k1 b o (fun c => hb (List.mem_singleton.mpr c)) e), rfl, rfl, rfl, tl2⟩)⟩
theorem map_done {s : Shared} {Q : Option Value → Shared → Prop} {E : Value → Shared → Prop} (hh : A.handled = none) (st : MapSt w hb nb D ep vs I vs.length s)
    (h : ∀ s', Moved [I] (fun a b => a = b) s s' → Q none s') : wpAny (Mo w) A (pyNext (.ref (I + 2))) Q E s := by
  have hM : s.TypeIs (.ref (I + 2)) "map" := ⟨_, st.mp, rfl⟩
  have hT : s.TypeIs (.ref I) "list_iterator" := ⟨_, st.it, rfl⟩
  unfold pyNext
  refine wpAny_bind (wpAny_attempt (wpAny_callSpecial?_slot (name := Str.ofString "__next__") hM map_next (wpAny_call_entry map_next hM map_entry_next ?_ (map_args_next _))))
  show wpAny _ _ (field (.ref (I + 2)) 0 >>= _) _ _ s
  refine wpAny_bind (wpAny_field st.mp rfl (x := .ref (I + 1)) rfl ?_)
  show wpAny _ _ (seqItems? (.ref (I + 1)) >>= _) _ _ s
  refine wpAny_bind (wpAny_seqItems st.tp rfl ?_)
  show wpAny _ _ (forIn #[Value.ref I] (#[] : Array Value) _ >>= _) _ _ s
  rw [← Array.forIn_toList]
  simp only [List.forIn_cons, List.forIn_nil]
  unfold Builtin.SmallTypes.nextOf
  refine wpAny_bind (wpAny_bind (wpAny_bind (wpAny_holding (wpAny_bind (wpAny_callSpecial?_slot (name := Str.ofString "__next__") hT slot_listiter_next (wpAny_call_entry slot_listiter_next hT entry_listiter_next ?_ (args_listiter_next _)))))))
  show wpAny _ _ (field (.ref I) 0 >>= _) _ _ s
  refine wpAny_bind (wpAny_field st.it rfl (x := .ref D) rfl ?_)
  show wpAny _ _ (if (Value.ref D == Value.none) = true then _ else _) _ _ s
  rw [if_neg (show ¬ ((Value.ref D == Value.none) = true) from Bool.false_ne_true)]
  show wpAny _ _ (field (.ref I) 1 >>= _) _ _ s
  refine wpAny_bind (wpAny_field st.it rfl (x := .int vs.length 0) rfl ?_)
  show wpAny _ _ (seqItems? (.ref D) >>= _) _ _ s
  refine wpAny_bind (wpAny_seqItems st.lst_ rfl ?_)
  have hn : vs[vs.length]? = none := List.getElem?_eq_none (Nat.le_refl _)
  simp only [Int.toNat_natCast, List.getElem?_toArray, hn]
  refine wpAny_bind (wpAny_rule (wpAny_bind (wpAny_setField st.it rfl (by simp) ?_)))
  show wpAny _ _ (newExc (.type "StopIteration") [] >>= _) _ _ _
  refine wpAny_bind ?_
  simp only [newExc, newTuple]
  refine wpAny_bind (wpAny_newObj_type ?_ (by size_fits))
  refine wpAny_bind (m := firstArgMember _ _) (wpAny_of_eq (a := Value.none) (by first | rfl | (simp only [firstArgMember]; rfl)) ?_)
  refine wpAny_newObj_type ?_ (by size_fits)
  simp only [raiseNew]
  refine wpAny_bind (wpAny_handled ?_)
  rw [show A.in1.in1.handled = none from hh]
  refine wpAny_bind (wpAny_pure (wpAny_throw ?_))
  refine wpAny_bind (wpAny_isInstance (T := "StopIteration") (b := true) ⟨_, Heap.get?_push_size _ rfl, rfl⟩ isSubtype_stop ?_)
  exact wpAny_pure (h _ ⟨fun b o hb e => (((Heap.SameBut.update ..).extBut.push _).push _) b o (fun c => hb (List.mem_singleton.mpr c)) e, rfl, rfl, rfl, Nat.le_refl _⟩)
theorem map_walks {xs : List Str} (hh : A.handled = none) (W : Wd w hb nb) (r : Rm 1 A.in1) (hI : hb.objs.size ≤ I) (hDI : D < I) (sl : SL xs vs nb) :
    WalksS Pg w A (I + 2) (List.range (I + 3)) [I] (fun a b => a = b) vs.length (fun i v => vs[i]? = some v) (fun i s => MapSt w hb nb D ep vs I i s) where
  sub := fun b hb => List.mem_range.mpr (by rw [List.mem_singleton.mp hb]; omega)
  grefl := fun _ => rfl
  gtrans := fun _ _ _ a b => a.trans b
  frame := fun i s h' tk st l k => ⟨fun b o e => k b (List.mem_range.mpr (Nat.lt_of_lt_of_le (Heap.lt_size e) (by omega))) o (st.old b o e), Nat.le_trans st.tks l, k D (List.mem_range.mpr (by omega)) _ st.lst_, k I (List.mem_range.mpr (by omega)) _ st.it, k _ (List.mem_range.mpr (by omega)) _ st.tp, k _ (List.mem_range.mpr (by omega)) _ st.mp⟩
  item := fun i s Q E hi st hQ => by
    obtain ⟨x, _, px⟩ := sl.item hb (List.getElem?_eq_getElem hi)
    exact map_item W r hI st (List.getElem?_eq_getElem hi) px hDI fun s' st' m => hQ _ s' (List.getElem?_eq_getElem hi) st' m
  done := fun s Q E st hQ => map_done hh st hQ
  self := fun i s Q E st hQ => by
    have hM : s.TypeIs (.ref (I + 2)) "map" := ⟨_, st.mp, rfl⟩
    refine wpAny_pyIter_slot hM map_iter (wpAny_call_entry map_iter hM map_entry_iter ?_ (map_args_iter _))
    show wpAny _ _ (ret (.ref (I + 2))) _ _ s
    exact wpAny_pure ⟨_, rfl, "map", _, hM, map_next.lookup, hQ⟩
end
section
variable {w : World} {A : Around} {M n : Nat} {fp wr : List Addr} {G : Array GenState → Array GenState → Prop} {P : Nat → Value → Prop} {St : Nat → Shared → Prop} {E : Value → Shared → Prop} {s : Shared}
/-- the items of a map, collected -/
theorem collect_map {Q : List Value → Shared → Prop} (W : WalksS Pg w A.in1 M fp wr G n P St) (hT : ∀ i s, St i s → s.TypeIs (.ref M) "map") (hst : St 0 s) (hfp : ∀ b ∈ fp, b < s.heap.objs.size) (hM : M ∈ fp) (hn : n ≤ sizeLine)
    (hQ : ∀ s' acc, Moved wr G s s' → ItemsOf P acc n → Q acc.toList s') : wpAny (Mo w) A (collect (.ref M)) Q E s := by
  have hSf : s.heap.objs.size ∉ fp := fun hm => Nat.lt_irrefl _ (hfp _ hm)
  have hSM : s.heap.objs.size ≠ M := fun e => hSf (e ▸ hM)
  unfold collect
  refine wpAny_bind (wpAny_runValue (codeAny_builtin PySem.F.entry_proto_collect ?_))
  rw [Around.under_plainId PySem.F.plain_proto_collect _]
  show wpAny _ A.in1 (newList [] >>= fun l => again (.builtin "list.__iadd__" ⟨[l, .ref M], []⟩)) _ _ s
  refine wpAny_bind (wpAny_newObj_type ?_)
  refine wpAny_pure ⟨plainId_quiet PySem.F.plain_list_iadd _, codeAny_builtin PySem.F.entry_list_iadd ?_⟩
  rw [Around.under_plainId PySem.F.plain_list_iadd _]
  dsimp only
  have k1 : s.heap.StaysIn (s.heap.push (lst [] 0)) := push_stays _ _
  have hst1 := W.frame 0 s (s.heap.push (lst [] 0)) s.toks hst (Nat.le_refl _) fun b _ o e => k1 b o e
  show wpAny _ A.in1 (Builtin.List.listExtendWith (.ref s.heap.objs.size) (.ref M) (.ref s.heap.objs.size)) _ _ _
  unfold Builtin.List.listExtendWith
  refine wpAny_bind (wpAny_typeOf (hT 0 _ hst1) ?_)
  have h1 : Builtin.List.listSameRef (.ref s.heap.objs.size) (.ref M) = false := by simp [Builtin.List.listSameRef, hSM]
  have h2 : (Value.type "map" == Value.type "list") = false := by decide
  have h3 : (Value.type "map" == Value.type "tuple") = false := by decide
  simp only [h1, h2, h3, Bool.or_false, Bool.false_eq_true, if_false]
  refine wpAny_bind (W.self 0 _ _ _ hst1 (wpAny_bind (wpAny_holding ?_)))
  unfold Builtin.List.listLengthHint
  refine wpAny_bind (wpAny_specialOf (hT 0 _ hst1) map_nolen ?_)
  show wpAny _ A.in1 (specialOf (Value.ref M) (Str.ofString "__length_hint__") >>= _) _ _ _
  refine wpAny_bind (wpAny_specialOf (hT 0 _ hst1) map_nohint (wpAny_pure ?_))
  show wpAny _ A.in1 (rule "list.extend.makes-room" >>= fun _ => Builtin.List.listTouch (.ref s.heap.objs.size) >>= fun _ =>
    again (.builtin "list.extend.loop" ⟨[.ref s.heap.objs.size, .ref M, .ref s.heap.objs.size], []⟩)) _ _ _
  refine wpAny_bind (wpAny_rule (wpAny_bind ?_))
  have g1 : (s.heap.push (lst [] 0)).get? s.heap.objs.size = some (lst [] 0) := Heap.get?_push_size _ rfl
  show wpAny _ A.in1 (updateSeq s.heap.objs.size (·.push .none) >>= fun _ => updateSeq s.heap.objs.size (·.pop)) _ _ _
  refine wpAny_bind (wpAny_updateSeq g1 rfl ?_)
  have g2 := Heap.get?_update_self (Obj.mapSeq (·.push Value.none)) g1 rfl
  refine wpAny_updateSeq g2 rfl ?_
  have g3 := Heap.get?_update_self (Obj.mapSeq (·.pop)) g2 rfl
  have oth : ∀ b o, b ≠ s.heap.objs.size → (s.heap.push (lst [] 0)).get? b = some o → (((s.heap.push (lst [] 0)).update s.heap.objs.size (Obj.mapSeq (·.push Value.none))).update s.heap.objs.size (Obj.mapSeq (·.pop))).get? b = some o :=
    fun b o hb e => (Heap.get?_update_other _ _ (Ne.symm hb)).trans ((Heap.get?_update_other _ _ (Ne.symm hb)).trans e)
  have st3 := W.frame 0 ({ s with heap := s.heap.push (lst [] 0) } : Shared) _ s.toks hst1 (Nat.le_refl _) fun b hb o e => oth b o (fun c => hSf (c ▸ hb)) e
  refine wpAny_pure ⟨plainId_quiet PySem.F.plain_extend_loop _, codeAny_extend_loopS W hn _ hSf _ n 0 _ _ _ rfl (Nat.zero_le _) st3 g3 (ItemsOf.nil P) fun s' acc' c' hm hS' hacc => ?_⟩
  show wpAny _ A (load s.heap.objs.size >>= _) _ _ s'
  refine wpAny_bind (wpAny_load hS' (wpAny_pure (hQ s' acc' ⟨fun b o hb e => ?_, hm.gens, hm.drawn, hm.os, hm.toks⟩ hacc)))
  have hb' : b ≠ s.heap.objs.size := Nat.ne_of_lt (Heap.lt_size e)
  exact hm.heap b o (fun c => (List.mem_cons.mp c).elim hb' hb) (oth b o hb' (k1 b o e))
/-- tuple(a map) -/
theorem call_tuple_map {Q : Value → Shared → Prop} (W : WalksS Pg w A.in1.in1.in1 M fp wr G n P St) (hT : ∀ i s, St i s → s.TypeIs (.ref M) "map") (hst : St 0 s) (hfp : ∀ b ∈ fp, b < s.heap.objs.size) (hM : M ∈ fp) (hn : n ≤ sizeLine)
    (hQ : ∀ s' acc, Moved wr G s s' → ItemsOf P acc n → Q (.ref s'.heap.objs.size) { s' with heap := s'.heap.push { cls := .type "tuple", data := .seq acc } }) : wpAny (Mo w) A (call (.type "tuple") [.ref M]) Q E s := by
  refine callType_codes (Q₁ := fun obj s₁ => s₁.TypeIs obj "tuple" ∧ Q obj s₁) PySem.F.called_tuple (PySem.F.typeCall_tuple_1 _) PySem.F.entry_object_init ?_ fun obj s₁ h₁ =>
    ⟨h₁.1, F.args_object_init_2 obj _, object_init_meets PySem.F.called_tuple.init.lookup PySem.F.called_tuple.made (by decide) Pg w A.in1 _ s₁ ⟨h₁.1, rfl, h₁.2⟩⟩
  refine codeAny_of_tree ?_
  show wpAny _ A.in1.in1 (do checkBuiltinCall "tuple.__new__" ⟨[.type "tuple", .ref M], []⟩; again (.builtin "tuple.__new__" ⟨[.type "tuple", .ref M], []⟩)) _ _ s
  refine wpAny_bind (wpAny_of_eq (PySem.F.newCall_tuple_1 _) (wpAny_pure ⟨plainId_quiet PySem.F.plain_tuple_new _, codeAny_builtin PySem.F.entry_tuple_new ?_⟩))
  rw [Around.under_plainId PySem.F.plain_tuple_new _]
  have hsub := sub_tuple_self
  have hinit := init_tuple_lookup
  have hmh := madeHere_tuple
  have hT0 := hT 0 s hst
  wp_walk using wpAny_typeOf hT0, collect_map W hT hst hfp hM hn
  intro s' acc hm hacc
  show wpAny _ _ (Builtin.Tuple.tupleExact acc.toList.toArray >>= fun v => ret v) _ _ _
  unfold Builtin.Tuple.tupleExact
  rw [Array.toArray_toList]
  exact wpAny_bind (wpAny_newObj_type (wpAny_pure ⟨⟨_, Heap.get?_push_size _ rfl, rfl⟩, hQ s' acc hm hacc⟩) (by show acc.size ≤ sizeLine; rw [hacc.1]; exact hn))
end
section
variable {w : World} {A : Around} {h : Heap} {n : Nat} {env : Env}
theorem Rm.in4 {n : Nat} {A : Around} (r : Rm (n + 1) A) : Rm n A.in1.in1.in1.in1 := ⟨r.hh, by have := r.dep; show A.depth + n < 900; omega, by have := r.un; show A.units + 1 + 1 + 1 + 1 + 20 * n < 9000; omega⟩
theorem itemsOf_eq {vs : List Value} {acc : Array Value} (h : ItemsOf (fun i v => vs[i]? = some v) acc vs.length) : acc = vs.toArray := by
  refine Array.ext (by simpa using h.1) fun i h1 h2 => ?_
  have : vs[i]? = some acc[i] := h.2 i acc[i] (Array.getElem?_eq_getElem h1)
  rw [List.getElem?_eq_getElem (by simpa using h2)] at this
  simpa using (Option.some.inj this).symm
/-- tuple(map(fspath, a list of texts)) -/
theorem ev_tupleMap {p1 p2 p3 pos1 pos2 : Pos} {e : Expr} {xs : List Str} (W : Wd w h n) (r : Rm 2 A) (h1 : Ev w A h n (eval e env) (LV (SLR xs))) (hz : xs.length ≤ sizeLine)
    (ht : Ev w A h n (eval (.Name "tuple" p1) env) (Is (.type "tuple"))) (hm : Ev w A h n (eval (.Name "map" p2) env) (Is (.type "map"))) (hf : Ev w A h n (eval (.Name "fspath" p3) env) (Is (.ref 94)))
    (he : starEach [.Name "fspath" p3, e] env = (false, eval (.Name "fspath" p3) env) :: starEach [e] env) (he2 : starEach [e] env = [(false, eval e env)]) (he3 : starEach [.Call (.Name "map" p2) [.Name "fspath" p3, e] [] pos2] env = [(false, eval (.Call (.Name "map" p2) [.Name "fspath" p3, e] [] pos2) env)]) :
    Ev w A h n (eval (.Call (.Name "tuple" p1) [.Call (.Name "map" p2) [.Name "fspath" p3, e] [] pos2] [] pos1) env) (fun v h' n' => ∃ D vs, v = .ref D ∧ h'.get? D = some (tup vs 0) ∧ h.get? D = none ∧ SL xs vs n') := by
  intro s Q E st tl q
  refine Call_Name rfl (ht s _ E st tl fun f ha na sa la ef => ?_)
  cases ef
  refine callWith_type1 (spliced_more ?_ he3) he3 rfl
  have ka := stays_trans st sa
  have la' := Nat.le_trans tl la
  refine Call_Name rfl (hm _ _ E ka la' fun f hb nb sb lb ef => ?_)
  cases ef
  have kb := stays_trans ka sb
  have lb' := Nat.le_trans la' lb
  refine callWith_type1 ((ev_args2 hf h1 upIs he he2) _ _ E kb lb' fun vs hc nc sc lc p => ?_) he (by rw [he2]; rfl)
  obtain ⟨v₁, v₂, rfl, e1, D, us, ep, rfl, g', sl⟩ := p
  cases e1
  have kc := stays_trans kb sc
  have lc' := Nat.le_trans lb' lc
  have k3 : hc.StaysIn (((hc.push (litO D 0)).push (tup [.ref hc.objs.size] 0)).push (mapO (hc.objs.size + 1) (.ref 94))) := stays_trans (stays_trans (push_stays _ _) (push_stays _ _)) (push_stays _ _)
  have g1 : (((hc.push (litO D 0)).push (tup [.ref hc.objs.size] 0)).push (mapO (hc.objs.size + 1) (.ref 94))).get? hc.objs.size = some (litO D 0) := push_stays _ _ _ _ (push_stays _ _ _ _ (Heap.get?_push_size _ rfl))
  have g2 : (((hc.push (litO D 0)).push (tup [.ref hc.objs.size] 0)).push (mapO (hc.objs.size + 1) (.ref 94))).get? (hc.objs.size + 1) = some (tup [.ref hc.objs.size] 0) := by
    have := Heap.get?_push_size (hc.push (litO D 0)) (o := tup [.ref hc.objs.size] 0) rfl
    rw [Heap.size_push] at this; exact push_stays _ _ _ _ this
  have g3 : (((hc.push (litO D 0)).push (tup [.ref hc.objs.size] 0)).push (mapO (hc.objs.size + 1) (.ref 94))).get? (hc.objs.size + 2) = some (mapO (hc.objs.size + 1) (.ref 94)) := by
    have := Heap.get?_push_size ((hc.push (litO D 0)).push (tup [.ref hc.objs.size] 0)) (o := mapO (hc.objs.size + 1) (.ref 94)) rfl
    rw [Heap.size_push, Heap.size_push] at this; exact this
  refine callType_new map_called (by decide) (map_typeCall _ _) (map_newCall _ _) (fun obj => F.initArgs_range_2 obj _ _) map_entry_new (meets_map_new _ D ep us) ⟨g', ⟨_, g3, rfl⟩, spliced_none ?_⟩
  have st0 : MapSt w hc nc D ep us hc.objs.size 0 { s with heap := ((hc.push (litO D 0)).push (tup [.ref hc.objs.size] 0)).push (mapO (hc.objs.size + 1) (.ref 94)), toks := nc } := ⟨k3, Nat.le_refl _, k3 _ _ g', g1, g2, g3⟩
  refine call_tuple_map (map_walks (A := A.in1.in1.in1) r.hh (W.keeps kc lc') r.in4 (Nat.le_refl _) (Heap.lt_size g') sl) (fun i s x => ⟨_, x.mp, rfl⟩) st0 (fun b hb => Nat.lt_of_lt_of_le (List.mem_range.mp hb) (Heap.lt_size g3)) (List.mem_range.mpr (Nat.lt_succ_self _)) (by rw [sl.len]; exact hz) fun s' acc hm hacc => ?_
  have e := itemsOf_eq hacc
  subst e
  obtain ⟨h', gn, dn, tk, os⟩ := s'
  obtain ⟨m1, rfl, rfl, rfl, m5⟩ := hm
  have k4 : hc.StaysIn h' := fun b o e => m1 b o (fun c => by rw [List.mem_singleton.mp c] at e; exact absurd (Heap.lt_size e) (Nat.lt_irrefl _)) (k3 b o e)
  have k5 := stays_trans (stays_trans (stays_trans sa sb) sc) k4
  exact q _ _ tk (stays_trans k5 (push_stays _ _)) (Nat.le_trans la (Nat.le_trans lb (Nat.le_trans lc m5))) ⟨_, us, rfl, Heap.get?_push_size _ rfl, none_of (stays_trans st k5) (fresh_none _), sl.up m5⟩
end

theorem sit_next : Slot "set_iterator" "__next__" "set_iterator.__next__" :=
  .of (owner := "set_iterator") (n := "__next__") (by rw [typeLookup_type, builtinLookup_eq_fast]; kernel_rfl) (by decide +kernel) (by decide +kernel) (by decide +kernel)
    (by first | exact .inl (by decide +kernel) | exact .inr (by decide +kernel)) (by rw [isSubtype_type]; kernel_rfl)
theorem sit_entry : entryFor table "set_iterator.__next__" = some Builtin.«set_iterator.__next__» := entryFor_of_tree (by kernel_rfl)
theorem sit_args (a : Value) : argsOk "set_iterator.__next__" ⟨[a], []⟩ := by unfold argsOk; kernel_rfl
theorem set_entry_iter : entryFor table "set.__iter__" = some Builtin.«frozenset.__iter__» :=
  entryFor_alias (id' := "frozenset.__iter__") (by kernel_rfl) rfl (by decide +kernel) (by kernel_rfl)
abbrev sitO (a : Addr) (k i : Nat) : Obj := { cls := .type "set_iterator", dict := none, data := .fields #[.int k 0, .int i 0, .ref a, .int (1 : Nat) 0, .int (1 : Nat) 0], slots := #[] }
section
variable {w : World} {A : Around} {E : Value → Shared → Prop} {s : Shared} {a : Nat} {b : Bool}
theorem set_iter {Q : Value → Shared → Prop} (ho : s.heap.get? a = some (setO1 (!byTxt w) b)) (h : Q (.ref s.heap.objs.size) { s with heap := s.heap.push (sitO a 0 0) }) : wpAny (Mo w) A (pyIter (.ref a)) Q E s := by
  have hT : s.TypeIs (.ref a) "set" := ⟨_, ho, rfl⟩
  have hf := fits_one (!byTxt w) b
  refine wpAny_pyIter_slot hT F.slot_set_iter (wpAny_call_entry F.slot_set_iter hT set_entry_iter ?_ (F.args_set_iter_1 _))
  show wpAny _ _ (Builtin.Frozenset.sizeOf a >>= _) _ _ s
  unfold Builtin.Frozenset.sizeOf
  refine wpAny_bind (wpAny_bind (wpAny_setEntries_of ho rfl hf (wpAny_pure ?_)))
  dsimp only
  unfold setDrawn setsByText
  refine wpAny_bind (wpAny_bind (wpAny_setState_of ho rfl hf ?_))
  dsimp only
  refine wpAny_bind (wpAny_bind (wpAny_askSetting (wpAny_pure (wpAny_pure ?_))))
  rw [if_neg (fun c => by have := (Bool.and_eq_true_iff.mp c).2; exact Bool.noConfusion (this : false = true))]
  refine wpAny_bind (wpAny_pure (wpAny_bind (wpAny_setEpoch_of ho rfl hf ?_)))
  refine wpAny_bind (wpAny_newObj_type ?_)
  exact wpAny_pure ⟨_, rfl, "set_iterator", _, ⟨_, Heap.get?_push_size _ rfl, rfl⟩, sit_next.lookup, h⟩
theorem pick1 (f : Nat → Nat) (e : Int × Value) : pickOrder f #[e] = #[e] := by
  simp [pickOrder, pickOrder.go, Nat.mod_one]
def kN (w : World) (b : Bool) : Nat := if byTxt w = true then 0 else if b then 2 else 1
theorem set_next0 {Q : Option (Value × Nat) → Shared → Prop} (ho : s.heap.get? a = some (setO1 (!byTxt w) b)) (h : Q (some (.bool b, kN w b)) s) : wpAny (Mo w) A (setNext a 0 0 1) Q E s := by
  have hf := fits_one (!byTxt w) b
  unfold setNext setsByText
  refine wpAny_bind (wpAny_setState_of ho rfl hf ?_)
  dsimp only
  refine wpAny_bind (wpAny_bind (wpAny_askSetting (wpAny_pure ?_)))
  cases hw : byTxt w with
  | true =>
    rw [if_pos (show (Mo w).w.params.followText "set-order" = true from hw)]
    rw [show kN w b = 0 from if_pos hw] at h
    rw [if_neg (by decide)]
    unfold setWalk setsByText
    refine wpAny_bind (wpAny_bind (wpAny_setState_of ho rfl hf ?_))
    dsimp only
    refine wpAny_bind (wpAny_bind (wpAny_askSetting (wpAny_pure ?_)))
    rw [if_pos (show (Mo w).w.params.followText "set-order" = true from hw)]
    refine wpAny_bind (wpAny_askSetting (wpAny_pure ?_))
    rw [pick1]
    exact wpAny_pure h
  | false =>
    rw [if_neg (fun c => by rw [show (Mo w).w.params.followText "set-order" = false from hw] at c; cases c), if_neg (fun c => by exact Bool.noConfusion (show false = true from c))]
    rw [show kN w b = if b = true then 2 else 1 from if_neg (by rw [hw]; decide)] at h
    refine wpAny_bind (wpAny_of_eq (a := ()) rfl ?_)
    cases b <;> exact wpAny_pure h
theorem set_next1 {Q : Option (Value × Nat) → Shared → Prop} (ho : s.heap.get? a = some (setO1 (!byTxt w) b)) (h : Q none s) : wpAny (Mo w) A (setNext a (kN w b) 1 1) Q E s := by
  have hf := fits_one (!byTxt w) b
  unfold setNext setsByText
  refine wpAny_bind (wpAny_setState_of ho rfl hf ?_)
  dsimp only
  refine wpAny_bind (wpAny_bind (wpAny_askSetting (wpAny_pure ?_)))
  cases hw : byTxt w with
  | true =>
    rw [if_pos (show (Mo w).w.params.followText "set-order" = true from hw)]
    rw [if_neg (by decide)]
    unfold setWalk setsByText
    refine wpAny_bind (wpAny_bind (wpAny_setState_of ho rfl hf ?_))
    dsimp only
    refine wpAny_bind (wpAny_bind (wpAny_askSetting (wpAny_pure ?_)))
    rw [if_pos (show (Mo w).w.params.followText "set-order" = true from hw)]
    refine wpAny_bind (wpAny_askSetting (wpAny_pure ?_))
    rw [pick1]
    exact wpAny_pure h
  | false =>
    rw [if_neg (fun c => by rw [show (Mo w).w.params.followText "set-order" = false from hw] at c; cases c), if_neg (fun c => by exact Bool.noConfusion (show false = true from c))]
    rw [show kN w b = if b = true then 2 else 1 from if_neg (by rw [hw]; decide)]
    refine wpAny_bind (wpAny_of_eq (a := ()) rfl ?_)
    cases b <;> exact wpAny_pure h
/-- the one item of such a set, then its end -/
theorem sit_item {I : Nat} {Q : Option Value → Shared → Prop} (ho : s.heap.get? a = some (setO1 (!byTxt w) b)) (hI : s.heap.get? I = some (sitO a 0 0))
    (h : ∀ h', Heap.SameBut I s.heap h' → h'.get? I = some (sitO a (kN w b) 1) → Q (some (.bool b)) { s with heap := h' }) : wpAny (Mo w) A (pyNext (.ref I)) Q E s := by
  have hT : s.TypeIs (.ref I) "set_iterator" := ⟨_, hI, rfl⟩
  have hf := fits_one (!byTxt w) b
  unfold pyNext
  refine wpAny_bind (wpAny_attempt (wpAny_callSpecial?_slot (name := Str.ofString "__next__") hT sit_next (wpAny_call_entry sit_next hT sit_entry ?_ (sit_args _))))
  show wpAny _ _ (fieldsOf (.ref I) >>= _) _ _ s
  refine wpAny_bind (wpAny_fieldsOf hI rfl ?_)
  show wpAny _ _ (setEntries a >>= _) _ _ s
  refine wpAny_bind (wpAny_setEntries_of ho rfl hf ?_)
  rw [if_neg (by simp)]
  refine wpAny_bind (set_next0 ho ?_)
  refine wpAny_bind (wpAny_setField hI rfl (by simp) ?_)
  have g1 : (s.heap.update I (Obj.mapFields (·.setIfInBounds 0 (rawInt (kN w b))))).get? I = some (sitO a (kN w b) 0) := by rw [Heap.get?_update_self _ hI rfl]; simp [Obj.mapFields, rawInt, sitO]
  refine wpAny_bind (wpAny_setField g1 rfl (by simp) (wpAny_pure ⟨_, rfl, wpAny_pure (h _ ((Heap.SameBut.update ..).trans (Heap.SameBut.update ..)) ?_)⟩))
  rw [Heap.get?_update_self _ g1 rfl]; simp [Obj.mapFields, rawInt, sitO]
theorem sit_done {I : Nat} {Q : Option Value → Shared → Prop} (hh : A.handled = none) (ho : s.heap.get? a = some (setO1 (!byTxt w) b)) (hI : s.heap.get? I = some (sitO a (kN w b) 1))
    (h : ∀ h', Heap.ExtBut I s.heap h' → Q none { s with heap := h' }) : wpAny (Mo w) A (pyNext (.ref I)) Q E s := by
  have hT : s.TypeIs (.ref I) "set_iterator" := ⟨_, hI, rfl⟩
  have hf := fits_one (!byTxt w) b
  unfold pyNext
  refine wpAny_bind (wpAny_attempt (wpAny_callSpecial?_slot (name := Str.ofString "__next__") hT sit_next (wpAny_call_entry sit_next hT sit_entry ?_ (sit_args _))))
  show wpAny _ _ (fieldsOf (.ref I) >>= _) _ _ s
  refine wpAny_bind (wpAny_fieldsOf hI rfl ?_)
  show wpAny _ _ (setEntries a >>= _) _ _ s
  refine wpAny_bind (wpAny_setEntries_of ho rfl hf ?_)
  rw [if_neg (by simp)]
  refine wpAny_bind (set_next1 ho ?_)
  refine wpAny_bind (wpAny_setField hI rfl (by simp) ?_)
  show wpAny _ _ (newExc (.type "StopIteration") [] >>= _) _ _ _
  refine wpAny_bind ?_
  simp only [newExc, newTuple]
  refine wpAny_bind (wpAny_newObj_type ?_ (by size_fits))
  refine wpAny_bind (m := firstArgMember _ _) (wpAny_of_eq (a := Value.none) (by first | rfl | (simp only [firstArgMember]; rfl)) ?_)
  refine wpAny_newObj_type ?_ (by size_fits)
  simp only [raiseNew]
  refine wpAny_bind (wpAny_handled ?_)
  rw [show A.in1.handled = none from hh]
  refine wpAny_bind (wpAny_pure (wpAny_throw ?_))
  refine wpAny_bind (wpAny_isInstance (T := "StopIteration") (b := true) ⟨_, Heap.get?_push_size _ rfl, rfl⟩ isSubtype_stop ?_)
  exact wpAny_pure (h _ (((Heap.SameBut.update ..).extBut.push _).push _))
/-- (x,) = a set of one -/
theorem unpack_set {Q : List Value → Shared → Prop} (hh : A.handled = none) (ho : s.heap.get? a = some (setO1 (!byTxt w) b)) (h : ∀ h', s.heap.StaysIn h' → Q [.bool b] { s with heap := h' }) : wpAny (Mo w) A (unpackItems (.ref a) 1 none) Q E s := by
  have hT : s.TypeIs (.ref a) "set" := ⟨_, ho, rfl⟩
  have hlt := Heap.lt_size ho
  have low : ∀ (b : Addr) (o : Obj), s.heap.get? b = some o → b ≠ s.heap.objs.size := fun b o e => Nat.ne_of_lt (Heap.lt_size e)
  unfold unpackItems
  refine wpAny_bind ?_
  unfold notIterableAtAll
  refine wpAny_bind (wpAny_specialOf hT F.slot_set_iter.lookup (wpAny_pure ?_))
  simp only [Bool.false_eq_true, if_false]
  refine wpAny_bind (wpAny_holding (set_iter ho ?_))
  have k1 : s.heap.StaysIn (s.heap.push (sitO a 0 0)) := push_stays _ _
  refine wpAny_bind (wpAny_holding ?_)
  show wpAny _ _ (pyNext (.ref s.heap.objs.size) >>= _) _ _ _
  refine wpAny_bind (sit_item (k1 _ _ ho) (Heap.get?_push_size _ rfl) fun h2 sb g2 => ?_)
  have k2 : s.heap.StaysIn h2 := fun b o e => sb.extBut b o (low b o e) (k1 b o e)
  refine wpAny_bind (wpAny_holding (wpAny_pure (wpAny_pure ?_)))
  rw [if_neg (by simp)]
  refine wpAny_bind (wpAny_holding (sit_done hh (k2 _ _ ho) g2 fun h3 eb => ?_))
  simp only [Option.isSome_none, Bool.false_eq_true, if_false]
  exact wpAny_pure (h h3 fun b o e => eb b o (low b o e) (k2 b o e))
end
section
variable {w : World} {A : Around} {s : Shared} {h : Heap} {n : Nat} {env : Env} {h₀ : Heap} {m : Str → Option Value} {news : List (Addr × Obj)} {E : Value → Shared → Prop} {Q : Flow → Shared → Prop} {L : Addr}
theorem st_asgSet1 {x : Str} {p tp pos : Pos} {k₀ : Nat} {e : Expr} {rest : List Stmt} {b : Bool} (F : Fr h₀ L h m) (N : News h₀ L h news) (hL : env.locals = L) (hh : A.handled = none) (he : Ev w A h n (eval e env) (fun v h' _ => ∃ D, v = .ref D ∧ h'.get? D = some (setO1 (!byTxt w) b) ∧ h.get? D = none))
    (k : ∀ h' tk, n ≤ tk → Fr h₀ L h' (upd m x (.bool b)) → News h₀ L h' news → wpAny (Mo w) A (execs rest env) Q E (put s h' tk))
    (hs : swapsWithSole [.Tuple [.Name x p] k₀ tp] e pos.line env = pure false) (hw : swappedStores [.Tuple [.Name x p] k₀ tp] e env = pure none) (h1 : env.kindOf x = some .local) (hk : env.scope.kind = .function) :
    wpAny (Mo w) A (execs (.Assign [.Tuple [.Name x p] k₀ tp] e pos :: rest) env) Q E (put s h n) := by
  subst hL
  refine st_cons (Assign_Tuple (he.use (s := put s h n) fun v h₁ tk st tl pv => ?_) hs hw)
  obtain ⟨D, rfl, g, _⟩ := pv
  rw [assign_Tuple]
  refine wpAny_bind (wpAny_standAt ?_)
  unfold unpack
  refine wpAny_bind (wpAny_holding (unpack_set hh g fun h₂ k2 => ?_))
  have F₂ := fr_grow F (stays_trans st k2)
  refine assignInOrder_cons (wpAny_assign_Name (wpAny_storeName_local h1 F₂.ns (fun h₃ n₃ s₃ => ?_) (by rw [hk]; rfl)))
  exact assignInOrder_nil (k h₃ (tk + 1) (Nat.le_succ_of_le tl) (F₂.set n₃ s₃) ((news_grow N (stays_trans st k2)).set s₃))
end

section
variable {w : World} {A : Around} {s : Shared} {h : Heap} {n : Nat} {env : Env} {h₀ : Heap} {m : Str → Option Value} {news : List (Addr × Obj)} {E : Value → Shared → Prop} {Q : Flow → Shared → Prop} {L : Addr}
/-- what a turn over enumerate(..) ends in -/
def EnumEnd (w : World) (A : Around) (env : Env) (E : Value → Shared → Prop) (rest : List Stmt) (Q : Flow → Shared → Prop) (s : Shared) (h₀ : Heap) (L : Addr) (J : (Str → Option Value) → Prop) (nw : List (Addr × Obj)) (f : Flow) (s' : Shared) : Prop :=
  match f with
  | .ret v => Q (.ret v) s'
  | .brk => wpAny (Mo w) A (execs rest env) Q E s'
  | _ => ∃ h' tk m', s' = put s h' tk ∧ Fr h₀ L h' m' ∧ News h₀ L h' nw ∧ J m'
theorem st_forEnum {xi xv : Str} {p1 pi pv tp pos1 pos : Pos} {k₀ : Nat} {e : Expr} {body rest : List Stmt} {D ep : Nat} {vs : List Value} (J : Nat → (Str → Option Value) → Prop) (F : Fr h₀ L h m) (N : News h₀ L h news) (hL : env.locals = L) (hh : A.handled = none) (hD : (D, lst vs ep) ∈ news)
    (hen : Ev w A h n (eval (.Name "enumerate" p1) env) (Is (.type "enumerate"))) (he : Ev w A h n (eval e env) (Is (.ref D))) (h0 : J 0 m)
    (turn : ∀ own i v t m₁ h tk, n ≤ tk → vs[i]? = some v → J i m₁ → Fr h₀ L h (upd (upd m₁ xi (.int i t)) xv v) → News h₀ L h (news ++ own) → wpAny (Mo w) A (execs body env) (EnumEnd w A env E rest Q s h₀ L (J (i + 1)) (news ++ own)) (fun _ _ => False) (put s h tk))
    (done : ∀ m₁ h tk, n ≤ tk → J vs.length m₁ → Fr h₀ L h m₁ → News h₀ L h news → wpAny (Mo w) A (execs rest env) Q E (put s h tk))
    (he1 : starEach [e] env = [(false, eval e env)]) (hxi : env.kindOf xi = some .local) (hxv : env.kindOf xv = some .local) (hk : env.scope.kind = .function)
    (hs : ∀ x, foldedSetIterable (.Call (.Name "enumerate" p1) [e] [] pos1) env x = pure x) :
    wpAny (Mo w) A (execs (.For (.Tuple [.Name xi pi, .Name xv pv] k₀ tp) (.Call (.Name "enumerate" p1) [e] [] pos1) body [] pos :: rest) env) Q E (put s h n) := by
  subst hL
  have hkk : (env.scope.kind == .class || (env.scope.kind == .module && env.locals != env.globals)) = false := by rw [hk]; rfl
  have hmk : Ev w A h n (eval (.Call (.Name "enumerate" p1) [e] [] pos1) env) (fun v h' _ => ∃ I, v = .ref (I + 1) ∧ IsEnum h' (I + 1) I 0 .none ∧ h'.IsListIter I D 0 ∧ h.get? I = none ∧ h.get? (I + 1) = none ∧ D < I) :=
    ev_callT1 hen he (fun v h' n' k l ev => by
      cases ev
      intro s Q E st tl q
      have g := st _ _ (k _ _ (N _ hD).1)
      refine call_enumerate_list ⟨_, g, rfl, ep, rfl⟩ fun h'' h1 h2 h3 h4 => q _ h'' s.toks h4 (Nat.le_refl _) ⟨_, rfl, h1, h2, none_of (stays_trans k st) (fresh_none _), ?_, Heap.lt_size g⟩
      cases q' : h.get? (s.heap.objs.size + 1) with
      | none => rfl
      | some o => exact absurd (Heap.lt_size (st _ _ (k _ _ q'))) (Nat.not_lt.mpr (Nat.le_succ _))) he1
  refine st_cons (For_stop (hmk.use (s := put s h n) fun v ha na st₁ tl₁ pv => ?_) hs)
  obtain ⟨I, rfl, hE, hIt, nI, nE, hDI⟩ := pv
  have nE0 : h₀.get? (I + 1) = none := none_of F.keep nE
  have nI0 : h₀.get? I = none := none_of F.keep nI
  have ex : ∀ a : Addr, h.get? a = none → a ≠ env.locals ∧ ∀ p ∈ news, p.1 ≠ a := fun a e => ⟨(fun c => by obtain ⟨o, _, _, g, _⟩ := F.ns; rw [← c, e] at g; cases g), (fun p hp c => by have := (N p hp).1; rw [c, e] at this; cases this)⟩
  have W := WalksT.enumerate (prog := Pg) (w := w) hh (I + 1) I D (Nat.succ_ne_self I) (Nat.ne_of_lt (Nat.lt_succ_of_lt hDI)) (Nat.ne_of_lt hDI) vs.toArray
  refine wpAny_pyIter_enum hE ?_
  have g1 := st₁ _ _ (N _ hD).1
  refine codeAny_forLoop_any (fun k s' => ∃ H tk m i, s' = put s H tk ∧ n ≤ tk ∧ k = vs.length + 1 - i ∧ i ≤ vs.length ∧ ((∃ old, IsEnum H (I + 1) I i old) ∧ H.IsListIter I D i ∧ H.IsList D vs.toArray) ∧ Fr h₀ env.locals H m ∧ News h₀ env.locals H news ∧ J i m) ?_ (vs.length + 1)
    ⟨ha, na, m, 0, rfl, tl₁, rfl, Nat.zero_le _, ⟨⟨_, hE⟩, hIt, ⟨_, g1, rfl, ep, rfl⟩⟩, fr_grow F st₁, news_grow N st₁, h0⟩
  rintro k s' ⟨H, tk, m₁, i, rfl, htk, rfl, hi, st, F₁, N₁, hJ⟩
  have but : ∀ {H H' : Heap} {m : Str → Option Value}, (∀ b o, b ∉ [I + 1, I] → H.get? b = some o → H'.get? b = some o) → Fr h₀ env.locals H m → Fr h₀ env.locals H' m := fun k F => ⟨F.ns.at' fun o e => k _ o (fun c => (List.mem_cons.mp c).elim (fun c => (ex _ nE).1 c.symm) fun c => (ex _ nI).1 (List.mem_singleton.mp c).symm) e,
    fun b o e => k b o (fun c => (List.mem_cons.mp c).elim (fun c => by rw [c, nE0] at e; cases e) fun c => by rw [List.mem_singleton.mp c, nI0] at e; cases e) (F.keep b o e), F.above⟩
  have butN : ∀ {H H' : Heap}, (∀ b o, b ∉ [I + 1, I] → H.get? b = some o → H'.get? b = some o) → News h₀ env.locals H news → News h₀ env.locals H' news := fun k N p hp => ⟨k _ _ (fun c => (List.mem_cons.mp c).elim ((ex _ nE).2 p hp) fun c => (ex _ nI).2 p hp (List.mem_singleton.mp c)) (N p hp).1, (N p hp).2⟩
  by_cases hlt : i < vs.length
  · refine wpAny_with_toks (n := tk) (Nat.le_refl _) (W.item i _ _ _ (by simpa using hlt) st fun T vals h2 tk2 hv hT hTup hMid k2 htk2 => ?_)
    obtain ⟨t, v, hv, rfl⟩ := hv
    have hv' : vs[i]? = some v := by simpa using hv
    refine W.go _ _ _ i T _ _ _ hMid fun h3 st3 k3 => ?_
    have hTup3 : h3.IsTuple T #[.int i t, v] := hTup.at fun o e => k3 T o (W.apart _ _ _ hMid) e
    refine wpAny_assign_Tuple hh hTup3 rfl rfl fun h4 x4 => ?_
    have x4' : h3.StaysIn h4 := fun b o e => x4 b o (Nat.ne_of_lt (Heap.lt_size e)) e
    have F₄ := fr_grow (but k3 (but k2 F₁)) x4'
    have N₄ := news_grow (butN k3 (butN k2 N₁)) x4'
    refine assignInOrder_cons (wpAny_assign_Name (wpAny_storeName_local hxi F₄.ns (fun h5 n5 s5 => ?_) hkk))
    have F₅ := F₄.set n5 s5
    have N₅ := N₄.set s5
    refine assignInOrder_cons (wpAny_assign_Name (wpAny_storeName_local hxv F₅.ns (fun h6 n6 s6 => assignInOrder_nil ?_) hkk))
    have F₆ := F₅.set n6 s6
    have N₆ := N₅.set s6
    have up : ∀ b o, b ≠ env.locals → h3.get? b = some o → h6.get? b = some o := fun b o hb e => s6.extBut b o hb (s5.extBut b o hb (x4' b o e))
    have st6 := W.frame _ _ h6 st3 fun b hb o e => up b o (fun c => by
      rcases List.mem_cons.mp hb with q | hb
      · exact (ex _ nE).1 (q ▸ c)
      · rcases List.mem_cons.mp hb with q | hb
        · exact (ex _ nI).1 (q ▸ c)
        · rw [List.mem_singleton.mp hb] at c; exact (N _ hD).2.1 c) e
    obtain ⟨⟨old, gE⟩, ⟨oI, gI, _, _⟩, _⟩ := id st6
    obtain ⟨oE, gE⟩ : ∃ o, h6.get? (I + 1) = some o := ⟨_, gE⟩
    have N7 : News h₀ env.locals h6 (news ++ [(I + 1, oE), (I, oI)]) := fun p hp => by
      rcases List.mem_append.mp hp with hp | hp
      · exact N₆ p hp
      · rcases List.mem_cons.mp hp with q | hp
        · rw [q]; exact ⟨gE, (ex _ nE).1, nE0⟩
        · rw [List.mem_singleton.mp hp]; exact ⟨gI, (ex _ nI).1, nI0⟩
    have ltk : tk ≤ tk2 + 1 + 1 := Nat.le_succ_of_le (Nat.le_succ_of_le htk2)
    refine wpAny_mono (wpAny_toks_of (n := n) (Nat.le_trans htk ltk) (turn _ i v t m₁ h6 (tk2 + 1 + 1) (Nat.le_trans htk ltk) hv' hJ F₆ N7)) (fun f s3 hf => ?_) fun _ _ x => x.2.elim
    obtain ⟨lf, hf⟩ := hf
    have key : (∃ h' tk m', s3 = put s h' tk ∧ Fr h₀ env.locals h' m' ∧ News h₀ env.locals h' (news ++ [(I + 1, oE), (I, oI)]) ∧ J (i + 1) m') → ∃ c, c < vs.length + 1 - i ∧ ∃ H tk m j, s3 = put s H tk ∧ n ≤ tk ∧ c = vs.length + 1 - j ∧ j ≤ vs.length ∧ ((∃ old, IsEnum H (I + 1) I j old) ∧ H.IsListIter I D j ∧ H.IsList D vs.toArray) ∧ Fr h₀ env.locals H m ∧ News h₀ env.locals H news ∧ J j m := by
      rintro ⟨h7, tk7, m7, rfl, F7, N7', J7⟩
      refine ⟨vs.length + 1 - (i + 1), by omega, h7, tk7, m7, i + 1, rfl, lf, rfl, hlt, W.frame _ _ _ st6 fun b hb o e => ?_, F7, fun p hp => N7' p (List.mem_append_left _ hp), J7⟩
      rcases List.mem_cons.mp hb with q | hb
      · rw [q] at e ⊢; rw [← e, gE]; exact (N7' _ (List.mem_append_right _ (.head _))).1
      · rcases List.mem_cons.mp hb with q | hb
        · rw [q] at e ⊢; rw [← e, gI]; exact (N7' _ (List.mem_append_right _ (.tail _ (.head _)))).1
        · rw [List.mem_singleton.mp hb] at e ⊢; rw [← e, (N₆ _ hD).1]; exact (N7' _ (List.mem_append_left _ hD)).1
    cases f with
    | next => exact key hf
    | cont => exact key hf
    | brk => exact hf
    | ret v => exact hf
  · have hin : i = vs.length := by omega
    subst hin
    refine wpAny_with_toks (n := tk) (Nat.le_refl _) (W.done _ _ _ (by rw [List.size_toArray]; exact st) fun h2 tk2 k2 htk2 => ?_)
    exact wpAny_execs_nil (done m₁ h2 tk2 (Nat.le_trans htk htk2) hJ (but k2 F₁) (butN k2 N₁))
end

/-- a def with cells is entered -/
theorem ev_defC {w : World} {A : Around} {h : Heap} {n₀ : Nat} {name qual : Str} {params : Arguments} {body : List Stmt} {scope : Scope} {dV kV doc pm cdv ct oc : Value} {an od : Option Addr} {osl : Array (Option Value)} {f : Addr} {args : List Value} {binds : List (Str × Value)} {n : Nat} {P : Value → Heap → Nat → Prop}
    (W : Wd w h n₀) (ho : (KK w.params).lookup f = some ⟨oc, od, .func (fnOf name qual params body scope dV kV doc pm an cdv ct), osl⟩) (hcd : codeIn (KK w.params) cdv qual = true) (r : Rm (n + 1) A)
    (hbind : bindArgs (fnOf name qual params body scope dV kV doc pm an cdv ct) ⟨args, []⟩ = pure binds)
    (hkind : ∀ n, ∀ x ∈ binds, scope.names.lookup x.1 = some .local ∨ (scope.names.lookup x.1 = some .cell ∧ ((cellsFrom n scope.names []).lookup x.1).isSome = true)) (hnd : ((cellsFrom 0 scope.names []).map (·.1)).Nodup)
    (body_ : ∀ A' L s₀ s h₁ n₁ Qf Ef cells, Rm n A' → h.StaysIn s₀ → n₀ ≤ n₁ → Wd w s₀ n₁ → Fr s₀ L h₁ (bindL (envOfC qual scope L f cdv).kindOf binds fun _ => none) → News s₀ L h₁ cells → CellsAre (bindC (envOfC qual scope L f cdv).kindOf binds fun _ => none) (cellsFrom (L + 1) scope.names []) cells →
      (∀ v h' tk, s₀.StaysIn h' → n₁ ≤ tk → P v h' tk → Qf (.ret v) (put s h' tk)) → wpAny (Mo w) A' (execs body (envOfC qual scope L f cdv)) Qf Ef (put s h₁ n₁))
    (hco : scope.isCoroutine = false) (hgen : scope.isGenerator = false) (hk : scope.kind = .function) : Ev w A h n₀ (call (.ref f) args) P :=
  fun s Q E st tl q => by
    have W' := W.keeps st tl
    obtain ⟨_, _, _, _, _, T⟩ := W'.T
    refine wpAny_call (codeAny_call_function (fd := fnOf name qual params body scope dV kV doc pm an cdv ct) (body := body) (r.room) (W'.X _ _ ho) rfl hco hgen rfl (codeRec_of W'.X hcd) ?_)
    rw [hbind]
    refine wpAny_pure (wpAny_with_toks (n := s.toks) (Nat.le_refl _) (wpAny_newFunctionEnv_cells hk (hkind _) fun env' he s' x hle => ?_))
    subst he
    refine ⟨T.nolimit.keeps x.toInCall.keep, codeAny_func ?_⟩
    have hk₁ := x.toInCall.keep
    obtain ⟨h₁, tk, rfl, _⟩ := x.done
    obtain ⟨cells, NC, Y⟩ := Cl.news (h₀ := s.heap) (Nat.le_refl _) fun n c hm => ⟨x.cell n c (lookup_of_mem_nodup (cellsFrom_names scope.names 0 (s.heap.objs.size + 1) [] [] rfl ▸ hnd) hm), x.above n c hm⟩
    exact body_ _ s.heap.objs.size s.heap s h₁ tk _ _ cells (r.deeper _) st (Nat.le_trans tl hle) (W'.keeps (stays_refl _) hle) ⟨x.toInCall.ns, hk₁, Nat.le_refl _⟩ NC Y fun v h' tk₁ st' tl' p => q v h' tk₁ st' (Nat.le_trans hle tl') p
section
variable {w : World} {A : Around} {s : Shared} {h : Heap} {n : Nat} {env : Env} {h₀ : Heap} {m : Str → Option Value} {news : List (Addr × Obj)} {E : Value → Shared → Prop} {Q : Flow → Shared → Prop} {L : Addr}
/-- a cell's value -/
theorem ev_cell {x : Str} {pos : Pos} {c : Addr} {o : Obj} {v : Value} {P : Value → Heap → Nat → Prop} (hc : env.cells.lookup x = some c) (g : h.get? c = some o) (hd : o.data = .cell (some v)) (p : P v h n) (up : Up P) (hk : env.scope.kind = .function) (hl : env.kindOf x = some .cell)
    (hb : (x == ("__debug__" : Str)) = false) : Ev w A h n (eval (.Name x pos) env) P :=
  .val v (fun s Q E st tl q => wpAny_Name (wpAny_loadName_cell hk hl hc ⟨o, st _ _ g, hd⟩ q) hb) (fun _ _ k l => up _ _ _ _ _ p k l)
/-- x = e, x in a cell -/
theorem st_asgC {x : Str} {p pos : Pos} {e : Expr} {rest : List Stmt} {P : Value → Heap → Nat → Prop} {c : Addr} {o : Obj} {v₀ : Option Value} {own after : List (Addr × Obj)} (F : Fr h₀ L h m) (N : News h₀ L h (own ++ (c, o) :: after)) (hL : env.locals = L) (hc : env.cells.lookup x = some c) (hd : o.data = .cell v₀) (h1 : ∀ p ∈ own, p.1 ≠ c) (h2 : ∀ p ∈ after, p.1 ≠ c) (he : Ev w A h n (eval e env) P)
    (k : ∀ v h₁ h' tk o', n ≤ tk → h.StaysIn h₁ → P v h₁ tk → (∀ b o, b ≠ c → h₁.get? b = some o → h'.get? b = some o) → Fr h₀ L h' m → News h₀ L h' (own ++ (c, o') :: after) → o'.data = .cell (some v) → wpAny (Mo w) A (execs rest env) Q E (put s h' tk))
    (hs : swapsWith e (some (.Name x p)) pos.line env = pure false) (hx : env.kindOf x = some .cell) (hk : env.scope.kind = .function) :
    wpAny (Mo w) A (execs (.Assign [.Name x p] e pos :: rest) env) Q E (put s h n) := by
  subst hL
  have hmem := N (c, o) (List.mem_append_right _ (.head _))
  refine st_cons (wpAny_Assign_Name (he.use (s := put s h n) fun v h₁ tk st tl pv => wpAny_storeName_cell hk hx hc ⟨o, st _ _ hmem.1, hd⟩ fun h' hv sb => ?_) hs)
  obtain ⟨o', ho', hd'⟩ := hv
  have F₁ := fr_grow F st
  have N₁ := news_grow N st
  refine k v h₁ h' tk o' tl st pv (fun b o hb e => sb.extBut b o hb e) ⟨F₁.ns.sameBut sb (Ne.symm hmem.2.1), fun b ob e => (sb.2 b (fun q => ?_)).trans (F₁.keep b ob e), F₁.above⟩ (N₁.setAt h1 h2 sb ho') hd'
  rw [q, hmem.2.2] at e; cases e
/-- a slice of a list: its first k items -/
theorem ev_take {value upper : Expr} {p pos : Pos} {R : List Value → Heap → Nat → Prop} {R' : List Value → Heap → Nat → Prop} {k : Nat} (h1 : Ev w A h n (eval value env) (LV R)) (h2 : Ev w A h n (eval upper env) (IsI (k : Int))) (up : Up R) (hz : ∀ vs h' n', R vs h' n' → vs.length ≤ sizeLine) (hR : ∀ vs h' n', R vs h' n' → R' (vs.take k) h' n') (up' : Up R')
    (ht : ∀ o r, letTemporaryGo value o r = pure ()) : Ev w A h n (eval (.Subscript value (.Slice none (some upper) none p) pos) env) (fun v h' n' => ∃ D vs, v = .ref D ∧ h'.get? D = some (lst vs 0) ∧ h.get? D = none ∧ R' vs h' n') :=
  fun s Q E st tl q => wpAny_Subscript_list_slice (h1 s _ E st tl fun o ha na sa la pa => by
    rw [evalPart_none]
    refine wpAny_pure (h2 _ _ E (stays_trans st sa) (Nat.le_trans tl la) fun vu hb nb sb lb pb => ?_)
    obtain ⟨D, vs, ep, rfl, g, r⟩ := pa
    obtain ⟨t, rfl⟩ := pb
    have r' := up _ _ _ _ _ r sb lb
    refine ⟨D, vs.toArray, none, some (k : Int), rfl, ⟨_, sb _ _ g, rfl, ep, rfl⟩, by rw [List.size_toArray]; exact hz _ _ _ r', .none, .int _ _, ?_⟩
    have e : slicePick vs.toArray none (some (k : Int)) none = (vs.take k).toArray := slicePick_upto' _ _
    rw [e]
    have k2 := stays_trans (push_stays hb { cls := .type "slice", data := .fields #[.none, .int k t, .none] }) (push_stays _ (lst (vs.take k) 0))
    have g2 := Heap.get?_push_size (hb.push { cls := .type "slice", data := .fields #[.none, .int k t, .none] }) (o := lst (vs.take k) 0) rfl
    rw [Heap.size_push] at g2
    refine q _ _ _ (stays_trans sa (stays_trans sb k2)) (Nat.le_trans la lb) ⟨_, _, rfl, g2, ?_, up' _ _ _ _ _ (hR _ _ _ r') k2 (Nat.le_refl _)⟩
    cases q' : h.get? (hb.objs.size + 1) with
    | none => rfl
    | some o => exact absurd (Heap.lt_size (sb _ _ (sa _ _ (st _ _ q')))) (Nat.not_lt.mpr (Nat.le_succ _))) ht
theorem ev_drop {value lower : Expr} {p pos : Pos} {R : List Value → Heap → Nat → Prop} {R' : List Value → Heap → Nat → Prop} {k : Nat} (h1 : Ev w A h n (eval value env) (LV R)) (h2 : Ev w A h n (eval lower env) (IsI (k : Int))) (up : Up R) (hz : ∀ vs h' n', R vs h' n' → vs.length ≤ sizeLine) (hR : ∀ vs h' n', R vs h' n' → R' (vs.drop k) h' n') (up' : Up R')
    (ht : ∀ o r, letTemporaryGo value o r = pure ()) : Ev w A h n (eval (.Subscript value (.Slice (some lower) none none p) pos) env) (fun v h' n' => ∃ D vs, v = .ref D ∧ h'.get? D = some (lst vs 0) ∧ h.get? D = none ∧ R' vs h' n') :=
  fun s Q E st tl q => wpAny_Subscript_list_slice (h1 s _ E st tl fun o ha na sa la pa => h2 _ _ E (stays_trans st sa) (Nat.le_trans tl la) fun vu hb nb sb lb pb => by
    rw [evalPart_none]
    refine wpAny_pure ?_
    obtain ⟨D, vs, ep, rfl, g, r⟩ := pa
    obtain ⟨t, rfl⟩ := pb
    have r' := up _ _ _ _ _ r sb lb
    refine ⟨D, vs.toArray, some (k : Int), none, rfl, ⟨_, sb _ _ g, rfl, ep, rfl⟩, by rw [List.size_toArray]; exact hz _ _ _ r', .int _ _, .none, ?_⟩
    have e : slicePick vs.toArray (some (k : Int)) none none = (vs.drop k).toArray := slicePick_from' _ _
    rw [e]
    have k2 := stays_trans (push_stays hb { cls := .type "slice", data := .fields #[.int k t, .none, .none] }) (push_stays _ (lst (vs.drop k) 0))
    have g2 := Heap.get?_push_size (hb.push { cls := .type "slice", data := .fields #[.int k t, .none, .none] }) (o := lst (vs.drop k) 0) rfl
    rw [Heap.size_push] at g2
    refine q _ _ _ (stays_trans sa (stays_trans sb k2)) (Nat.le_trans la lb) ⟨_, _, rfl, g2, ?_, up' _ _ _ _ _ (hR _ _ _ r') k2 (Nat.le_refl _)⟩
    cases q' : h.get? (hb.objs.size + 1) with
    | none => rfl
    | some o => exact absurd (Heap.lt_size (sb _ _ (sa _ _ (st _ _ q')))) (Nat.not_lt.mpr (Nat.le_succ _))) ht
end

/-- lists made one by one: the j-th holds G j -/
def Rows (G : Nat → List Value → Nat → Prop) (i : Nat) (ys : List Value) (nw : List (Addr × Obj)) (tk : Nat) : Prop :=
  ys = nw.map (fun p => Value.ref p.1) ∧ nw.length = i ∧ ∀ j p, nw[j]? = some p → ∃ vs ep, p.2 = lst vs ep ∧ G j vs tk
/-- a new list -/
def NewR (h : Heap) (G : List Value → Nat → Prop) : Value → Heap → Nat → Prop := fun v h' n' => ∃ D vs ep, v = .ref D ∧ h'.get? D = some (lst vs ep) ∧ h.get? D = none ∧ G vs n'
theorem Rows.nil {G : Nat → List Value → Nat → Prop} {tk : Nat} : Rows G 0 [] [] tk := ⟨rfl, rfl, fun j p h => by simp at h⟩
theorem Rows.up {G : Nat → List Value → Nat → Prop} (up : ∀ j vs a b, G j vs a → a ≤ b → G j vs b) {i : Nat} {ys : List Value} {nw : List (Addr × Obj)} {a b : Nat} (r : Rows G i ys nw a) (l : a ≤ b) : Rows G i ys nw b :=
  ⟨r.1, r.2.1, fun j p hp => let ⟨vs, ep, e, g⟩ := r.2.2 j p hp; ⟨vs, ep, e, up _ _ _ _ g l⟩⟩
theorem Rows.snoc {G : Nat → List Value → Nat → Prop} {i : Nat} {ys : List Value} {nw : List (Addr × Obj)} {a ep : Nat} {D : Addr} {vs : List Value} (r : Rows G i ys nw a) (g : G i vs a) : Rows G (i + 1) (ys ++ [.ref D]) (nw ++ [(D, lst vs ep)]) a := by
  obtain ⟨r1, r2, r3⟩ := r
  refine ⟨by rw [r1]; simp, by simp [r2], fun j p hp => ?_⟩
  by_cases hj : j < nw.length
  · exact r3 j p (by rwa [List.getElem?_append_left hj] at hp)
  · rw [List.getElem?_append_right (by omega)] at hp
    have hj0 : j - nw.length = 0 := by
      cases e : j - nw.length with
      | zero => rfl
      | succ k => rw [e] at hp; simp at hp
    rw [hj0] at hp
    obtain rfl : (D, lst vs ep) = p := by simpa using hp
    exact ⟨vs, ep, rfl, by rw [show j = i by omega]; exact g⟩
section
variable {w : World} {A : Around} {h : Heap} {n : Nat} {env : Env}
theorem ifs0 : Ev w A h n (compIfs [] env) (Is true) := .val true (fun s Q E st tl q => wpAny_tests_nil q) (fun _ _ _ _ => rfl)
theorem ifs1 {c : Expr} {b : Bool} (h1 : Ev w A h n (isTrue c env (eval c env)) (Is b)) : Ev w A h n (compIfs [c] env) (Is b) :=
  fun s Q E st tl q => wpAny_tests_one (h1 s Q E st tl q)
/-- an element that is a new list -/
theorem row_step {G : Nat → List Value → Nat → Prop} (up : ∀ j vs a b, G j vs a → a ≤ b → G j vs b) {i : Nat} {ys : List Value} {nw : List (Addr × Obj)} {elt : Expr} (r : Rows G i ys nw n) (h1 : ∀ h' n', h.StaysIn h' → n ≤ n' → Ev w A h' n' (eval elt env) (NewR h' (G i))) :
    Ev w A h n (compIfs [] env) (fun ok h2 n2 => (ok = false → Rows G (i + 1) ys nw n2) ∧ (ok = true → Ev w A h2 n2 (eval elt env) (fun y h3 n3 =>
        ∃ add : List (Addr × Obj), (∀ p ∈ add, h3.get? p.1 = some p.2 ∧ h2.get? p.1 = none) ∧ add.Pairwise (fun a b => a.1 ≠ b.1) ∧ Rows G (i + 1) (ys ++ [y]) (nw ++ add) n3))) :=
  ifs0.post fun v h2 n2 k l e => by
    cases e
    refine ⟨(fun e => nomatch e), fun _ => (h1 h2 n2 k l).post fun y h3 n3 k' l' p => ?_⟩
    obtain ⟨D, vs, ep, rfl, g, nD, hG⟩ := p
    exact ⟨[(D, lst vs ep)], fun p hp => by rw [List.mem_singleton.mp hp]; exact ⟨g, nD⟩, List.pairwise_singleton _ _, (r.up up (Nat.le_trans l l')).snoc hG⟩
/-- an element that is a value, kept where c -/
theorem val_step {J : Nat → List Value → Nat → Prop} {i : Nat} {ys : List Value} {ifs : List Expr} {elt : Expr} {c : Bool} {P : Value → Heap → Nat → Prop} (hc : Ev w A h n (compIfs ifs env) (Is c)) (hf : c = false → ∀ n', n ≤ n' → J (i + 1) ys n') (h1 : c = true → ∀ h' n', h.StaysIn h' → n ≤ n' → Ev w A h' n' (eval elt env) P) (hj : c = true → ∀ y h' n', n ≤ n' → P y h' n' → J (i + 1) (ys ++ [y]) n') :
    Ev w A h n (compIfs ifs env) (fun ok h2 n2 => (ok = false → (J (i + 1) ys n2 ∧ ([] : List (Addr × Obj)) = [])) ∧ (ok = true → Ev w A h2 n2 (eval elt env) (fun y h3 n3 =>
        ∃ add : List (Addr × Obj), (∀ p ∈ add, h3.get? p.1 = some p.2 ∧ h2.get? p.1 = none) ∧ add.Pairwise (fun a b => a.1 ≠ b.1) ∧ (J (i + 1) (ys ++ [y]) n3 ∧ [] ++ add = [])))) :=
  hc.post fun v h2 n2 k l e => by
    cases e
    refine ⟨fun e => ⟨hf e _ l, rfl⟩, fun e => (h1 e h2 n2 k l).post fun y h3 n3 k' l' p => ⟨[], (fun _ hp => nomatch hp), .nil, hj e _ _ _ (Nat.le_trans l l') p, rfl⟩⟩
/-- a comprehension of values -/
theorem ev_compV {elt iter : Expr} {x : Str} {px pos : Pos} {ifs : List Expr} {scope : Scope} {cl : List (Str × Addr)} {k : Nat} {It : Nat → Value → Prop} {P0 : Value → Heap → Nat → Prop} (J : Nat → List Value → Nat → Prop) (P : Nat → Value → Heap → Nat → Prop) (c : Nat → Bool)
    (up : ∀ i ys a b, J i ys a → a ≤ b → J i ys b) (hk : k ≤ sizeLine) (he : Ev w A h n (eval iter env) P0) (src : ∀ v h' n', h.StaysIn h' → n ≤ n' → P0 v h' n' → Src w A v h' n' k It) (J0 : J 0 [] n)
    (test : ∀ i v C m h' n', h.StaysIn h' → n ≤ n' → i < k → It i v → h'.Ns C m → m x = some v → Ev w A h' n' (compIfs ifs (compEnvC scope cl C env)) (Is (c i)))
    (el : ∀ i v C m h' n', h.StaysIn h' → n ≤ n' → i < k → It i v → h'.Ns C m → m x = some v → c i = true → Ev w A h' n' (eval elt (compEnvC scope cl C env)) (P i))
    (jt : ∀ i ys y h' n', i < k → n ≤ n' → c i = true → J i ys n' → P i y h' n' → J (i + 1) (ys ++ [y]) n') (jf : ∀ i ys n', i < k → n ≤ n' → c i = false → J i ys n' → J (i + 1) ys n')
    (hclos : closureFor scope env = pure cl) (hcell : ∀ y ∈ scope.names, y.2 ≠ .cell) (hkind : scope.kind = .function) (hnames : ∀ y ∈ scope.names, y.2 = .local → scope.names.lookup y.1 = some .local) (hx : scope.names.lookup x = some .local) (hs : ∀ x, foldedSetIterable iter env x = pure x) :
    Ev w A h n (eval (.ListComp elt [⟨.Name x px, iter, ifs, 0⟩] scope pos) env) (NewR h (J k)) :=
  (ev_comp (fun i ys nw t => J i ys t ∧ nw = []) (fun i ys nw a b j l => ⟨up _ _ _ _ j.1 l, j.2⟩) hk he src (fun n' l => ⟨up _ _ _ _ J0 l, rfl⟩)
    (fun i v C m ys nw h' n' sk l hi hv j hn hm => by
      obtain ⟨j, rfl⟩ := j
      exact val_step (test i v C m h' n' sk l hi hv hn hm) (fun e n2 l2 => jf i ys n2 hi (Nat.le_trans l l2) e (up _ _ _ _ j l2)) (fun e h2 n2 k2 l2 => el i v C m h2 n2 (stays_trans sk k2) (Nat.le_trans l l2) hi hv (hn.keeps k2) hm e) fun e y h3 n3 l3 p => jt i ys y h3 n3 hi (Nat.le_trans l l3) e (up _ _ _ _ j l3) p) hclos hcell hkind hnames hx hs).post
    fun v h' n' _ _ ⟨D, ys, nw, ep, e, g, nD, _, _, j⟩ => ⟨D, ys, ep, e, g, nD, j.1⟩
variable {h₀ : Heap} {L : Addr} {m : Str → Option Value} {news : List (Addr × Obj)} {s : Shared} {Q : Flow → Shared → Prop} {E : Value → Shared → Prop} {rest : List Stmt}
/-- y = a comprehension of new lists -/
theorem st_asgCompR {elt iter : Expr} {x y : Str} {px py pos spos : Pos} {scope : Scope} {cl : List (Str × Addr)} {k : Nat} {It : Nat → Value → Prop} {P0 : Value → Heap → Nat → Prop} (G : Nat → List Value → Nat → Prop) (up : ∀ j vs a b, G j vs a → a ≤ b → G j vs b)
    (F : Fr h₀ L h m) (N : News h₀ L h news) (hL : env.locals = L) (hk : k ≤ sizeLine) (he : Ev w A h n (eval iter env) P0) (src : ∀ v h' n', h.StaysIn h' → n ≤ n' → P0 v h' n' → Src w A v h' n' k It)
    (el : ∀ i v C m h' n', h.StaysIn h' → n ≤ n' → i < k → It i v → h'.Ns C m → m x = some v → Ev w A h' n' (eval elt (compEnvC scope cl C env)) (NewR h' (G i)))
    (go : ∀ D nw ep h' tk, n ≤ tk → Fr h₀ L h' (upd m y (.ref D)) → News h₀ L h' ((D, lst (nw.map fun p => Value.ref p.1) ep) :: (nw ++ news)) → (∀ q ∈ news, q.1 ≠ D ∧ ∀ p ∈ nw, p.1 ≠ q.1) → (∀ p ∈ nw, p.1 ≠ D) → nw.Pairwise (fun a b => a.1 ≠ b.1) → nw.length = k → (∀ j p, nw[j]? = some p → ∃ vs ep, p.2 = lst vs ep ∧ G j vs tk) → wpAny (Mo w) A (execs rest env) Q E (put s h' tk))
    (hsw : swapsWith (.ListComp elt [⟨.Name x px, iter, [], 0⟩] scope pos) (some (.Name y py)) spos.line env = pure true)
    (hclos : closureFor scope env = pure cl) (hcell : ∀ y ∈ scope.names, y.2 ≠ .cell) (hkind : scope.kind = .function) (hnames : ∀ y ∈ scope.names, y.2 = .local → scope.names.lookup y.1 = some .local) (hx : scope.names.lookup x = some .local) (hs : ∀ x, foldedSetIterable iter env x = pure x)
    (hy : env.kindOf y = some .local) (hfk : env.scope.kind = .function) :
    wpAny (Mo w) A (execs (.Assign [.Name y py] (.ListComp elt [⟨.Name x px, iter, [], 0⟩] scope pos) spos :: rest) env) Q E (put s h n) :=
  st_asgComp (Rows G) F N hL (fun _ _ _ _ _ r l => r.up up l) hk he src (fun _ _ => Rows.nil) (fun i v C m ys nw h' n' sk l hi hv r hn hm => row_step up r fun h2 n2 k2 l2 => el i v C m h2 n2 (stays_trans sk k2) (Nat.le_trans l l2) hi hv (hn.keeps k2) hm)
    (fun D ys nw ep h' tk l F' N' a b c r => go D nw ep h' tk l F' (r.1 ▸ N') a b c r.2.1 r.2.2) hsw hclos hcell hkind hnames hx hs hy hfk
/-- y = a comprehension of values -/
theorem st_asgCompV {elt iter : Expr} {x y : Str} {px py pos spos : Pos} {scope : Scope} {cl : List (Str × Addr)} {k : Nat} {It : Nat → Value → Prop} {P0 : Value → Heap → Nat → Prop} (J : Nat → List Value → Nat → Prop) (P : Nat → Value → Heap → Nat → Prop) (up : ∀ i ys a b, J i ys a → a ≤ b → J i ys b)
    (F : Fr h₀ L h m) (N : News h₀ L h news) (hL : env.locals = L) (hk : k ≤ sizeLine) (he : Ev w A h n (eval iter env) P0) (src : ∀ v h' n', h.StaysIn h' → n ≤ n' → P0 v h' n' → Src w A v h' n' k It) (J0 : J 0 [] n)
    (el : ∀ i v C m h' n', h.StaysIn h' → n ≤ n' → i < k → It i v → h'.Ns C m → m x = some v → Ev w A h' n' (eval elt (compEnvC scope cl C env)) (P i)) (jt : ∀ i ys y h' n', i < k → n ≤ n' → J i ys n' → P i y h' n' → J (i + 1) (ys ++ [y]) n')
    (go : ∀ D ys ep h' tk, n ≤ tk → Fr h₀ L h' (upd m y (.ref D)) → News h₀ L h' ((D, lst ys ep) :: news) → (∀ q ∈ news, q.1 ≠ D) → J k ys tk → wpAny (Mo w) A (execs rest env) Q E (put s h' tk))
    (hsw : swapsWith (.ListComp elt [⟨.Name x px, iter, [], 0⟩] scope pos) (some (.Name y py)) spos.line env = pure true)
    (hclos : closureFor scope env = pure cl) (hcell : ∀ y ∈ scope.names, y.2 ≠ .cell) (hkind : scope.kind = .function) (hnames : ∀ y ∈ scope.names, y.2 = .local → scope.names.lookup y.1 = some .local) (hx : scope.names.lookup x = some .local) (hs : ∀ x, foldedSetIterable iter env x = pure x)
    (hy : env.kindOf y = some .local) (hfk : env.scope.kind = .function) :
    wpAny (Mo w) A (execs (.Assign [.Name y py] (.ListComp elt [⟨.Name x px, iter, [], 0⟩] scope pos) spos :: rest) env) Q E (put s h n) :=
  st_asgComp (fun i ys nw t => J i ys t ∧ nw = []) F N hL (fun i ys nw a b j l => ⟨up _ _ _ _ j.1 l, j.2⟩) hk he src (fun n' l => ⟨up _ _ _ _ J0 l, rfl⟩)
    (fun i v C m ys nw h' n' sk l hi hv j hn hm => by
      obtain ⟨j, rfl⟩ := j
      exact val_step ifs0 (fun e => nomatch e) (fun _ h2 n2 k2 l2 => el i v C m h2 n2 (stays_trans sk k2) (Nat.le_trans l l2) hi hv (hn.keeps k2) hm) fun _ y h3 n3 l3 p => jt i ys y h3 n3 hi (Nat.le_trans l l3) (up _ _ _ _ j l3) p)
    (fun D ys nw ep h' tk l F' N' a b c j => go D ys ep h' tk l F' (by rw [j.2] at N'; exact N') (fun q hq => (a q hq).1) j.1) hsw hclos hcell hkind hnames hx hs hy hfk
/-- an item of a tuple -/
theorem ev_itemT {value slice : Expr} {pos : Pos} {D : Addr} {vs : List Value} {P : Value → Heap → Nat → Prop} {k : Nat} {x : Value} (h1 : Ev w A h n (eval value env) (Is (.ref D))) (g : h.get? D = some (tup vs 0)) (h2 : Ev w A h n (eval slice env) (IsI (k : Int))) (hk : k < 1000)
    (hx : vs[k]? = some x) (px : P x h n) (up : Up P) (hs : ∀ o i, subscripted slice false o i = operate [o, i] (getItem o i)) : Ev w A h n (eval (.Subscript value slice pos) env) P :=
  .two (fun s Q E x => Subscript_ x) h1 h2 upIs fun a b h' n' k' l pa pb => by
    cases pa
    obtain ⟨t, rfl⟩ := pb
    intro s Q E st tl q
    have hl : IsTup s.heap D vs.toArray := ⟨_, st _ _ (k' _ _ g), rfl, 0, rfl⟩
    have h1 : k < vs.length := (List.getElem?_eq_some_iff.mp hx).1
    exact item_tupleT hl (by omega) (by omega) (j := k) (by simp [seqIndex?, h1]; omega) (by simpa using hx) (q x s.heap s.toks (stays_refl _) (Nat.le_refl _) (up _ _ _ _ _ px (stays_trans k' st) (Nat.le_trans l tl))) (hs _ _)
end

def lcp : List Str → List Str → List Str
  | x :: xs, y :: ys => if x = y then x :: lcp xs ys else []
  | _, _ => []
def lo2 (a b : List Str) : List Str := if ltL b a = true then b else a
def hi2 (a b : List Str) : List Str := if gtL b a = true then b else a
noncomputable def comX (a b : Str) : List Str := lcp (lo2 (comps a) (comps b)) (hi2 (comps a) (comps b))
noncomputable def commonF (a b : Str) : Str := (if Txt.startswith a sSl = true then sSl else Str.ofString "") ++ Txt.join sSl (comX a b)
structure SplitOk (x : Str) : Prop where
  len : x.length ≤ 1000
  parts : (Builtin.Str.partsBetween x (Builtin.Str.occurrences x sSl 0 x.length (x.length + 1)) sSl.length).length ≤ sizeLine
  num : (Txt.split x sSl).length ≤ 1001
  each : ∀ c ∈ Txt.split x sSl, c.length ≤ 1000
section
variable {w : World} {A : Around} {h : Heap} {n : Nat} {env : Env}
theorem truthyTup {T : Addr} {vs : List Value} (g : h.get? T = some (tup vs 0)) (hz : vs.length ≤ 1000) : Ev w A h n (truthy (.ref T)) (Is (!vs.isEmpty)) :=
  .of fun s Q E st tl q => truthy_tuple (items := vs.toArray) ⟨_, st _ _ g, rfl, 0, rfl⟩ (by rw [List.size_toArray]; omega) (by rw [List.isEmpty_toArray]; exact q _ _ (by omega) rfl)
theorem all1 {α : Type} {P : α → Prop} {x : α} (h : P x) : ∀ p ∈ [x], P p := fun p hp => by rw [List.mem_singleton.mp hp]; exact h
theorem allC {α : Type} {P : α → Prop} {x : α} {xs : List α} (h : P x) (h' : ∀ p ∈ xs, P p) : ∀ p ∈ x :: xs, P p := fun p hp => (List.mem_cons.mp hp).elim (fun e => e ▸ h) (h' p)
theorem all0 {α : Type} {P : α → Prop} : ∀ p ∈ ([] : List α), P p := fun _ hp => nomatch hp
theorem truthyBs {b : Bool} {v : Value} (p : v = .bool b) : Ev w A h n (truthy v) (Is b) := truthyB p
theorem common_fin {s₀ : Heap} {L : Addr} {m : Str → Option Value} {news : List (Addr × Obj)} {s : Shared} {Q : Flow → Shared → Prop} {E : Value → Shared → Prop} {n₁ : Nat} {bs : Bool} {D c : Addr} {vs : List Value} {ep k0 : Nat} {o : Obj} {vsep : Value} {xs : List Str} {p1 p2 p3 p4 p5 p6 p7 p8 p9 q1 q2 q3 q6 q7 q8 q9 : Pos}
    (W : Wd w s₀ n₁) (l : n₁ ≤ n) (F : Fr s₀ L h m) (N : News s₀ L h news) (hL : env.locals = L) (hk : env.scope.kind = .function) (hc : (c, o) ∈ news) (ho : o.data = .cell (some vsep)) (ps : IsS sSl vsep h n) (hb : m (Str.ofString "isabs") = some (.bool bs)) (hcm : m (Str.ofString "common") = some (.ref D))
    (hD : (D, lst vs ep) ∈ news) (sl : SL xs vs n) (hok : JoinOk sSl xs = true) (hz : (Txt.join sSl xs).length ≤ 100000)
    (c1 : env.cells.lookup (Str.ofString "sep") = some c) (k1 : env.kindOf (Str.ofString "sep") = some .cell) (k2 : env.kindOf (Str.ofString "isabs") = some .local) (k3 : env.kindOf (Str.ofString "common") = some .local) (k4 : env.kindOf (Str.ofString "prefix") = some .local) (hline : (q6.endLine == q8.line) = true)
    (q : ∀ v h' tk, s₀.StaysIn h' → n₁ ≤ tk → IsS ((if bs = true then sSl else Str.ofString "") ++ Txt.join sSl xs) v h' tk → Q (.ret v) (put s h' tk)) :
    wpAny (Mo w) A (execs [.Assign [.Name (Str.ofString "prefix") p1] (.IfExp (.Name (Str.ofString "isabs") p2) (.Name (Str.ofString "sep") p3) (.Subscript (.Name (Str.ofString "sep") p4) (.Slice none (some (.Constant (.int 0) k0 p5)) none p6) p7) p8) p9,
      .Return (some (.BinOp (.Name (Str.ofString "prefix") q1) .Add (.Call (.Attribute (.Name (Str.ofString "sep") q2) (Str.ofString "join") q6) [.Name (Str.ofString "common") q7] [] q8) q9)) q3] env) Q E (put s h n) := by
  have W₁ := wd_at W F l
  have sep : ∀ (h' : Heap) (n' : Nat) (pos : Pos), h.StaysIn h' → n ≤ n' → Ev w A h' n' (eval (.Name (Str.ofString "sep") pos) env) (IsS sSl) := fun h' n' pos k l => ev_cell c1 (k _ _ (N _ hc).1) ho (ufS _ _ _ _ _ ps l) upS hk k1 rfl
  refine st_asgV (P := IsS (if bs = true then sSl else Str.ofString "")) F N hL (ev_ifExp (c := bs) (ev_isPlain (P := Is (.bool bs)) (lV F hb hL hk k2 rfl) (fun v h' n' k l e => truthyBs e) rfl) (fun e => by rw [if_pos e]; exact sep _ _ _ (stays_refl _) (Nat.le_refl _))
    (fun e => by rw [if_neg (ne_true_of_eq_false e)]; exact (ev_slice W₁ (i := none) (j := some 0) (by decide) (sep _ _ _ (stays_refl _) (Nat.le_refl _)) ev_part0 (ev_part1 ev_int) (fun _ _ => rfl)))) ufS ?_ rfl k4 hk
  intro v₁ h₁ n₁' l₁ p₁ F₁ N₁
  have W₂ := wd_at W F₁ (Nat.le_trans l l₁)
  have hz' : (if bs = true then sSl else Str.ofString "").length ≤ 1 := by cases bs <;> decide
  refine st_ret (ev_addS W₂ (lS F₁ p₁ rfl hL hk k4 rfl) (ev_joinL (D := D) W₂ (ev_cell c1 (N₁ _ hc).1 ho (ufS _ _ _ _ _ ps l₁) upS hk k1 rfl) ((lV F₁ ((by rfl : upd m (Str.ofString "prefix") v₁ (Str.ofString "common") = m (Str.ofString "common")).trans hcm) hL hk k3 rfl).post fun v h' n' k l' e => by cases e; exact ⟨vs, ep, rfl, k _ _ (N₁ _ hD).1, sl.up (Nat.le_trans l₁ l')⟩) hok rfl rfl hline) (by rw [sizeLine_eq]; omega)) fun v h' tk st' tl' pv => q v h' tk (stays_trans F₁.keep st') (Nat.le_trans (Nat.le_trans l l₁) tl') pv
theorem both_of {P : Str → Prop} {a b : Str} (ha : P a) (hb : P b) : ∀ (i : Nat) (x : Str), [a, b][i]? = some x → P x := fun i x e => by
  rcases List.mem_cons.mp (List.mem_of_getElem? e) with e | e
  · rw [e]; exact ha
  · rw [List.mem_singleton.mp e]; exact hb
theorem filt_take {f : Str → Bool} {xs : List Str} {i : Nat} {x : Str} (e : xs[i]? = some x) : (xs.take (i + 1)).filter f = (xs.take i).filter f ++ (if f x = true then [x] else []) := by
  obtain ⟨hi, rfl⟩ := List.getElem?_eq_some_iff.mp e
  rw [List.take_succ_eq_append_getElem hi, List.filter_append]
  by_cases c : f xs[i] = true
  · rw [if_pos c, List.filter_cons_of_pos c]; rfl
  · rw [if_neg c, List.filter_cons_of_neg c]; rfl
theorem comps_ev {x : Str} {D L₂ : Addr} {ws : List Value} {ep i : Nat} {o : Obj} {vcur : Value} {px pos : Pos} {scope : Scope} {name : Str} {a b : Str} {p1 p2 p3 p4 p5 p6 p7 : Pos} (W : Wd w h n) (hh : A.handled = none) (ok : SplitOk x) (g : h.get? D = some (lst ws ep)) (r : SL (Txt.split x sSl) ws n)
    (he : Ev w A h n (eval (.Name name p1) env) (Is (.ref D))) (hc : h.get? L₂ = some o) (ho : o.data = .cell (some vcur)) (pc : IsS sDot vcur h n) (hx : [a, b][i]? = some x)
    (hclos : closureFor scope env = pure [(Str.ofString "curdir", L₂)]) (hcell : ∀ y ∈ scope.names, y.2 ≠ .cell) (hkind : scope.kind = .function) (hnames : ∀ y ∈ scope.names, y.2 = .local → scope.names.lookup y.1 = some .local) (hxn : scope.names.lookup (Str.ofString "c") = some .local) (el : ∀ C, (compEnvC scope [(Str.ofString "curdir", L₂)] C env).kindOf (Str.ofString "c") = some .local) (ec : ∀ C, (compEnvC scope [(Str.ofString "curdir", L₂)] C env).kindOf (Str.ofString "curdir") = some .cell) :
    Ev w A h n (eval (.ListComp (.Name (Str.ofString "c") p2) [⟨.Name (Str.ofString "c") px, .Name name p1, [.BoolOp .And [.Name (Str.ofString "c") p3, .Compare (.Name (Str.ofString "c") p4) [.NotEq] [.Name (Str.ofString "curdir") p5] p6] p7], 0⟩] scope pos) env) (NewR h (fun vs tk => ∃ x, [a, b][i]? = some x ∧ SL (comps x) vs tk)) := by
  have r2 := r.len
  refine (ev_compV (cl := [(Str.ofString "curdir", L₂)]) (k := ws.length) (It := fun i v => ws[i]? = some v) (fun i ys t => SL (((Txt.split x sSl).take i).filter fun c => (c.length != 0) && (c != sDot)) ys t) (fun i v h n => ∃ y, (Txt.split x sSl)[i]? = some y ∧ IsS y v h n)
    (fun i => let c := (Txt.split x sSl).getD i (Str.ofString ""); (c.length != 0) && (c != sDot)) (fun i ys t u j l => j.up l) (by rw [r2, sizeLine_eq]; have := ok.num; omega) he (fun v h' n' k l e => by cases e; exact src_list hh (k _ _ g)) SL.nil ?_ ?_ ?_ ?_ hclos hcell hkind hnames hxn (fun _ => rfl)).post
      fun v h' n' _ _ ⟨D, vs, ep, e, g, nn, j⟩ => ⟨D, vs, ep, e, g, nn, x, hx, by rw [r2, List.take_length] at j; exact j⟩
  · intro i v C m h' n' k l hi hv hn hm
    obtain ⟨y, hy, py⟩ := (r.up l).item h' hv
    have e : (Txt.split x sSl).getD i (Str.ofString "") = y := by rw [List.getD_eq_getElem?_getD, hy]; rfl
    dsimp only
    rw [e]
    have hz := ok.each y (List.mem_of_getElem? hy)
    exact ifs1 (ev_isAnd (ev_isS (ev_local hn hm py upS hkind (el C) rfl) (by rw [sizeLine_eq]; omega) rfl) fun _ => ev_isCmp (ev_local hn hm py upS hkind (el C) rfl) (ev_cell (c := L₂) rfl (k _ _ hc) ho (ufS _ _ _ _ _ pc l) upS hkind (ec C) rfl) upS (fun a b h' n' _ _ pa pb => cmp_neS pa pb) rfl)
  · intro i v C m h' n' k l hi hv hn hm _
    obtain ⟨y, hy, py⟩ := (r.up l).item h' hv
    exact (ev_local hn hm py upS hkind (el C) rfl).post fun v h' n' _ _ p => ⟨y, hy, p⟩
  · rintro i ys v h' n' hi l hc j ⟨y, hy, p⟩
    have e : (Txt.split x sSl).getD i (Str.ofString "") = y := by rw [List.getD_eq_getElem?_getD, hy]; rfl
    dsimp only at hc
    rw [e] at hc
    rw [filt_take hy, if_pos hc]
    exact j.snoc p
  · intro i ys n' hi l hc j
    have hy : (Txt.split x sSl)[i]? = some ((Txt.split x sSl).getD i (Str.ofString "")) := getD_some (by rw [← r2]; exact hi)
    rw [filt_take hy, if_neg (ne_true_of_eq_false hc), List.append_nil]
    exact j
theorem two_rows {G : Nat → List Value → Nat → Prop} {nw : List (Addr × Obj)} {tk : Nat} (h2 : nw.length = 2) (g : ∀ j p, nw[j]? = some p → ∃ vs ep, p.2 = lst vs ep ∧ G j vs tk) :
    ∃ A₁ u₁ e₁ A₂ u₂ e₂, nw = [(A₁, lst u₁ e₁), (A₂, lst u₂ e₂)] ∧ G 0 u₁ tk ∧ G 1 u₂ tk := by
  rcases nw with _ | ⟨⟨A₁, x₁⟩, _ | ⟨⟨A₂, x₂⟩, _ | ⟨z, r⟩⟩⟩
  · exact absurd h2 (by simp)
  · exact absurd h2 (by simp)
  rotate_left
  · exact absurd h2 (by simp)
  obtain ⟨u₁, e₁, q₁, g₁⟩ := g 0 (A₁, x₁) rfl
  obtain ⟨u₂, e₂, q₂, g₂⟩ := g 1 (A₂, x₂) rfl
  exact ⟨A₁, u₁, e₁, A₂, u₂, e₂, by rw [← q₁, ← q₂], g₁, g₂⟩
theorem first_of {P : Str → Prop} {a b : Str} (h : ∃ x, [a, b][0]? = some x ∧ P x) : P a := by obtain ⟨x, e, p⟩ := h; cases e; exact p
theorem second_of {P : Str → Prop} {a b : Str} (h : ∃ x, [a, b][1]? = some x ∧ P x) : P b := by obtain ⟨x, e, p⟩ := h; cases e; exact p
theorem min2_ev {D A₁ A₂ : Addr} {u₁ u₂ : List Value} {e e₁ e₂ k t : Nat} {xs ys : List Str} (hh : A.handled = none) (hu : A.units + 20 * k < 9000) (g : h.get? D = some (lst [.ref A₁, .ref A₂] e)) (g1 : h.get? A₁ = some (lst u₁ e₁)) (g2 : h.get? A₂ = some (lst u₂ e₂)) (r1 : SL xs u₁ t) (r2 : SL ys u₂ t) :
    Ev w A h n (call (.builtin "min") [.ref D]) (Is (.ref (if ltL ys xs = true then A₂ else A₁))) := fun s Q E st tl q => by
  obtain ⟨lx, rfl, rfl, _⟩ := r1
  obtain ⟨ly, rfl, rfl, _⟩ := r2
  refine wpAny_mono (wpAny_toks_of (n := s.toks) (Nat.le_refl _) (call_min2 (Q := fun v s' => ∃ h' tk, s' = put s h' tk ∧ s.heap.StaysIn h' ∧ v = .ref (if ltL (ly.map (·.1)) (lx.map (·.1)) = true then A₂ else A₁)) hh (st _ _ g) (fun s' Q E k q => cmp_listLt (by show A.units + 1 < 9900; omega) (k _ _ (st _ _ g2)) (k _ _ (st _ _ g1)) q) fun h' tk k => ⟨h', tk, rfl, k, by split <;> rfl⟩)) (fun v s' p => ?_) fun _ _ x => x.2
  obtain ⟨l, h', tk, rfl, k, rfl⟩ := p
  exact q _ h' tk k l rfl
theorem max2_ev {D A₁ A₂ : Addr} {u₁ u₂ : List Value} {e e₁ e₂ k t : Nat} {xs ys : List Str} (hh : A.handled = none) (hu : A.units + 20 * k < 9000) (g : h.get? D = some (lst [.ref A₁, .ref A₂] e)) (g1 : h.get? A₁ = some (lst u₁ e₁)) (g2 : h.get? A₂ = some (lst u₂ e₂)) (r1 : SL xs u₁ t) (r2 : SL ys u₂ t) :
    Ev w A h n (call (.builtin "max") [.ref D]) (Is (.ref (if gtL ys xs = true then A₂ else A₁))) := fun s Q E st tl q => by
  obtain ⟨lx, rfl, rfl, _⟩ := r1
  obtain ⟨ly, rfl, rfl, _⟩ := r2
  refine wpAny_mono (wpAny_toks_of (n := s.toks) (Nat.le_refl _) (call_max2 (Q := fun v s' => ∃ h' tk, s' = put s h' tk ∧ s.heap.StaysIn h' ∧ v = .ref (if gtL (ly.map (·.1)) (lx.map (·.1)) = true then A₂ else A₁)) hh (st _ _ g) (fun s' Q E k q => cmp_listGt (by show A.units + 1 < 9900; omega) (k _ _ (st _ _ g2)) (k _ _ (st _ _ g1)) q) fun h' tk k => ⟨h', tk, rfl, k, by split <;> rfl⟩)) (fun v s' p => ?_) fun _ _ x => x.2
  obtain ⟨l, h', tk, rfl, k, rfl⟩ := p
  exact q _ h' tk k l rfl
theorem SL.take {xs : List Str} {vs : List Value} {n : Nat} (k : Nat) (a : SL xs vs n) : SL (xs.take k) (vs.take k) n := by
  obtain ⟨l, rfl, rfl, g⟩ := a
  exact ⟨l.take k, by simp [strValues], by simp, fun p hp => g p (List.mem_of_mem_take hp)⟩
theorem lcp_all : ∀ (xs ys : List Str), xs.take xs.length = ys.take xs.length → lcp xs ys = xs
  | [], _, _ => by unfold lcp; rfl
  | x :: xs, [], h => by simp at h
  | x :: xs, y :: ys, h => by
    simp only [List.length_cons, List.take_succ_cons, List.cons.injEq] at h
    rw [lcp, if_pos h.1, lcp_all xs ys h.2]
theorem lcp_take : ∀ (i : Nat) (xs ys : List Str) {x y : Str}, xs.take i = ys.take i → xs[i]? = some x → ys[i]? = some y → x ≠ y → lcp xs ys = xs.take i
  | 0, x' :: xs, y' :: ys, x, y, _, e1, e2, ne => by
    obtain rfl : x' = x := by simpa using e1
    obtain rfl : y' = y := by simpa using e2
    rw [lcp, if_neg ne]; rfl
  | i + 1, x' :: xs, y' :: ys, x, y, h, e1, e2, ne => by
    simp only [List.take_succ_cons, List.cons.injEq] at h
    rw [lcp, if_pos h.1, lcp_take i xs ys h.2 (by simpa using e1) (by simpa using e2) ne]; rfl
  | _, [], _, _, _, _, e1, _, _ => by simp at e1
  | _, _ :: _, [], _, _, _, _, e2, _ => by simp at e2
theorem take_next {i : Nat} {xs ys : List Str} {x : Str} (h : xs.take i = ys.take i) (e1 : xs[i]? = some x) (e2 : ys[i]? = some x) : xs.take (i + 1) = ys.take (i + 1) := by
  rw [List.take_succ, List.take_succ, h, e1, e2]
theorem comps_len {x : Str} (h : SplitOk x) : (comps x).length ≤ sizeLine := by
  rw [sizeLine_eq]; have := h.num; have := List.length_filter_le (fun c : Str => (c.length != 0) && (c != sDot)) (Txt.split x sSl); unfold comps; omega
theorem lo_len {a b : Str} (ha : SplitOk a) (hb : SplitOk b) : (lo2 (comps a) (comps b)).length ≤ sizeLine := by
  unfold lo2; split
  · exact comps_len hb
  · exact comps_len ha
theorem d_common : IsDef w "commonpath" 141 := ⟨by with_unfolding_all rfl, by with_unfolding_all rfl⟩
set_option maxHeartbeats 2000000 in
theorem common_ev {a b : Str} {v : Value} (W : Wd w h n) (r : Rm 3 A) (pv : LV (SLR [a, b]) v h n) (ha : SplitOk a) (hb : SplitOk b) (hs : Txt.startswith b sSl = Txt.startswith a sSl)
    (hpre : ∀ i, i < (lo2 (comps a) (comps b)).length → (lo2 (comps a) (comps b)).take i = (hi2 (comps a) (comps b)).take i → i < (hi2 (comps a) (comps b)).length)
    (hok : JoinOk sSl (comX a b) = true) (hz : (Txt.join sSl (comX a b)).length ≤ 100000) : Ev w A h n (call (.ref 141) [v]) (IsS (commonF a b)) := by
  refine' ev_defC (binds := [(Str.ofString "paths", v)]) W ?ho ?hc r ?hb ?hkind ?hnd ?_ ?c2 ?c3 ?c4
  case ho => with_unfolding_all rfl
  case hc => with_unfolding_all rfl
  case hb => with_unfolding_all rfl
  case hkind => intro n x hx; rw [List.mem_singleton.mp hx]; exact .inl rfl
  case hnd => decide
  case c2 => exact rfl
  case c3 => exact rfl
  case c4 => exact rfl
  intro A' L s₀ s h₀ n₀ Qf Ef cells r' st tl W' F N Y q
  obtain ⟨o1, o2, rfl, d1, d2⟩ := CellsAre.two (n := Str.ofString "curdir") (c := L + 2) (n' := Str.ofString "sep") (c' := L + 1) Y
  have W₁ := wd_at W' F (Nat.le_refl _)
  have pv₁ : LV (SLR [a, b]) v h₀ n₀ := upLV upSLR _ _ _ _ _ pv (stays_trans st F.keep) tl
  refine st_asgN (o := fun _ => default) F N rfl (ev_tupleMap W₁ (r'.le (by decide)) (ev_local F.ns rfl pv₁ (upLV upSLR) rfl rfl (by decide)) (by exact (by decide : 2 ≤ sizeLine)) (ev_bi W₁ boot_tuple) (ev_bi W₁ boot_map) (ev_global W₁ d_fspath.ns rfl rfl rfl (by decide)) rfl rfl rfl) ?_ rfl rfl rfl
  rintro _ h₁ h₁' n₁ st₁ l₁ ⟨T, vs, rfl, gT, nT, sl⟩ kp₁ F₁ N₁ nw₁
  obtain ⟨N₁, ne₁⟩ := nw₁ T _ gT nT
  have W₂ := wd_at W' F₁ (Nat.le_succ_of_le l₁)
  replace sl : SL [a, b] vs (n₁ + 1) := sl.up (Nat.le_succ _)
  have vl := sl.len
  refine st_if (c := !(!vs.isEmpty)) F₁ N₁ rfl (ev_isNot (ev_isPlain (P := Is (.ref T)) (lV F₁) (fun v h' n' k l e => by cases e; exact truthyTup (k _ _ (N₁ _ (.head _)).1) (by rw [vl]; exact (by decide : 2 ≤ 1000))) rfl)) (fun e => by cases vs with | nil => exact absurd vl.symm (Nat.succ_ne_zero _) | cons x r => exact absurd e (by simp)) ?_
  intro _ h₂ n₂ l₂ F₂ N₂
  refine st_nil ?_
  have W₃ := wd_at W' F₂ (Nat.le_trans (Nat.le_succ_of_le l₁) l₂)
  replace sl := sl.up l₂
  obtain ⟨va, hva, pa⟩ := sl.get h₂ (i := 0) rfl
  refine st_if (c := false) F₂ N₂ rfl (ev_isB (ev_notBytes W₃ (ev_itemT (k := 0) (lV F₂) (N₂ _ (.head _)).1 ev_int (by decide) hva pa upS (fun _ _ => rfl)) (ev_bi W₃ boot_bytes) (ev_bi W₃ boot_isinstance) rfl) rfl) (fun e => (nomatch e)) ?_
  intro _ h₃ n₃ l₃ F₃ N₃
  replace sl := sl.up l₃
  have l₃' : n₀ ≤ n₃ := Nat.le_trans (Nat.le_trans (Nat.le_succ_of_le l₁) l₂) l₃
  refine st_asgC (own := [(T, tup vs 0), (L + 2, o1)]) (after := []) F₃ N₃ rfl rfl d2 (allC (fun c => ne₁ _ (.tail _ (.head _)) c.symm) (all1 (Nat.succ_ne_self (L + 1)))) all0 (ev_str (wd_at W' F₃ l₃')) ?_ rfl rfl rfl
  intro vsep h₄ h₄' n₄ o₂' l₄ st₄ ps kp₄ F₄ N₄ d2'
  replace sl := sl.up l₄
  replace ps : IsS sSl vsep h₄' n₄ := ps
  have l₄' := Nat.le_trans l₃' l₄
  refine st_asgC (own := [(T, tup vs 0)]) (after := [(L + 1, o₂')]) F₄ N₄ rfl rfl d1 (all1 fun c => ne₁ _ (.head _) c.symm) (all1 (Nat.succ_ne_self (L + 1)).symm) (ev_str (wd_at W' F₄ l₄')) ?_ rfl rfl rfl
  intro vcur h₅ h₅' n₅ o₁' l₅ st₅ pc kp₅ F₅ N₅ d1'
  replace sl := sl.up l₅
  have l₅' := Nat.le_trans l₄' l₅
  replace ps : IsS sSl vsep h₅' n₅ := ufS _ _ h₅' _ _ ps l₅
  replace pc : IsS sDot vcur h₅' n₅ := pc
  refine st_nil ?_
  refine st_try fun E' => ?_
  have both : ∀ (i : Nat) (x : Str), [a, b][i]? = some x → SplitOk x := both_of ha hb
  have hh := r'.hh
  have W₅ := wd_at W' F₅ l₅'
  have k2 : vs.length ≤ sizeLine := by rw [vl]; exact (by decide : 2 ≤ sizeLine)
  refine st_asgCompR (cl := [(Str.ofString "sep", L + 1)]) (k := vs.length) (It := fun i v => vs[i]? = some v) (P0 := Is (.ref T)) (fun i ws tk => ∃ x, [a, b][i]? = some x ∧ SL (Txt.split x sSl) ws tk) (fun j ws t u g l => let ⟨x, e, g⟩ := g; ⟨x, e, g.up l⟩) F₅ N₅ rfl k2 (lV F₅)
    (fun v h' n' k l e => by cases e; exact src_tuple hh (k _ _ (N₅ _ (.head _)).1)) (fun i v C m' h' n' k l hi hv hn hm => by
      obtain ⟨x, hx, px⟩ := (sl.up l).item h' hv
      have ok := both i x hx
      exact (ev_split (x := x) (y := sSl) (W₅.keeps k l) (ev_local hn hm px upS rfl rfl rfl) (ev_cell (c := L + 1) rfl (k _ _ (N₅ _ (.tail _ (.tail _ (.head _)))).1) d2' (ufS _ _ _ _ _ ps l) upS rfl rfl rfl) (by decide) (by rw [sizeLine_eq]; have := ok.len; omega) ok.parts rfl rfl rfl).post
        fun v h'' n'' _ _ ⟨D, ws, e, g, nn, r⟩ => ⟨D, ws, 0, e, g, nn, x, hx, r⟩) ?_ rfl rfl (fun y hy => by revert y; decide) rfl (fun y hy => by revert y; decide) rfl (fun _ => rfl) rfl rfl
  intro D₁ nw₁ ep₁ h₆ n₆ l₆ F₆ N₆ x1 x2 x3 x4 G₁
  have l₆' := Nat.le_trans l₅' l₆
  replace sl := sl.up l₆
  replace ps : IsS sSl vsep h₆ n₆ := ufS _ _ h₆ _ _ ps l₆
  replace pc : IsS sDot vcur h₆ n₆ := ufS _ _ h₆ _ _ pc l₆
  have W₆ := wd_at W' F₆ l₆'
  have hT₆ := (N₆ _ (.tail _ (List.mem_append_right _ (.head _)))).1
  have hc₆ := (N₆ _ (.tail _ (List.mem_append_right _ (.tail _ (.head _))))).1
  have hs₆ := (N₆ _ (.tail _ (List.mem_append_right _ (.tail _ (.tail _ (.head _)))))).1
  refine st_try fun E'' => ?_
  refine st_asgSet1 (b := Txt.startswith a sSl) F₆ N₆ rfl hh (ev_setComp (cl := [(Str.ofString "sep", L + 1)]) (k := vs.length) (It := fun i v => vs[i]? = some v) (P0 := Is (.ref T)) (by rw [vl]; exact (by decide : 0 < 2)) (lV F₆)
    (fun v h' n' k l e => by cases e; exact src_tuple hh (k _ _ hT₆)) (fun i v C m' h' n' k l hi hv hn hm => by
      obtain ⟨x, hx, px⟩ := (sl.up l).item h' hv
      have ok : Txt.startswith x sSl = Txt.startswith a sSl := both_of (P := fun x => Txt.startswith x sSl = Txt.startswith a sSl) rfl hs i x hx
      rw [← ok]
      exact (ev_startswith (ev_local hn hm px upS rfl rfl rfl) (ev_cell (c := L + 1) rfl (k _ _ hs₆) d2' (ufS _ _ _ _ _ ps l) upS rfl rfl rfl) rfl rfl rfl)) rfl (fun y hy => by revert y; decide) rfl (fun y hy => by revert y; decide) rfl (fun _ => rfl)) ?_ rfl rfl rfl rfl
  intro h₇ n₇ l₇ F₇ N₇
  refine st_nil ?_
  have l₇' := Nat.le_trans l₆' l₇
  replace sl := sl.up l₇
  replace ps : IsS sSl vsep h₇ n₇ := ufS _ _ h₇ _ _ ps l₇
  replace pc : IsS sDot vcur h₇ n₇ := ufS _ _ h₇ _ _ pc l₇
  have W₇ := wd_at W' F₇ l₇'
  have e₁ : (nw₁.map fun p => Value.ref p.1).length = vs.length := by rw [List.length_map]; exact x4
  have hD₇ := (N₇ _ (.head _)).1
  have hc₇ := (N₇ _ (.tail _ (List.mem_append_right _ (.tail _ (.head _))))).1
  refine st_asgCompR (cl := [(Str.ofString "curdir", L + 2)]) (k := vs.length) (It := fun i v => (nw₁.map fun p => Value.ref p.1)[i]? = some v) (P0 := Is (.ref D₁)) (fun i ws tk => ∃ x, [a, b][i]? = some x ∧ SL (comps x) ws tk) (fun j ws t u g l => let ⟨x, e, g⟩ := g; ⟨x, e, g.up l⟩) F₇ N₇ rfl k2 (lV F₇)
    (fun v h' n' k l e => by cases e; rw [← e₁]; exact src_list hh (k _ _ hD₇)) (fun i v C m' h' n' k l hi hv hn hm => by
      obtain ⟨p, hp, rfl⟩ : ∃ p, nw₁[i]? = some p ∧ Value.ref p.1 = v := by simpa using hv
      obtain ⟨ws, ep, e2, x, hx, r⟩ := G₁ i p hp
      have g := (N₇ p (.tail _ (List.mem_append_left _ (List.mem_of_getElem? hp)))).1
      rw [e2] at g
      exact comps_ev (W₇.keeps k l) hh (both i x hx) (k _ _ g) (r.up (Nat.le_trans l₇ l)) (ev_local hn hm rfl upIs rfl rfl rfl) (k _ _ hc₇) d1' (ufS _ _ _ _ _ pc l) hx rfl (fun y hy => by revert y; decide) rfl (fun y hy => by revert y; decide) rfl (fun _ => rfl) (fun _ => rfl)) ?_ rfl rfl (fun y hy => by revert y; decide) rfl (fun y hy => by revert y; decide) rfl (fun _ => rfl) rfl rfl
  intro D₂ nw₂ ep₂ h₈ n₈ l₈ F₈ N₈ y1 y2 y3 y4 G₂
  have l₈' := Nat.le_trans l₇' l₈
  replace ps : IsS sSl vsep h₈ n₈ := ufS _ _ h₈ _ _ ps l₈
  obtain ⟨A₁, u₁, e₁, A₂, u₂, e₂, rfl, g₁, g₂⟩ := two_rows (G := fun j vs tk => ∃ x, [a, b][j]? = some x ∧ SL (comps x) vs tk) (by rw [y4, vl]; rfl) G₂
  replace g₁ := first_of (P := fun x => SL (comps x) u₁ n₈) g₁
  replace g₂ := second_of (P := fun x => SL (comps x) u₂ n₈) g₂
  have hD₈ := (N₈ _ (.head _)).1
  have hA₁ := (N₈ _ (.tail _ (.head _))).1
  have hA₂ := (N₈ _ (.tail _ (.tail _ (.head _)))).1
  have hsep := List.mem_cons_of_mem (D₂, lst ([(A₁, lst u₁ e₁), (A₂, lst u₂ e₂)].map fun p => Value.ref p.1) ep₂) (List.mem_append_right [(A₁, lst u₁ e₁), (A₂, lst u₂ e₂)] (List.mem_cons_of_mem (D₁, lst (nw₁.map fun p => Value.ref p.1) ep₁) (List.mem_append_right nw₁ (List.mem_cons_of_mem (T, tup vs 0) (List.mem_cons_of_mem (L + 2, o₁') (List.mem_singleton_self (L + 1, o₂')))))))
  have W₈ := wd_at W' F₈ l₈'
  refine st_asgV (P := Is (.ref (if ltL (comps b) (comps a) = true then A₂ else A₁))) F₈ N₈ rfl (ev_callB1 (P₁ := Is (.ref D₂)) (ev_bi W₈ boot_min) (lV F₈) (fun v h' n' k l e => by
    cases e
    exact min2_ev hh r'.un (k _ _ hD₈) (k _ _ hA₁) (k _ _ hA₂) g₁ g₂) rfl) ufIs ?_ rfl rfl rfl
  rintro v₉ h₉ n₉ l₉ e9 F₉ N₉
  cases e9
  have l₉' := Nat.le_trans l₈' l₉
  have W₉ := wd_at W' F₉ l₉'
  refine st_asgV (P := Is (.ref (if gtL (comps b) (comps a) = true then A₂ else A₁))) F₉ N₉ rfl (ev_callB1 (P₁ := Is (.ref D₂)) (ev_bi W₉ boot_max) (lV F₉) (fun v h' n' k l e => by
    cases e
    exact max2_ev hh r'.un (k _ _ (N₉ _ (.head _)).1) (k _ _ (N₉ _ (.tail _ (.head _))).1) (k _ _ (N₉ _ (.tail _ (.tail _ (.head _)))).1) g₁ g₂) rfl) ufIs ?_ rfl rfl rfl
  rintro v₁₀ h₁₀ n₁₀ l₁₀ e10 F₁₀ N₁₀
  cases e10
  have l₁₀' := Nat.le_trans l₉' l₁₀
  obtain ⟨u, ep, hX, rX⟩ : ∃ u ep, ((if ltL (comps b) (comps a) = true then A₂ else A₁), lst u ep) ∈ [(A₁, lst u₁ e₁), (A₂, lst u₂ e₂)] ∧ SL (lo2 (comps a) (comps b)) u n₁₀ := by
    unfold lo2
    split
    · exact ⟨_, _, .tail _ (.head _), g₂.up (Nat.le_trans l₉ l₁₀)⟩
    · exact ⟨_, _, .head _, g₁.up (Nat.le_trans l₉ l₁₀)⟩
  obtain ⟨u', ep', hY, rY⟩ : ∃ u ep, ((if gtL (comps b) (comps a) = true then A₂ else A₁), lst u ep) ∈ [(A₁, lst u₁ e₁), (A₂, lst u₂ e₂)] ∧ SL (hi2 (comps a) (comps b)) u n₁₀ := by
    unfold hi2
    split
    · exact ⟨_, _, .tail _ (.head _), g₂.up (Nat.le_trans l₉ l₁₀)⟩
    · exact ⟨_, _, .head _, g₁.up (Nat.le_trans l₉ l₁₀)⟩
  generalize (if ltL (comps b) (comps a) = true then A₂ else A₁) = X at F₁₀ hX
  generalize (if gtL (comps b) (comps a) = true then A₂ else A₁) = Y at F₁₀ hY
  replace ps : IsS sSl vsep h₁₀ n₁₀ := ufS _ _ h₁₀ _ _ ps (Nat.le_trans l₉ l₁₀)
  replace hX := List.mem_cons_of_mem (D₂, lst ([(A₁, lst u₁ e₁), (A₂, lst u₂ e₂)].map fun p => Value.ref p.1) ep₂) (List.mem_append_left ((D₁, lst (nw₁.map fun p => Value.ref p.1) ep₁) :: (nw₁ ++ [(T, tup vs 0), (L + 2, o₁'), (L + 1, o₂')])) hX)
  replace hY := List.mem_cons_of_mem (D₂, lst ([(A₁, lst u₁ e₁), (A₂, lst u₂ e₂)].map fun p => Value.ref p.1) ep₂) (List.mem_append_left ((D₁, lst (nw₁.map fun p => Value.ref p.1) ep₁) :: (nw₁ ++ [(T, tup vs 0), (L + 2, o₁'), (L + 1, o₂')])) hY)
  dsimp only [List.cons_append, List.nil_append] at N₁₀ hX hY hsep
  generalize ((D₂, lst ([(A₁, lst u₁ e₁), (A₂, lst u₂ e₂)].map fun p => Value.ref p.1) ep₂) :: (A₁, lst u₁ e₁) :: (A₂, lst u₂ e₂) :: (D₁, lst (nw₁.map fun p => Value.ref p.1) ep₁) :: (nw₁ ++ [(T, tup vs 0), (L + 2, o₁'), (L + 1, o₂')]) : List (Addr × Obj)) = news at N₁₀ hX hY hsep
  refine st_asgV (P := Is (.ref X)) F₁₀ N₁₀ rfl (lV F₁₀) ufIs ?_ rfl rfl rfl
  rintro _ h₁₁ n₁₁ l₁₁ e11 F₁₁ N₁₁
  cases e11
  have l₁₁' := Nat.le_trans l₁₀' l₁₁
  replace rX := rX.up l₁₁
  replace rY := rY.up l₁₁
  replace ps : IsS sSl vsep h₁₁ n₁₁ := ufS _ _ h₁₁ _ _ ps l₁₁
  have W₁₁ := wd_at W' F₁₁ l₁₁'
  have lX : u.length ≤ sizeLine := by rw [rX.len]; exact lo_len ha hb
  refine st_forEnum (D := X) (vs := u) (ep := ep) (fun i m₁ => (m₁ (Str.ofString "s1") = some (.ref X) ∧ m₁ (Str.ofString "s2") = some (.ref Y) ∧ m₁ (Str.ofString "common") = some (.ref X) ∧ m₁ (Str.ofString "isabs") = some (.bool (Txt.startswith a sSl))) ∧ (lo2 (comps a) (comps b)).take i = (hi2 (comps a) (comps b)).take i)
    F₁₁ N₁₁ rfl hh hX (ev_bi W₁₁ boot_enumerate) (lV F₁₁) ⟨⟨rfl, rfl, rfl, rfl⟩, rfl⟩ ?_ ?_ rfl rfl rfl rfl (fun _ => rfl)
  · rintro own i v t m₁ hp na la hv ⟨⟨m1, m2, m3, m4⟩, ht⟩ Fa Na
    have la' := Nat.le_trans l₁₁' la
    have Wa := wd_at W' Fa la'
    obtain ⟨x, hx, px⟩ := (rX.up la).item hp hv
    have hi := (List.getElem?_eq_some_iff.mp hx).1
    have hy := getD_some (hpre i hi ht)
    generalize (hi2 (comps a) (comps b)).getD i (Str.ofString "") = y at hy
    have hi1 : (i : Int) < 2 ^ 63 := by have := lo_len ha hb; rw [sizeLine_eq] at this; omega
    refine st_if (c := x != y) Fa Na rfl (ev_isCmp (lS Fa px) (ev_itemS (xs := hi2 (comps a) (comps b)) ((lV Fa (Eq.trans (by rfl) m2)).post fun v h' n' k l e => by cases e; exact ⟨Y, u', ep', rfl, k _ _ (Na (Y, lst u' ep') (List.mem_append_left _ hY)).1, rY.up (Nat.le_trans la l)⟩) (lI Fa (i := (i : Int)) ⟨t, rfl⟩) (by omega) hi1 (by simpa using hy) (fun _ _ => rfl)) upS (fun a b h' n' _ _ pa pb => cmp_neS pa pb) rfl) ?_ ?_
    · intro e hq nb lb Fb Nb
      have lb' := Nat.le_trans la lb
      have ne : x ≠ y := by simpa using e
      refine st_asgN (o := fun _ => default) Fb Nb rfl (ev_take (R := SLR (lo2 (comps a) (comps b))) (R' := SLR ((lo2 (comps a) (comps b)).take i)) (k := i) ((lV Fb (Eq.trans (by rfl) m1)).post fun v h' n' k l e => by cases e; exact ⟨X, u, ep, rfl, k _ _ (Nb (X, lst u ep) (List.mem_append_left _ hX)).1, rX.up (Nat.le_trans lb' l)⟩) (lI Fb (i := (i : Int)) ⟨t, rfl⟩) upSLR
        (fun vs h' n' r => by rw [r.len]; exact lo_len ha hb) (fun vs h' n' r => SL.take i r) upSLR (fun _ _ => rfl)) ?_ rfl rfl rfl
      rintro _ h₁ hc nc st₁ lc ⟨D, us, rfl, gD, nD, rD⟩ kp Fc Nc nw
      obtain ⟨Nc, -⟩ := nw D _ gD nD
      refine st_brk ?_
      have lc' := Nat.le_trans lb' (Nat.le_succ_of_le lc)
      exact common_fin (c := L + 1) (o := o₂') W' (Nat.le_trans l₁₁' lc') Fc Nc rfl rfl (List.mem_cons_of_mem _ (List.mem_append_left _ hsep)) d2' (ufS _ _ _ _ _ ps lc') (Eq.trans (by rfl) m4) rfl (.head _) (by rw [← lcp_take i _ _ ht hx hy ne] at rD; exact rD.up (Nat.le_succ _)) hok hz rfl rfl rfl rfl rfl rfl fun v h' tk st l p => q v h' tk st l p
    · intro e hq nb lb Fb Nb
      obtain rfl : x = y := by simpa using e
      exact st_nil (st_nil ⟨hq, nb, _, rfl, Fb, Nb, ⟨Eq.trans (by rfl) m1, Eq.trans (by rfl) m2, Eq.trans (by rfl) m3, Eq.trans (by rfl) m4⟩, take_next ht hx hy⟩)
  · rintro m₁ hp na la ⟨⟨m1, m2, m3, m4⟩, ht⟩ Fa Na
    rw [rX.len] at ht
    exact common_fin (c := L + 1) (o := o₂') W' (Nat.le_trans l₁₁' la) Fa Na rfl rfl hsep d2' (ufS _ _ _ _ _ ps la) m4 m3 hX (by unfold comX; rw [lcp_all _ _ ht]; exact rX.up la) hok hz rfl rfl rfl rfl rfl rfl fun v h' tk st l p => q v h' tk st l p
end

/-- two parts of a ledger that share no address -/
def Dj (nw own : List (Addr × Obj)) : Prop := ∀ p ∈ nw, ∀ q ∈ own, p.1 ≠ q.1
theorem Dj.cons {nw own : List (Addr × Obj)} {D : Addr} {o : Obj} (d : Dj nw own) (h : ∀ q ∈ own, q.1 ≠ D) : Dj ((D, o) :: nw) own := fun p hp q hq => by
  rcases List.mem_cons.mp hp with e | hp
  · rw [e]; exact fun c => h q hq c.symm
  · exact d p hp q hq
theorem Dj.sub {nw nw' own own' : List (Addr × Obj)} (d : Dj nw own) (h1 : ∀ p ∈ nw', p ∈ nw) (h2 : ∀ p ∈ own', p ∈ own) : Dj nw' own' := fun p hp q hq => d p (h1 p hp) q (h2 q hq)
theorem news_sub {h₀ h : Heap} {L : Addr} {nw nw' : List (Addr × Obj)} (N : News h₀ L h nw) (hs : ∀ p ∈ nw', p ∈ nw) : News h₀ L h nw' := fun p hp => N p (hs p hp)
def RngP (a b : Nat) : Value → Heap → Nat → Prop := fun v h _ => ∃ r t u x, v = .ref r ∧ IsRange h r (a : Int) (b : Int) 1 t u x
/-- what a turn of a loop ends in -/
def TurnL (w : World) (A : Around) (env : Env) (E : Value → Shared → Prop) (rest : List Stmt) (Q : Flow → Shared → Prop) (s : Shared) (h₀ : Heap) (L : Addr) (J : Nat → (Str → Option Value) → List (Addr × Obj) → Prop) (own : List (Addr × Obj)) (f : Flow) (s' : Shared) : Prop :=
  match f with
  | .ret v => Q (.ret v) s'
  | .brk => wpAny (Mo w) A (execs rest env) Q E s'
  | _ => ∃ h' tk m' nw', s' = put s h' tk ∧ Fr h₀ L h' m' ∧ News h₀ L h' (nw' ++ own) ∧ Dj nw' own ∧ J tk m' nw'
section
variable {w : World} {A : Around} {h : Heap} {n : Nat} {env : Env}
theorem ev_callT2 {f : Str} {T : String} {p pos : Pos} {e₁ e₂ : Expr} {P P₁ P₂ : Value → Heap → Nat → Prop} (h0 : Ev w A h n (eval (.Name f p) env) (Is (.type T)))
    (h1 : Ev w A h n (eval e₁ env) P₁) (h2 : Ev w A h n (eval e₂ env) P₂) (up : Up P₁) (hc : ∀ v₁ v₂ h' n', h.StaysIn h' → n ≤ n' → P₁ v₁ h' n' → P₂ v₂ h' n' → Ev w A h' n' (call (.type T) [v₁, v₂]) P)
    (he : starEach [e₁, e₂] env = (false, eval e₁ env) :: starEach [e₂] env) (he2 : starEach [e₂] env = [(false, eval e₂ env)]) : Ev w A h n (eval (.Call (.Name f p) [e₁, e₂] [] pos) env) P :=
  .then (g := fun f => callWith pos f [] (backTo pos (starEach [e₁, e₂] env)) []) (fun s Q E x => Call_Name rfl x) h0 fun f h' n' k l ef => by
    cases ef
    refine .then (fun s Q E x => callWith_type1 x he (by rw [he2]; rfl)) ((ev_args2 h1 h2 up he he2).grow k l) fun vs h'' n'' k' l' p => ?_
    obtain ⟨v₁, v₂, rfl, p₁, p₂⟩ := p
    exact hc v₁ v₂ h'' n'' (stays_trans k k') (Nat.le_trans l l') p₁ p₂
theorem ev_range1 {p pos : Pos} {e : Expr} {b : Nat} (h0 : Ev w A h n (eval (.Name (Str.ofString "range") p) env) (Is (.type "range"))) (h1 : Ev w A h n (eval e env) (IsI (b : Int))) (he : starEach [e] env = [(false, eval e env)]) :
    Ev w A h n (eval (.Call (.Name (Str.ofString "range") p) [e] [] pos) env) (RngP 0 b) := ev_callT1 h0 h1 (fun v h' n' k l pv => by
  obtain ⟨t, rfl⟩ := pv
  exact fun s Q E st tl q => call_range_1 (q _ _ _ (push_stays _ _) (by omega) ⟨_, _, _, _, rfl, IsRange.new _ _ _ _ _ _ _⟩)) he
theorem ev_range2 {p pos : Pos} {e₁ e₂ : Expr} {a b : Nat} (h0 : Ev w A h n (eval (.Name (Str.ofString "range") p) env) (Is (.type "range"))) (h1 : Ev w A h n (eval e₁ env) (IsI (a : Int))) (h2 : Ev w A h n (eval e₂ env) (IsI (b : Int))) (he : starEach [e₁, e₂] env = (false, eval e₁ env) :: starEach [e₂] env) (he2 : starEach [e₂] env = [(false, eval e₂ env)]) :
    Ev w A h n (eval (.Call (.Name (Str.ofString "range") p) [e₁, e₂] [] pos) env) (RngP a b) := ev_callT2 h0 h1 h2 upI (fun v₁ v₂ h' n' k l p1 p2 => by
  obtain ⟨t, rfl⟩ := p1
  obtain ⟨u, rfl⟩ := p2
  exact fun s Q E st tl q => call_range_2 (q _ _ _ (push_stays _ _) (by omega) ⟨_, _, _, _, rfl, IsRange.new _ _ _ _ _ _ _⟩)) he he2
/-- len of a list -/
theorem ev_len {p pos : Pos} {e : Expr} {k : Nat} {P : Value → Heap → Nat → Prop} (h0 : Ev w A h n (eval (.Name (Str.ofString "len") p) env) (Is (.builtin "len"))) (h1 : Ev w A h n (eval e env) P) (hP : ∀ v h' n', h.StaysIn h' → n ≤ n' → P v h' n' → ∃ D vs ep, v = .ref D ∧ h'.get? D = some (lst vs ep) ∧ vs.length = k) (hk : k ≤ sizeLine)
    (he : starEach [e] env = [(false, eval e env)]) : Ev w A h n (eval (.Call (.Name (Str.ofString "len") p) [e] [] pos) env) (IsI (k : Int)) :=
  ev_callB1 h0 h1 (fun v h' n' k' l pv => by
    obtain ⟨D, vs, ep, rfl, g, rfl⟩ := hP v h' n' k' l pv
    intro s Q E st tl q
    have hl : s.heap.IsList D vs.toArray := ⟨_, st _ _ g, rfl, ep, rfl⟩
    refine call_len_list hl (by rw [List.size_toArray]; rw [sizeLine_eq] at hk; omega) (q _ s.heap _ (stays_refl _) (by omega) ⟨_, by rw [List.size_toArray]⟩)) he
variable {s : Shared} {h₀ : Heap} {m : Str → Option Value} {nw own : List (Addr × Obj)} {E : Value → Shared → Prop} {Q : Flow → Shared → Prop} {L : Addr} {x : Str} {px pos : Pos} {e : Expr} {body rest : List Stmt}
theorem turnL_of {J : Nat → (Str → Option Value) → List (Addr × Obj) → Prop} {I : Addr} {oI : Obj} (hI : ∀ p ∈ own, p.1 ≠ I) {f : Flow} {s' : Shared} (h : TurnL w A env E rest Q s h₀ L J (own ++ [(I, oI)]) f s') (hb : f = .brk → wpAny (Mo w) A (execs rest env) Q E s') :
    TurnEnd h₀ L I (fun tk m news => ∃ nw, news = nw ++ own ∧ Dj nw own ∧ J tk m nw) [(I, oI)] s (Then w A env E rest Q) f s' := by
  have key : (∃ h' tk m' nw', s' = put s h' tk ∧ Fr h₀ L h' m' ∧ News h₀ L h' (nw' ++ (own ++ [(I, oI)])) ∧ Dj nw' (own ++ [(I, oI)]) ∧ J tk m' nw') → TurnTo h₀ L I (fun tk m news => ∃ nw, news = nw ++ own ∧ Dj nw own ∧ J tk m nw) [(I, oI)] s s' := by
    rintro ⟨h', tk, m', nw', rfl, F, N, d, j⟩
    refine ⟨h', tk, m', nw' ++ own, rfl, F, by rw [List.append_assoc]; exact N, fun p hp => ?_, nw', rfl, d.sub (fun p hp => hp) (fun p hp => List.mem_append_left _ hp), j⟩
    rcases List.mem_append.mp hp with hp | hp
    · exact d p hp (I, oI) (List.mem_append_right _ (.head _))
    · exact hI p hp
  cases f with
  | next => exact key h
  | cont => exact key h
  | brk => exact hb rfl
  | ret v => exact h
/-- for x in range(..) -/
theorem st_forR {a k : Nat} (J : Nat → Nat → (Str → Option Value) → List (Addr × Obj) → Prop) (up : ∀ i t u m nw, J i t m nw → t ≤ u → J i u m nw) (F : Fr h₀ L h m) (N : News h₀ L h (nw ++ own)) (dj : Dj nw own) (hL : env.locals = L) (hh : A.handled = none)
    (he : Ev w A h n (eval e env) (RngP a (a + k))) (hz : a + k < 1000) (h0 : J 0 n m nw)
    (turn : ∀ I i t m₁ nw₁ oI h tk, n ≤ tk → i < k → J i tk m₁ nw₁ → Dj nw₁ (own ++ [(I, oI)]) → Fr h₀ L h (upd m₁ x (.int ((a + i : Nat) : Int) t)) → News h₀ L h (nw₁ ++ (own ++ [(I, oI)])) →
      wpAny (Mo w) A (execs body env) (TurnL w A env E rest Q s h₀ L (J (i + 1)) (own ++ [(I, oI)])) (fun _ _ => False) (put s h tk))
    (done : ∀ m₁ nw₁ h tk, n ≤ tk → J k tk m₁ nw₁ → Fr h₀ L h m₁ → News h₀ L h (nw₁ ++ own) → Dj nw₁ own → wpAny (Mo w) A (execs rest env) Q E (put s h tk))
    (hx : env.kindOf x = some .local) (hfk : env.scope.kind = .function) (hs : ∀ x, foldedSetIterable e env x = pure x) :
    wpAny (Mo w) A (execs (.For (.Name x px) e body [] pos :: rest) env) Q E (put s h n) := by
  refine st_cons (For_stop (he.use (s := put s h n) fun v ha na st₁ l₁ pv => ?_) hs)
  obtain ⟨r, t, u, z, rfl, hr⟩ := pv
  have Fa := fr_grow F st₁
  have Na := news_grow N st₁
  refine loop_range (n := k) (fun i tk m news => ∃ nw, news = nw ++ own ∧ Dj nw own ∧ J i tk m nw) (fun i t u m news ⟨nw, e, d, j⟩ l => ⟨nw, e, d, up _ _ _ _ _ j l⟩) hh hr (small_one (by omega) (by omega) (by omega) (by omega)) (by rw [rangeSize_one]; split <;> omega) Fa Na hL hx hfk ⟨nw, rfl, dj, up _ _ _ _ _ h0 l₁⟩ ?_ ?_
  · rintro I i t m₁ _ oI h tk l hI hi ⟨nw₁, rfl, d, j⟩ hN F₁ N₁
    have hown : ∀ p ∈ own, p.1 ≠ I := fun p hp => hN p (List.mem_append_right _ hp)
    have d' : Dj nw₁ (own ++ [(I, oI)]) := fun p hp q hq => by
      rcases List.mem_append.mp hq with hq | hq
      · exact d p hp q hq
      · rw [List.mem_singleton.mp hq]; exact hN p (List.mem_append_left _ hp)
    refine wpAny_mono (turn I i t m₁ nw₁ oI h tk (Nat.le_trans l₁ l) hi j d' (by rw [show ((a + i : Nat) : Int) = (a : Int) + (i : Int) from by omega]; exact F₁) (by rw [List.append_assoc] at N₁; exact N₁)) (fun f s' q => turnL_of hown q fun e => ?_) fun _ _ x => x
    subst e; exact q
  · rintro m₁ _ h tk l ⟨nw₁, rfl, d, j⟩ F₁ N₁
    exact done m₁ nw₁ h tk (Nat.le_trans l₁ l) j F₁ N₁ d
/-- for x in a list that was there before -/
theorem st_forL {D : Addr} {vs : List Value} {ep : Nat} (J : Nat → Nat → (Str → Option Value) → List (Addr × Obj) → Prop) (up : ∀ i t u m nw, J i t m nw → t ≤ u → J i u m nw) (F : Fr h₀ L h m) (N : News h₀ L h (nw ++ own)) (dj : Dj nw own) (hL : env.locals = L) (hh : A.handled = none)
    (he : Ev w A h n (eval e env) (Is (.ref D))) (hD : h₀.get? D = some (lst vs ep)) (h0 : J 0 n m nw)
    (turn : ∀ I i v m₁ nw₁ oI h tk, n ≤ tk → vs[i]? = some v → J i tk m₁ nw₁ → Dj nw₁ (own ++ [(I, oI)]) → Fr h₀ L h (upd m₁ x v) → News h₀ L h (nw₁ ++ (own ++ [(I, oI)])) →
      wpAny (Mo w) A (execs body env) (TurnL w A env E rest Q s h₀ L (J (i + 1)) (own ++ [(I, oI)])) (fun _ _ => False) (put s h tk))
    (done : ∀ m₁ nw₁ h tk, n ≤ tk → J vs.length tk m₁ nw₁ → Fr h₀ L h m₁ → News h₀ L h (nw₁ ++ own) → Dj nw₁ own → wpAny (Mo w) A (execs rest env) Q E (put s h tk))
    (hx : env.kindOf x = some .local) (hfk : env.scope.kind = .function) (hs : ∀ x, foldedSetIterable e env x = pure x) :
    wpAny (Mo w) A (execs (.For (.Name x px) e body [] pos :: rest) env) Q E (put s h n) := by
  refine st_cons (For_stop (he.use (s := put s h n) fun v ha na st₁ l₁ pv => ?_) hs)
  cases pv
  have Fa := fr_grow F st₁
  have Na := news_grow N st₁
  refine loop_list (fun i tk m news => ∃ nw, news = nw ++ own ∧ Dj nw own ∧ J i tk m nw) (fun i t u m news ⟨nw, e, d, j⟩ l => ⟨nw, e, d, up _ _ _ _ _ j l⟩) hh (.inl hD) Fa Na hL hx hfk ⟨nw, rfl, dj, up _ _ _ _ _ h0 l₁⟩ ?_ ?_
  · rintro I i v m₁ _ oI h tk l hI hv ⟨nw₁, rfl, d, j⟩ hN F₁ N₁
    have hown : ∀ p ∈ own, p.1 ≠ I := fun p hp => hN p (List.mem_append_right _ hp)
    have d' : Dj nw₁ (own ++ [(I, oI)]) := fun p hp q hq => by
      rcases List.mem_append.mp hq with hq | hq
      · exact d p hp q hq
      · rw [List.mem_singleton.mp hq]; exact hN p (List.mem_append_left _ hp)
    refine wpAny_mono (turn I i v m₁ nw₁ oI h tk (Nat.le_trans l₁ l) hv j d' F₁ (by rw [List.append_assoc] at N₁; exact N₁)) (fun f s' q => turnL_of hown q fun e => ?_) fun _ _ x => x
    subst e; exact q
  · rintro m₁ _ h tk l ⟨nw₁, rfl, d, j⟩ F₁ N₁
    exact done m₁ nw₁ h tk (Nat.le_trans l₁ l) j F₁ N₁ d
end

/-- n ints, the i-th is f i -/
def IR (n : Nat) (f : Nat → Int) (vs : List Value) : Prop := vs.length = n ∧ ∀ i, i < n → ∃ t, vs[i]? = some (Value.int (f i) t)
theorem intsOf' : ∀ (vs : List Value) (ns : List Int), vs.length = ns.length → (∀ (i : Nat) (x : Int), ns[i]? = some x → ∃ t, vs[i]? = some (Value.int x t)) → IntsAre vs ns
  | [], [], _, _ => .nil
  | [], _ :: _, h, _ => by simp at h
  | _ :: _, [], h, _ => by simp at h
  | v :: vs, x :: ns, h, g => by
    obtain ⟨t, e⟩ := g 0 x rfl
    obtain rfl : v = .int x t := by simpa using e
    exact .cons x t (intsOf' vs ns (by simpa using h) fun i y e => by simpa using g (i + 1) y (by simpa using e))
theorem IR.ints {n : Nat} {f : Nat → Int} {vs : List Value} (r : IR n f vs) : IntsAre vs ((List.range n).map f) :=
  intsOf' _ _ (by simp [r.1]) fun i x e => by
    obtain ⟨hi, rfl⟩ := List.getElem?_eq_some_iff.mp e
    simp only [List.length_map, List.length_range] at hi
    simpa using r.2 i hi
theorem IR.nil {f : Nat → Int} : IR 0 f [] := ⟨rfl, fun i h => absurd h (Nat.not_lt_zero i)⟩
theorem IR.snoc {n : Nat} {f : Nat → Int} {vs : List Value} {t : Tok} (r : IR n f vs) : IR (n + 1) f (vs ++ [.int (f n) t]) := by
  refine ⟨by simp [r.1], fun i hi => ?_⟩
  by_cases h : i < n
  · rw [List.getElem?_append_left (by rw [r.1]; exact h)]; exact r.2 i h
  · obtain rfl : i = n := by omega
    exact ⟨t, by rw [List.getElem?_append_right (by rw [r.1]; exact Nat.le_refl _), r.1]; simp⟩
theorem IR.congr {n : Nat} {f g : Nat → Int} {vs : List Value} (r : IR n f vs) (h : ∀ i, i < n → f i = g i) : IR n g vs := ⟨r.1, fun i hi => by rw [← h i hi]; exact r.2 i hi⟩
theorem IR.set {n j : Nat} {f : Nat → Int} {z : Int} {t : Tok} {vs : List Value} (r : IR n f vs) (hj : j < n) : IR n (fun k => if k = j then z else f k) (vs.set j (.int z t)) := by
  refine ⟨by simp [r.1], fun i hi => ?_⟩
  by_cases h : i = j
  · subst h; exact ⟨t, by rw [List.getElem?_set_self (by rw [r.1]; exact hi)]; simp⟩
  · rw [List.getElem?_set_ne (Ne.symm h)]; simp only [h, if_false]; exact r.2 i hi
def IRV (n : Nat) (f : Nat → Int) : List Value → Heap → Nat → Prop := fun vs _ _ => IR n f vs
theorem upIRV {n : Nat} {f : Nat → Int} : Up (IRV n f) := fun _ _ _ _ _ p _ _ => p
/-- a table in the heap -/
def TabV (N n : Nat) (M : Nat → Nat → Int) : Value → Heap → Nat → Prop := fun v h _ => ∃ (T : Addr) (as : List Addr) (ep : Nat), v = .ref T ∧ h.get? T = some (lst (as.map Value.ref) ep) ∧ as.length = N ∧ ∀ i a, as[i]? = some a → ∃ vs ep', h.get? a = some (lst vs ep') ∧ IR n (M i) vs
theorem upTabV {N n : Nat} {M : Nat → Nat → Int} : Up (TabV N n M) := fun _ _ _ _ _ ⟨T, as, ep, e, g, l, r⟩ k _ => ⟨T, as, ep, e, k _ _ g, l, fun i a e => let ⟨vs, ep', g, x⟩ := r i a e; ⟨vs, ep', k _ _ g, x⟩⟩
/-- a table in a ledger -/
def Tab (N n : Nat) (M : Nat → Nat → Int) (T : Addr) (nw : List (Addr × Obj)) : Prop := ∃ (as : List Addr) (ep : Nat), (T, lst (as.map Value.ref) ep) ∈ nw ∧ as.length = N ∧ as.Nodup ∧ T ∉ as ∧ ∀ i a, as[i]? = some a → ∃ vs ep', (a, lst vs ep') ∈ nw ∧ IR n (M i) vs
theorem Tab.sub {N n : Nat} {M : Nat → Nat → Int} {T : Addr} {nw nw' : List (Addr × Obj)} (t : Tab N n M T nw) (h : ∀ p ∈ nw, p ∈ nw') : Tab N n M T nw' := by
  obtain ⟨as, ep, e, l, d, x, r⟩ := t
  exact ⟨as, ep, h _ e, l, d, x, fun i a e => let ⟨vs, ep', g, x⟩ := r i a e; ⟨vs, ep', h _ g, x⟩⟩
theorem Tab.congr {N n : Nat} {M M' : Nat → Nat → Int} {T : Addr} {nw : List (Addr × Obj)} (t : Tab N n M T nw) (h : ∀ i j, i < N → j < n → M i j = M' i j) : Tab N n M' T nw := by
  obtain ⟨as, ep, e, l, d, x, r⟩ := t
  exact ⟨as, ep, e, l, d, x, fun i a e => let ⟨vs, ep', g, x⟩ := r i a e; ⟨vs, ep', g, x.congr fun j hj => h i j (by rw [← l]; exact (List.getElem?_eq_some_iff.mp e).1) hj⟩⟩
theorem Tab.val {N n : Nat} {M : Nat → Nat → Int} {T : Addr} {nw news : List (Addr × Obj)} {h₀ h : Heap} {L : Addr} {k : Nat} (t : Tab N n M T nw) (N' : News h₀ L h news) (hs : ∀ p ∈ nw, p ∈ news) : TabV N n M (.ref T) h k := by
  obtain ⟨as, ep, e, l, d, x, r⟩ := t
  exact ⟨T, as, ep, rfl, (N' _ (hs _ e)).1, l, fun i a e => let ⟨vs, ep', g, x⟩ := r i a e; ⟨vs, ep', (N' _ (hs _ g)).1, x⟩⟩
/-- a new table -/
def TabN (h₀ : Heap) (N n : Nat) (M : Nat → Nat → Int) : Value → Heap → Nat → Prop := fun v h _ => ∃ (T : Addr) (nw : List (Addr × Obj)), v = .ref T ∧ Tab N n M T nw ∧ ∀ p ∈ nw, h.get? p.1 = some p.2 ∧ h₀.get? p.1 = none
theorem TabN.grow {h₀ h₁ : Heap} {N n : Nat} {M : Nat → Nat → Int} {v : Value} {h : Heap} {k k' : Nat} (t : TabN h₁ N n M v h k) (st : h₀.StaysIn h₁) : TabN h₀ N n M v h k' := let ⟨T, nw, e, t, f⟩ := t; ⟨T, nw, e, t, fun p hp => ⟨(f p hp).1, none_of st (f p hp).2⟩⟩
theorem Tab.valH {N n : Nat} {M : Nat → Nat → Int} {T : Addr} {nw : List (Addr × Obj)} {h : Heap} {k : Nat} (t : Tab N n M T nw) (f : ∀ p ∈ nw, h.get? p.1 = some p.2) : TabV N n M (.ref T) h k := by
  obtain ⟨as, ep, e, l, d, x, r⟩ := t
  exact ⟨T, as, ep, rfl, f _ e, l, fun i a e => let ⟨vs, ep', g, x⟩ := r i a e; ⟨vs, ep', f _ g, x⟩⟩
/-- from the rows of a comprehension -/
theorem Tab.rows {N n : Nat} {M : Nat → Nat → Int} {T : Addr} {nw news : List (Addr × Obj)} {ep tk : Nat} (hN : nw.length = N) (hT : ∀ p ∈ nw, p.1 ≠ T) (hp : nw.Pairwise (fun a b => a.1 ≠ b.1)) (g : ∀ j p, nw[j]? = some p → ∃ vs ep, p.2 = lst vs ep ∧ IR n (M j) vs)
    (h1 : (T, lst (nw.map fun p => Value.ref p.1) ep) ∈ news) (h2 : ∀ p ∈ nw, p ∈ news) : Tab N n M T news := by
  refine ⟨nw.map (·.1), ep, by rw [List.map_map]; exact h1, by rw [List.length_map]; exact hN, ?_, fun hm => ?_, fun i a e => ?_⟩
  · exact List.pairwise_map.mpr hp
  · obtain ⟨p, hp, e⟩ := List.mem_map.mp hm; exact hT p hp e
  · rw [List.getElem?_map] at e
    cases hq : nw[i]? with
    | none => rw [hq] at e; cases e
    | some p =>
      rw [hq] at e
      obtain rfl : p.1 = a := by simpa using e
      obtain ⟨vs, ep', e', r⟩ := g i p hq
      exact ⟨vs, ep', by rw [← e']; exact h2 _ (List.mem_of_getElem? hq), r⟩
def setM (M : Nat → Nat → Int) (i j : Nat) (z : Int) : Nat → Nat → Int := fun a b => if a = i ∧ b = j then z else M a b
/-- an entry changed -/
def put1 (nw : List (Addr × Obj)) (a : Addr) (o : Obj) : List (Addr × Obj) := nw.map fun p => if p.1 = a then (a, o) else p
theorem put1_addr {nw : List (Addr × Obj)} {a : Addr} {o : Obj} {p : Addr × Obj} (h : p ∈ put1 nw a o) : ∃ q ∈ nw, q.1 = p.1 := by
  obtain ⟨q, hq, e⟩ := List.mem_map.mp h
  refine ⟨q, hq, ?_⟩
  by_cases c : q.1 = a
  · rw [if_pos c] at e; rw [← e]; exact c
  · rw [if_neg c] at e; rw [e]
theorem put1_self {nw : List (Addr × Obj)} {a : Addr} {o o' : Obj} (h : (a, o') ∈ nw) : (a, o) ∈ put1 nw a o := List.mem_map.mpr ⟨_, h, if_pos rfl⟩
theorem put1_other {nw : List (Addr × Obj)} {a : Addr} {o : Obj} {p : Addr × Obj} (h : p ∈ nw) (c : p.1 ≠ a) : p ∈ put1 nw a o := List.mem_map.mpr ⟨_, h, if_neg c⟩
theorem nodup_inj {as : List Addr} (nd : as.Nodup) {i j : Nat} {a : Addr} (h1 : as[i]? = some a) (h2 : as[j]? = some a) : i = j := by
  obtain ⟨l1, e1⟩ := List.getElem?_eq_some_iff.mp h1
  obtain ⟨l2, e2⟩ := List.getElem?_eq_some_iff.mp h2
  rcases Nat.lt_trichotomy i j with c | c | c
  · exact absurd (e1.trans e2.symm) (List.pairwise_iff_getElem.mp nd i j l1 l2 c)
  · exact c
  · exact absurd (e2.trans e1.symm) (List.pairwise_iff_getElem.mp nd j i l2 l1 c)
theorem Tab.set {N n i j : Nat} {M : Nat → Nat → Int} {z : Int} {t : Tok} {T a : Addr} {nw : List (Addr × Obj)} {as : List Addr} {ep ep' : Nat} {vs : List Value} (h1 : (T, lst (as.map Value.ref) ep) ∈ nw) (hN : as.length = N) (nd : as.Nodup) (hT : T ∉ as) (r : ∀ i a, as[i]? = some a → ∃ vs ep', (a, lst vs ep') ∈ nw ∧ IR n (M i) vs)
    (hi : as[i]? = some a) (hj : j < n) (ha : (a, lst vs ep') ∈ nw) (hr : IR n (M i) vs) : Tab N n (setM M i j z) T (put1 nw a (lst (vs.set j (.int z t)) ep')) := by
  refine ⟨as, ep, put1_other h1 fun e => hT (by rw [show T = a from e]; exact List.mem_of_getElem? hi), hN, nd, hT, fun k b hb => ?_⟩
  by_cases hk : k = i
  · subst hk
    obtain rfl : a = b := by rw [hi] at hb; simpa using hb
    refine ⟨_, ep', put1_self ha, (hr.set (z := z) (t := t) hj).congr fun q _ => ?_⟩
    simp [setM]
  · obtain ⟨ws, e, hb', rb⟩ := r k b hb
    refine ⟨ws, e, put1_other hb' fun (c : b = a) => hk ?_, rb.congr fun q _ => by simp [setM, hk]⟩
    exact nodup_inj nd hb (c ▸ hi)
section
variable {w : World} {A : Around} {h : Heap} {n : Nat} {env : Env}
/-- T[i][j] -/
theorem ev_cellT {value s1 s2 : Expr} {p1 p2 : Pos} {N k i j : Nat} {M : Nat → Nat → Int} (h1 : Ev w A h n (eval value env) (TabV N k M)) (h2 : Ev w A h n (eval s1 env) (IsI (i : Int))) (h3 : Ev w A h n (eval s2 env) (IsI (j : Int))) (hi : i < N) (hj : j < k) (hN : N < 1000) (hk : k < 1000)
    (hs1 : ∀ o i, subscripted s1 false o i = operate [o, i] (getItem o i)) (hs2 : ∀ o i, subscripted s2 false o i = operate [o, i] (getItem o i)) : Ev w A h n (eval (.Subscript (.Subscript value s1 p1) s2 p2) env) (IsI (M i j)) := by
  have row : Ev w A h n (eval (.Subscript value s1 p1) env) (LV (IRV k (M i))) := by
    refine ev_item (R := fun vs h' _ => ∃ as : List Addr, vs = as.map Value.ref ∧ as.length = N ∧ ∀ i a, as[i]? = some a → ∃ vs ep', h'.get? a = some (lst vs ep') ∧ IR k (M i) vs) (k := (i : Int)) (h1.post fun v h' n' _ _ ⟨T, as, ep, e, g, l, r⟩ => ⟨T, _, ep, e, g, as, rfl, l, r⟩)
      (fun vs h h' n n' ⟨as, e, l, r⟩ k _ => ⟨as, e, l, fun i a e => let ⟨vs, ep', g, x⟩ := r i a e; ⟨vs, ep', k _ _ g, x⟩⟩) h2 (by omega) (by omega) (fun vs h' n' _ _ ⟨as, e, l, r⟩ => ?_) hs1
    obtain ⟨a, ha⟩ : ∃ a, as[i]? = some a := ⟨as[i], List.getElem?_eq_getElem (by omega)⟩
    obtain ⟨ws, ep', g, x⟩ := r i a ha
    exact ⟨.ref a, by rw [e]; simp [ha], a, ws, ep', rfl, g, x⟩
  exact ev_item row upIRV h3 (by omega) (by omega) (fun vs h' n' _ _ r => let ⟨t, e⟩ := r.2 j hj; ⟨_, by simpa using e, t, rfl⟩) hs2
/-- l[i], l a list of ints -/
theorem ev_itemI {value s1 : Expr} {p1 : Pos} {k i : Nat} {f : Nat → Int} (h1 : Ev w A h n (eval value env) (LV (IRV k f))) (h2 : Ev w A h n (eval s1 env) (IsI (i : Int))) (hi : i < k) (hk : k < 1000) (hs1 : ∀ o i, subscripted s1 false o i = operate [o, i] (getItem o i)) : Ev w A h n (eval (.Subscript value s1 p1) env) (IsI (f i)) :=
  ev_item h1 upIRV h2 (by omega) (by omega) (fun vs h' n' _ _ r => let ⟨t, e⟩ := r.2 i hi; ⟨_, by simpa using e, t, rfl⟩) hs1
variable {s : Shared} {h₀ : Heap} {m : Str → Option Value} {nw own : List (Addr × Obj)} {E : Value → Shared → Prop} {Q : Flow → Shared → Prop} {L : Addr}
/-- T[i][j] = e -/
theorem st_setRow {value ie je e : Expr} {p1 p2 pos : Pos} {rest : List Stmt} {N k i j : Nat} {M : Nat → Nat → Int} {z : Int} {T : Addr} (F : Fr h₀ L h m) (N' : News h₀ L h (nw ++ own)) (dj : Dj nw own) (tab : Tab N k M T nw) (hi : i < N) (hj : j < k) (hN : N < 1000) (hk : k < 1000)
    (he : Ev w A h n (eval e env) (IsI z)) (h1 : Ev w A h n (eval value env) (Is (.ref T))) (h2 : Ev w A h n (eval ie env) (IsI (i : Int))) (h3 : Ev w A h n (eval je env) (IsI (j : Int)))
    (go : ∀ h' tk nw', n ≤ tk → Fr h₀ L h' m → News h₀ L h' (nw' ++ own) → Dj nw' own → Tab N k (setM M i j z) T nw' → wpAny (Mo w) A (execs rest env) Q E (put s h' tk))
    (hs1 : ∀ o i, subscripted ie false o i = operate [o, i] (getItem o i)) (hs : swapsWith e (some (.Subscript (.Subscript value ie p1) je p2)) pos.line env = pure false) :
    wpAny (Mo w) A (execs (.Assign [.Subscript (.Subscript value ie p1) je p2] e pos :: rest) env) Q E (put s h n) := by
  obtain ⟨as, ep, hT, l, nd, nT, r⟩ := tab
  obtain ⟨a, ha⟩ : ∃ a, as[i]? = some a := ⟨as[i], List.getElem?_eq_getElem (by omega)⟩
  obtain ⟨vs, ep', hm, hr⟩ := r i a ha
  refine st_cons (wpAny_Assign_Subscript (he.use (s := put s h n) fun v h₁ n₁ st₁ l₁ pv => ?_) hs)
  obtain ⟨t, rfl⟩ := pv
  have row : Ev w A h₁ n₁ (eval (.Subscript value ie p1) env) (Is (.ref a)) :=
    ev_item (R := fun ws _ _ => ws = as.map Value.ref) (k := (i : Int)) ((h1.grow st₁ l₁).post fun v h' n' k' _ e => by cases e; exact ⟨T, _, ep, rfl, k' _ _ (st₁ _ _ (N' _ (List.mem_append_left _ hT)).1), rfl⟩) (fun _ _ _ _ _ e _ _ => e) (h2.grow st₁ l₁) (by omega) (by omega)
      (fun ws h' n' _ _ e => ⟨.ref a, by rw [e]; simp [ha], rfl⟩) hs1
  refine row.use (s := put s h₁ n₁) fun o h₂ n₂ st₂ l₂ po => ?_
  cases po
  refine (h3.grow (stays_trans st₁ st₂) (Nat.le_trans l₁ l₂)).use (s := put s h₂ n₂) fun o h₃ n₃ st₃ l₃ po => ?_
  obtain ⟨u, rfl⟩ := po
  have kp := stays_trans st₁ (stays_trans st₂ st₃)
  have F₃ := fr_grow F kp
  have N₃ := news_grow N' kp
  have g := N₃ _ (List.mem_append_left _ hm)
  refine W.ki_setAt (items := vs.toArray) (n := ep') g.1 (by omega) (by omega) (by rw [List.size_toArray, hr.1]; omega) ?_
  have sb : Heap.SameBut a h₃ (h₃.update a (Obj.mapSeq (·.setIfInBounds ((j : Int)).toNat (.int z t)))) := Heap.SameBut.update ..
  have g' : (h₃.update a (Obj.mapSeq (·.setIfInBounds ((j : Int)).toNat (.int z t)))).get? a = some (lst (vs.set j (.int z t)) ep') := by
    rw [Heap.get?_update_self _ g.1 rfl]; simp [Obj.mapSeq, lst]
  refine go _ n₃ (put1 nw a (lst (vs.set j (.int z t)) ep')) (Nat.le_trans l₁ (Nat.le_trans l₂ l₃)) (F₃.change sb g.2.1 g.2.2) (fun p hp => ?_) (fun p hp q hq => ?_) (Tab.set hT l nd nT r ha hj hm hr)
  · rcases List.mem_append.mp hp with hp | hp
    · obtain ⟨q, hq, e⟩ := List.mem_map.mp hp
      by_cases c : q.1 = a
      · rw [if_pos c] at e; rw [← e]; exact ⟨g', g.2⟩
      · rw [if_neg c] at e; rw [← e]; exact ⟨(sb.2 _ c).trans (N₃ q (List.mem_append_left _ hq)).1, (N₃ q (List.mem_append_left _ hq)).2⟩
    · exact ⟨(sb.2 _ (fun c => dj _ hm p hp c.symm)).trans (N₃ p (List.mem_append_right _ hp)).1, (N₃ p (List.mem_append_right _ hp)).2⟩
  · obtain ⟨q', hq', e⟩ := put1_addr hp
    rw [← e]; exact dj q' hq' q hq
end

def pw : Nat → Int
  | 0 => 1
  | m + 1 => pw m * -2
def dueF (k : Nat) : Int := if k = 0 then 1 else (k : Int) * pw (k - 1)
section
variable {w : World} {A : Around} {h : Heap} {n : Nat} {env : Env}
theorem d_due : IsDef w "_law_due" 221 := ⟨by with_unfolding_all rfl, by with_unfolding_all rfl⟩
theorem due_ev {size : Nat} {v : Value} (W : Wd w h n) (r : Rm 2 A) (p : IsI (size : Int) v h n) (h1 : 1 ≤ size) (h8 : size ≤ 8) : Ev w A h n (call (.ref 221) [v]) (LV (IRV size dueF)) := by
  refine' ev_def (binds := [(Str.ofString "size", v)]) W ?ho ?hc r ?hb ?hl ?_ ?c2 ?c3 ?c4 ?c5
  walk_at "mine:def"
  intro A' L s₀ s h₀ n₀ Qf Ef r' st tl W' F N q
  have W₁ := wd_at W' F (Nat.le_refl _)
  refine st_asgN (o := fun _ => default) F N rfl (ev_list (R := IRV 1 dueF) ((ev_args1 ev_int rfl).post fun vs h' n' _ _ ⟨v, e, t, e'⟩ => by rw [e, e']; exact IR.snoc (f := dueF) IR.nil) upIRV (fun vs h' n' r => by rw [r.1]; exact (by decide : 1 ≤ sizeLine))) ?_ rfl rfl rfl
  rintro _ h₁ h₁' n₁ st₁ l₁ ⟨D, vs, rfl, gD, nD, rD⟩ kp₁ F₁ N₁ nw₁
  obtain ⟨N₁, ne₁⟩ := nw₁ D _ gD nD
  have l₁' : n₀ ≤ n₁ + 1 := Nat.le_succ_of_le l₁
  refine st_asgV F₁ N₁ rfl ev_int ufI ?_ rfl rfl rfl
  intro vp h₂ n₂ l₂ pp F₂ N₂
  have l₂' := Nat.le_trans l₁' l₂
  have W₂ := wd_at W' F₂ l₂'
  obtain ⟨k, rfl⟩ : ∃ k, size = 1 + k := ⟨size - 1, by omega⟩
  refine st_forR (a := 1) (k := k) (nw := [(D, lst vs 0)]) (own := []) (fun i tk m nw => ∃ vs ep vp, nw = [(D, lst vs ep)] ∧ IR (1 + i) dueF vs ∧ m (Str.ofString "due") = some (.ref D) ∧ m (Str.ofString "power") = some vp ∧ IsI (pw i) vp h tk) (fun _ _ _ _ _ ⟨vs, ep, vp, a, b, c, d, e⟩ _ => ⟨vs, ep, vp, a, b, c, d, e⟩)
    F₂ (news_sub N₂ fun p hp => hp) (fun _ _ _ hq => nomatch hq) rfl r'.hh (ev_range2 (ev_bi W₂ boot_range) ev_int (lI F₂ p) rfl rfl) (by omega) ⟨vs, 0, vp, rfl, rD, rfl, rfl, pp⟩ ?_ ?_ rfl rfl (fun _ => rfl)
  · rintro I i t m₁ _ oI ha na la hi ⟨vs, ep, vp, rfl, rv, m1, m2, pp⟩ d Fa Na
    have la' := Nat.le_trans l₂' la
    have Wa := wd_at W' Fa la'
    have hpw : (pw i).natAbs < 1073741824 := by
      have : ∀ i, i < 8 → (pw i).natAbs < 1073741824 := by decide
      exact this i (by omega)
    refine st_append (vs := vs) (ep := ep) (P := IsI (((1 + i : Nat) : Int) * pw i)) (news' := fun v => [(D, lst (vs ++ [v]) (ep + 1))] ++ ([] ++ [(I, oI)])) Fa Na rfl (Eq.trans (by rfl) m1) rfl rfl
      (c2 d_mul Wa (lI Fa (i := ((1 + i : Nat) : Int)) ⟨t, rfl⟩) (lI Fa pp (Eq.trans (by rfl) m2)) upI (fun v₁ v₂ h' n' W k l p1 p2 => mul_ev W (r'.le (by decide)) p1 p2 (by omega))) (by rw [rv.1, sizeLine_eq]; omega) (fun v => .head fun p hp => fun c => d (D, lst vs ep) (.head _) p hp c.symm) ?_ (by decide) rfl rfl rfl rfl
    rintro _ hb hb' nb lb stb ⟨u, rfl⟩ kpb Fb Nb
    refine st_asgV Fb Nb rfl (c2 d_mul (wd_at W' Fb (Nat.le_trans la' lb)) (lI Fb (h := hb') (n := nb) pp (Eq.trans (by rfl) m2)) (c1 d_neg (wd_at W' Fb (Nat.le_trans la' lb)) ev_int (fun v h' n' W k l p => neg_ev W (r'.le (by decide)) p)) upI (fun v₁ v₂ h' n' W k l p1 p2 => mul_ev W (r'.le (by decide)) p1 p2 hpw)) ufI ?_ rfl rfl rfl
    intro vq hc nc lc pq Fc Nc
    refine st_nil ⟨hc, nc, _, [(D, lst (vs ++ [_]) (ep + 1))], rfl, Fc, Nc, fun p hp q hq => ?_, _, ep + 1, vq, rfl, ?_, Eq.trans (by rfl) m1, rfl, pq⟩
    · rw [List.mem_singleton.mp hp]; exact d (D, lst vs ep) (.head _) q hq
    · have := rv.snoc (t := u)
      rw [show 1 + (i + 1) = 1 + i + 1 from by omega]
      have e : dueF (1 + i) = ((1 + i : Nat) : Int) * pw i := by unfold dueF; rw [if_neg (by omega), show 1 + i - 1 = i from by omega]
      rw [e] at this; exact this
  · rintro m₁ nw₁ ha na la ⟨vs, ep, vp, rfl, rv, m1, m2, pp⟩ Fa Na d
    exact st_ret (lV Fa m1) fun v h' tk st' tl' e => by
      cases e
      exact q _ h' tk (stays_trans Fa.keep st') (Nat.le_trans l₂' (Nat.le_trans la tl')) ⟨D, vs, ep, rfl, st' _ _ (Na _ (.head _)).1, rv⟩
end

/-- texts with tokens from lo on -/
def FL (lo : Nat) (xs : List Str) (vs : List Value) (n : Nat) : Prop := ∃ l : List (Str × Tok), vs = strValues l ∧ l.map (·.1) = xs ∧ ∀ p ∈ l, lo ≤ p.2 ∧ p.2 < n
theorem FL.up {lo : Nat} {xs : List Str} {vs : List Value} {n n' : Nat} (x : FL lo xs vs n) (l : n ≤ n') : FL lo xs vs n' := let ⟨a, b, c, d⟩ := x; ⟨a, b, c, fun p hp => ⟨(d p hp).1, Nat.lt_of_lt_of_le (d p hp).2 l⟩⟩
theorem FL.nil {lo n : Nat} : FL lo [] [] n := ⟨[], rfl, rfl, fun _ h => nomatch h⟩
theorem FL.snoc {lo : Nat} {xs : List Str} {vs : List Value} {n : Nat} {x : Str} {v : Value} {h : Heap} (a : FL lo xs vs n) (b : IsF lo x v h n) : FL lo (xs ++ [x]) (vs ++ [v]) n := by
  obtain ⟨l, rfl, rfl, g⟩ := a
  obtain ⟨t, rfl, t1, t2⟩ := b
  refine ⟨l ++ [(x, t)], by simp [strValues], by simp, fun p hp => ?_⟩
  rcases List.mem_append.mp hp with hp | hp
  · exact g p hp
  · rw [List.mem_singleton.mp hp]; exact ⟨t1, t2⟩
theorem FL.sl {lo : Nat} {xs : List Str} {vs : List Value} {n : Nat} (a : FL lo xs vs n) (h : 0 < lo) : SL xs vs n := let ⟨l, b, c, d⟩ := a; ⟨l, b, c, fun p hp => ⟨Nat.lt_of_lt_of_le h (d p hp).1, (d p hp).2⟩⟩
theorem FL.cnt {lo n : Nat} {xs : List Str} {vs : List Value} {D : Addr} {ep : Nat} {h : Heap} {u : Tok} (a : FL lo xs vs n) (g : h.get? D = some (lst vs ep)) (h0 : 0 < lo) (hu : u < lo) : Cnt (.ref D) h n u xs := by
  obtain ⟨l, rfl, rfl, f⟩ := a
  refine .inr ⟨D, _, ep, rfl, g, by simp [strValues], fun i v hv => ?_⟩
  obtain ⟨p, hp, rfl⟩ : ∃ p, l[i]? = some p ∧ Value.str p.1 p.2 = v := by simpa [strValues] using hv
  have := f p (List.mem_of_getElem? hp)
  exact ⟨p.1, p.2, by simp [hp], rfl, Nat.lt_of_lt_of_le h0 this.1, this.2, fun e => Nat.lt_irrefl u (Nat.lt_of_lt_of_le hu (e ▸ this.1))⟩
theorem SL.drop {xs : List Str} {vs : List Value} {n : Nat} (k : Nat) (a : SL xs vs n) : SL (xs.drop k) (vs.drop k) n := by
  obtain ⟨l, rfl, rfl, g⟩ := a
  exact ⟨l.drop k, by simp [strValues], by simp, fun p hp => g p (List.mem_of_mem_drop hp)⟩
def SLn (n₀ : Nat) (xs : List Str) : List Value → Heap → Nat → Prop := fun vs _ _ => SL xs vs n₀
theorem upSLn {n₀ : Nat} {xs : List Str} : Up (SLn n₀ xs) := fun _ _ _ _ _ p _ _ => p
theorem LV.slr {n₀ n : Nat} {xs : List Str} {v : Value} {h : Heap} (p : LV (SLn n₀ xs) v h n) (l : n₀ ≤ n) : LV (SLR xs) v h n := let ⟨D, vs, ep, e, g, r⟩ := p; ⟨D, vs, ep, e, g, r.up l⟩
def ItS (n₀ : Nat) (xs : List Str) : Nat → Value → Prop := fun i v => ∃ x t, xs[i]? = some x ∧ v = .str x t ∧ 0 < t ∧ t < n₀
section
variable {w : World} {A : Around} {h : Heap} {n : Nat} {env : Env}
theorem Src.mono {v : Value} {k : Nat} {It It' : Nat → Value → Prop} (x : Src w A v h n k It) (f : ∀ i v, It i v → It' i v) : Src w A v h n k It' := fun s Q E st tl q =>
  x s Q E st tl fun fp St o W => q fp St o { sub := W.sub, frame := W.frame, item := fun i s Q E a b c => W.item i s Q E a b fun v h' tk p => c v h' tk (f _ _ p), done := W.done, self := W.self }
theorem src_strs {n₀ : Nat} {xs : List Str} {v : Value} (hh : A.handled = none) (p : LV (SLn n₀ xs) v h n) : Src w A v h n xs.length (ItS n₀ xs) := by
  obtain ⟨D, vs, ep, rfl, g, r⟩ := p
  have e : vs.length = xs.length := SL.len r
  rw [← e]
  refine (src_list hh g).mono fun i v hv => ?_
  obtain ⟨x, hx, t, e, t1, t2⟩ := SL.item r h hv
  exact ⟨x, t, hx, e, t1, t2⟩
theorem ev_orB {a b : Expr} {pos : Pos} {c d : Bool} (h1 : Ev w A h n (eval a env) (IsB c)) (h2 : c = false → Ev w A h n (eval b env) (IsB d)) : Ev w A h n (eval (.BoolOp .Or [a, b] pos) env) (IsB (c || d)) :=
  fun s Q E st tl q => BoolOp_or (h1 s _ E st tl fun v h' tk st' tl' p => truthyB p _ _ E (stays_refl _) (Nat.le_refl _) fun e h'' tk' st'' tl'' pc => by
    cases pc
    cases c with
    | true => cases p; exact q _ h'' tk' (stays_trans st' st'') (Nat.le_trans tl' tl'') rfl
    | false => exact BoolOp_one (h2 rfl _ _ E (stays_trans st (stays_trans st' st'')) (Nat.le_trans tl (Nat.le_trans tl' tl'')) fun v h3 t3 s3 l3 p => q v h3 t3 (stays_trans st' (stays_trans st'' s3)) (Nat.le_trans tl' (Nat.le_trans tl'' l3)) p))
theorem ev_andB {a b : Expr} {pos : Pos} {c d : Bool} (h1 : Ev w A h n (eval a env) (IsB c)) (h2 : c = true → Ev w A h n (eval b env) (IsB d)) : Ev w A h n (eval (.BoolOp .And [a, b] pos) env) (IsB (c && d)) :=
  fun s Q E st tl q => BoolOp_and (h1 s _ E st tl fun v h' tk st' tl' p => truthyB p _ _ E (stays_refl _) (Nat.le_refl _) fun e h'' tk' st'' tl'' pc => by
    cases pc
    cases c with
    | false => cases p; exact q _ h'' tk' (stays_trans st' st'') (Nat.le_trans tl' tl'') rfl
    | true => exact BoolOp_one (h2 rfl _ _ E (stays_trans st (stays_trans st' st'')) (Nat.le_trans tl (Nat.le_trans tl' tl'')) fun v h3 t3 s3 l3 p => q v h3 t3 (stays_trans st' (stays_trans st'' s3)) (Nat.le_trans tl' (Nat.le_trans tl'' l3)) p))

def aboveF (xs : List Str) : List Str := (xs.drop 1).map dirnameF
def tiesF (xs : List Str) (i : Nat) : Int := ((aboveF xs).countP (· == xs.getD i (Str.ofString "")) : Nat) + (if (xs.getD i (Str.ofString "") == xs.getD 0 (Str.ofString "")) = true then 0 else 1)
def tiedF (xs : List Str) (i j : Nat) : Bool := (decide ((0 : Int) < (i : Int)) && ((aboveF xs).getD (i - 1) (Str.ofString "") == xs.getD j (Str.ofString ""))) || (decide ((0 : Int) < (j : Int)) && ((aboveF xs).getD (j - 1) (Str.ofString "") == xs.getD i (Str.ofString "")))
def tieF (xs : List Str) (i j : Nat) : Int := if ((i : Int) == (j : Int)) = true then -(tiesF xs i) else if tiedF xs i j = true then 1 else 0
def undoF (xs : List Str) (i j : Nat) : Int := ((xs.length : Int) - 1) * tieF xs i j + (2 - tiesF xs i) * (2 - tiesF xs j)
structure DirOk (x : Str) : Prop where
  len : x.length ≤ 100000
  ne : (Builtin.Str.strSliceIndices none (some (Txt.rfind x sSl + 1)) 1 x.length).length ≠ x.length
  mul : MulOk sSl ((dirHead x).length : Int)
theorem tiesF_bound (xs : List Str) (i : Nat) (h : xs.length ≤ 8) : (2 - tiesF xs i).natAbs < 1073741824 := by
  have h1 : (aboveF xs).countP (· == xs.getD i (Str.ofString "")) ≤ (aboveF xs).length := List.countP_le_length
  have h2 : (aboveF xs).length ≤ 8 := by unfold aboveF; simp; omega
  unfold tiesF
  split <;> omega
theorem ev_LV {k : Nat} {f : Nat → Int} {D : Addr} {vs : List Value} {ep : Nat} {e : Expr} (h1 : Ev w A h n (eval e env) (Is (.ref D))) (g : h.get? D = some (lst vs ep)) (r : IR k f vs) : Ev w A h n (eval e env) (LV (IRV k f)) := h1.post fun v h' n' k' _ e => by cases e; exact ⟨D, vs, ep, rfl, k' _ _ g, r⟩
theorem half_ev {ab xs : List Str} {i j k0 k1 : Nat} {na np x y : Str} {p1 p2 p3 p4 p5 p6 p7 p8 p9 q1 q2 q3 q4 : Pos} (hA : Ev w A h n (eval (.Name na p1) env) (LV (SLR ab))) (hP : Ev w A h n (eval (.Name np p2) env) (LV (SLR xs))) (hi : ∀ p, Ev w A h n (eval (.Name x p) env) (IsI (i : Int))) (hj : Ev w A h n (eval (.Name y p4) env) (IsI (j : Int)))
    (li : i ≤ ab.length) (lj : j < xs.length) (hz : ab.length < 1000) (hz' : xs.length < 1000) :
    Ev w A h n (eval (.BoolOp .And [.Compare (.Name x p3) [.Gt] [.Constant (.int 0) k0 p5] p6, .Compare (.Subscript (.Name na p1) (.BinOp (.Name x p7) .Sub (.Constant (.int 1) k1 p8) p9) q1) [.Eq] [.Subscript (.Name np p2) (.Name y p4) q2] q3] q4) env)
      (IsB (decide ((0 : Int) < (i : Int)) && (ab.getD (i - 1) (Str.ofString "") == xs.getD j (Str.ofString "")))) :=
  ev_andB (ev_cmp (hi _) ev_int upI (fun a b h' n' _ _ pa pb => cmp_gtI pa pb) rfl) fun e => by
    have hi0 : 0 < i := by simpa using e
    exact ev_cmp (ev_itemS (xs := ab) hA (ev_subI (hi _) ev_int) (by omega) (by omega) (by rw [show ((i : Int) - 1).toNat = i - 1 from by omega]; exact getD_some (by omega)) (fun _ _ => rfl)) (ev_itemS (xs := xs) hP hj (by omega) (by omega) (by rw [Int.toNat_natCast]; exact getD_some lj) (fun _ _ => rfl)) upS (fun a b h' n' _ _ pa pb => cmp_eqS pa pb) rfl
theorem d_undo : IsDef w "_law_undoing" 226 := ⟨by with_unfolding_all rfl, by with_unfolding_all rfl⟩
set_option maxHeartbeats 2000000 in
theorem undo_ev {xs : List Str} {v : Value} (W : Wd w h n) (r : Rm 3 A) (pv : LV (SLR xs) v h n) (h1 : 1 ≤ xs.length) (h8 : xs.length ≤ 8) (hd : ∀ x ∈ xs.drop 1, DirOk x) : Ev w A h n (call (.ref 226) [v]) (TabN h xs.length xs.length (undoF xs)) := by
  refine' ev_defC (binds := [(Str.ofString "plain", v)]) W ?ho ?hc r ?hb ?hkind ?hnd ?_ ?c2 ?c3 ?c4
  case ho => with_unfolding_all rfl
  case hc => with_unfolding_all rfl
  case hb => with_unfolding_all rfl
  case hkind => intro n x hx; rw [List.mem_singleton.mp hx]; exact .inr ⟨rfl, rfl⟩
  case hnd => decide
  case c2 => exact rfl
  case c3 => exact rfl
  case c4 => exact rfl
  intro A' L s₀ s h₀ n₀ Qf Ef cells r' st tl W' F N Y q
  obtain ⟨o2, o1, rfl, d2, d1⟩ := CellsAre.two (n := Str.ofString "above") (c := L + 2) (n' := Str.ofString "plain") (c' := L + 1) Y
  replace d1 : o1.data = .cell (some v) := d1
  have hh := r'.hh
  have pv₀ : LV (SLn n₀ xs) v s₀ n₀ := let ⟨D, vs, ep, e, g, r⟩ := pv; ⟨D, vs, ep, e, st _ _ g, r.up tl⟩
  have hz : ∀ vs k, SL xs vs k → vs.length ≤ sizeLine := fun vs k r => by rw [r.len, sizeLine_eq]; omega
  have pl : ∀ {env : Env} {A : Around} {pos : Pos} {h' : Heap} {n' : Nat}, s₀.StaysIn h' → n₀ ≤ n' → h'.get? (L + 1) = some o1 → env.cells.lookup (Str.ofString "plain") = some (L + 1) → env.scope.kind = .function → env.kindOf (Str.ofString "plain") = some .cell → Ev w A h' n' (eval (.Name (Str.ofString "plain") pos) env) (LV (SLn n₀ xs)) :=
    fun k l g a b c => ev_cell a g d1 (upLV upSLn _ _ _ _ _ pv₀ k l) (upLV upSLn) b c rfl
  refine st_asgC (own := []) (after := [(L + 1, o1)]) F N rfl rfl d2 all0 (all1 (Nat.succ_ne_self (L + 1)).symm) (P := fun v h n => ∃ D vs ep, v = .ref D ∧ h.get? D = some (lst vs ep) ∧ FL n₀ (aboveF xs) vs n ∧ h₀.get? D = none) ?_ ?_ rfl rfl rfl
  · have g1 := (N (L + 1, o1) (.tail _ (.head _))).1
    refine (ev_compV (cl := []) (k := (xs.drop 1).length) (It := ItS n₀ (xs.drop 1)) (fun i ys t => FL n₀ (((xs.drop 1).take i).map dirnameF) ys t) (fun i v h n => ∃ x, (xs.drop 1)[i]? = some x ∧ IsF n₀ (dirnameF x) v h n) (fun _ => true) (fun i ys a b j l => j.up l) (by rw [List.length_drop, sizeLine_eq]; omega)
      (ev_drop (R := SLn n₀ xs) (R' := SLn n₀ (xs.drop 1)) (k := 1) (pl F.keep (Nat.le_refl _) g1 rfl rfl rfl) ev_int upSLn (fun vs h' n' r => hz _ _ r) (fun vs h' n' r => SL.drop 1 r) upSLn (fun _ _ => rfl)) (fun v h' n' k l ⟨D, vs, e, g, _, r⟩ => src_strs hh ⟨D, vs, 0, e, g, r⟩) FL.nil
      (fun i v C m h' n' k l hi hv hn hm => ifs0) (fun i v C m h' n' k l hi hv hn hm _ => ?_) (fun i ys y h' n' hi l _ j ⟨x, hx, p⟩ => ?_) (fun i ys n' hi l e => nomatch e) rfl (fun y hy => by revert y; decide) rfl (fun y hy => by revert y; decide) rfl (fun _ => rfl)).post fun v h' n' _ _ ⟨D, vs, ep, e, g, nn, j⟩ => ⟨D, vs, ep, e, g, by rw [List.take_length] at j; exact j, nn⟩
    · obtain ⟨x, t, hx, rfl, t1, t2⟩ := hv
      have ok := hd x (List.mem_of_getElem? hx)
      have W₂ := wd_at W' F (Nat.le_refl _)
      refine (c1 d_dirname (W₂.keeps k l) (ev_local (P := IsS x) hn hm ⟨t, rfl, t1, Nat.lt_of_lt_of_le t2 l⟩ upS rfl rfl rfl) (P := IsF n₀ (dirnameF x)) (fun v h' n'' W k l' p => (dirname_ev W (r'.le (by decide)) p ok.len ok.ne ok.mul).post fun v h n k' l'' ⟨t, e, a, b⟩ => ⟨t, e, Nat.le_trans (Nat.le_trans l l') a, b⟩)).post fun v h' n' _ _ p => ⟨x, hx, p⟩
    · rw [List.take_succ, hx]
      simpa using j.snoc p
  rintro va h₁ h₁' n₁ o2' l₁ st₁ ⟨D, ws, ep, rfl, gD, fl, nD⟩ kp₁ F₁ N₁ d2'
  have hne : ∀ c o, h₀.get? c = some o → D ≠ c := fun c o e q => by rw [q, e] at nD; cases nD
  have gD' : h₁'.get? D = some (lst ws ep) := kp₁ _ _ (hne _ _ (N (L + 2, o2) (.head _)).1) gD
  have hDL : D ≠ L := by obtain ⟨o, _, _, g, _⟩ := F.ns; exact hne _ _ g
  have N₁' : News s₀ L h₁' [(D, lst ws ep), (L + 2, o2'), (L + 1, o1)] := fun p hp => by
    rcases List.mem_cons.mp hp with e | hp
    · rw [e]; exact ⟨gD', hDL, none_of F.keep nD⟩
    · exact N₁ p hp
  have W₁ := wd_at W' F₁ l₁
  have hlo : 0 < n₀ := W'.pos
  have hn8 : xs.length ≤ sizeLine := by rw [sizeLine_eq]; omega
  refine st_asgCompV (cl := [(Str.ofString "plain", L + 1), (Str.ofString "above", L + 2)]) (k := xs.length) (It := ItS n₀ xs) (P0 := LV (SLn n₀ xs)) (fun i ys _ => IR i (tiesF xs) ys) (fun i v _ _ => ∃ t, v = .int (tiesF xs i) t) (fun i ys a b j l => j) F₁ N₁' rfl hn8 (pl F₁.keep l₁ (N₁' (L + 1, o1) (.tail _ (.tail _ (.head _)))).1 rfl rfl rfl) (fun v h' n' k l p => src_strs hh p) IR.nil
    (fun i v C m h' n' k l hi hv hn hm => ?_) (fun i ys y h' n' hi l j ⟨t, e⟩ => e ▸ j.snoc) ?_ rfl rfl (fun y hy => by revert y; decide) rfl (fun y hy => by revert y; decide) rfl (fun _ => rfl) rfl rfl
  · obtain ⟨x, t, hx, rfl, t1, t2⟩ := hv
    have W₂ := W₁.keeps k l
    have eg : xs.getD i (Str.ofString "") = x := by rw [List.getD_eq_getElem?_getD, hx]; rfl
    have px : IsS x (.str x t) h' n' := ⟨t, rfl, t1, Nat.lt_of_lt_of_le t2 (Nat.le_trans l₁ l)⟩
    have c1' := k _ _ (N₁' (L + 1, o1) (.tail _ (.tail _ (.head _)))).1
    have c2' := k _ _ (N₁' (L + 2, o2') (.tail _ (.head _))).1
    have cD' := k _ _ (N₁' (D, lst ws ep) (.head _)).1
    have e0 : xs[(0 : Int).toNat]? = some (xs.getD 0 (Str.ofString "")) := getD_some (by omega)
    refine (c2 d_add W₂ (P₁ := IsI (((aboveF xs).countP (· == x) : Nat) : Int)) (P₂ := IsI (if (x == xs.getD 0 (Str.ofString "")) = true then 0 else 1)) (c2 d_countOf W₂ (P₁ := fun v h n => v = .ref D ∧ h.get? D = some (lst ws ep) ∧ n' ≤ n) (P₂ := Is (.str x t))
      (ev_cell rfl c2' d2' ⟨rfl, cD', Nat.le_refl _⟩ (fun _ _ _ _ _ ⟨a, b, c⟩ k l => ⟨a, k _ _ b, Nat.le_trans c l⟩) rfl rfl rfl) (ev_local hn hm rfl upIs rfl rfl rfl) (fun _ _ _ _ _ ⟨a, b, c⟩ k l => ⟨a, k _ _ b, Nat.le_trans c l⟩) (fun v₁ v₂ h' n'' W k' l' p1 p2 => by
        obtain ⟨rfl, g, l2⟩ := p1
        cases p2
        exact countOf_ev W (r'.le (by decide)) t1 (Nat.lt_of_lt_of_le t2 (Nat.le_trans l₁ (Nat.le_trans l l'))) ((fl.up (Nat.le_trans l l')).cnt g hlo t2)))
      (ev_ifExp (c := x == xs.getD 0 (Str.ofString "")) (ev_isCmp (ev_local hn hm px upS rfl rfl rfl) (ev_itemS (xs := xs) (k := 0) ((pl (stays_trans F₁.keep k) (Nat.le_trans l₁ l) c1' rfl rfl rfl).post fun v h n _ l' p => p.slr (Nat.le_trans (Nat.le_trans l₁ l) l')) ev_int (by decide) (by decide) e0 (fun _ _ => rfl)) upS (fun a b h' n' _ _ pa pb => cmp_eqS pa pb) rfl)
        (fun e => by rw [if_pos e]; exact ev_int) (fun e => by rw [if_neg (ne_true_of_eq_false e)]; exact ev_int)) upI (fun v₁ v₂ h' n' W k l p1 p2 => add_ev W (r'.le (by decide)) p1 p2)).post fun v h n _ _ p => ?_
    unfold tiesF
    rw [eg]
    exact p
  intro TD ys et h₂ n₂ l₂ F₂ N₂ ne₂ ir
  have l₂' := Nat.le_trans l₁ l₂
  refine st_asgN (o := fun _ => default) F₂ N₂ rfl (ev_list ev_args0 upIs (fun vs _ _ e => by cases e; exact Nat.zero_le _)) ?_ rfl rfl rfl
  rintro _ h₃ h₃' n₃ st₃ l₃ ⟨T, _, rfl, gT, nT, rfl⟩ kp₃ F₃ N₃ nw₃
  obtain ⟨N₃, ne₃⟩ := nw₃ T _ gT nT
  have l₃' : n₀ ≤ n₃ + 1 := Nat.le_trans l₂' (Nat.le_succ_of_le l₃)
  generalize hown : ([(TD, lst ys et), (D, lst ws ep), (L + 2, o2'), (L + 1, o1)] : List (Addr × Obj)) = own
  have m1 : (TD, lst ys et) ∈ own := hown ▸ .head _
  have m2 : (D, lst ws ep) ∈ own := hown ▸ .tail _ (.head _)
  have m3 : (L + 2, o2') ∈ own := hown ▸ .tail _ (.tail _ (.head _))
  have m4 : (L + 1, o1) ∈ own := hown ▸ .tail _ (.tail _ (.tail _ (.head _)))
  replace N₃ : News s₀ L h₃' ((T, lst [] 0) :: own) := hown ▸ N₃
  replace ne₃ : ∀ q ∈ own, q.1 ≠ T := hown ▸ ne₃
  clear hown
  have W₃ := wd_at W' F₃ l₃'
  have lenE : ∀ {env : Env} {h' : Heap} {n' : Nat} {p1 p2 p3 : Pos}, s₀.StaysIn h' → n₀ ≤ n' → h'.get? (L + 1) = some o1 → env.cells.lookup (Str.ofString "plain") = some (L + 1) → env.scope.kind = .function → env.kindOf (Str.ofString "plain") = some .cell → env.kindOf (Str.ofString "len") = some .globalImplicit → env.globals = mainGlobals → env.builtins = builtinsNs → starEach [.Name (Str.ofString "plain") p2] env = [(false, eval (.Name (Str.ofString "plain") p2) env)] →
      Ev w A' h' n' (eval (.Call (.Name (Str.ofString "len") p1) [.Name (Str.ofString "plain") p2] [] p3) env) (IsI (xs.length : Int)) :=
    fun k l g a b c d hg hb e => ev_len (ev_builtin (W'.keeps k l) (by with_unfolding_all rfl) boot_len (by decide) b d hg hb (by decide)) (pl k l g a b c) (fun v h' n' _ _ ⟨D, vs, ep, e, g, r⟩ => ⟨D, vs, ep, e, g, SL.len r⟩) hn8 e
  refine st_forR (a := 0) (k := xs.length) (nw := [(T, lst [] 0)]) (own := own) (fun i tk m nw => ∃ (rows : List (Addr × Obj)) (ep : Nat), nw = (T, lst (rows.map fun p => Value.ref p.1) ep) :: rows ∧ (∀ p ∈ rows, p.1 ≠ T) ∧ rows.Pairwise (fun a b : Addr × Obj => a.1 ≠ b.1) ∧ rows.length = i ∧ (∀ (j : Nat) (p : Addr × Obj), rows[j]? = some p → ∃ vs ep, p.2 = lst vs ep ∧ IR xs.length (undoF xs j) vs) ∧ m (Str.ofString "table") = some (.ref T) ∧ m (Str.ofString "ties") = some (.ref TD))
    (fun _ _ _ _ _ j _ => j) F₃ N₃ (Dj.cons (fun _ hp => nomatch hp) ne₃) rfl hh (by rw [Nat.zero_add]; exact ev_range1 (ev_bi W₃ boot_range) (lenE F₃.keep l₃' (N₃ _ (.tail _ m4)).1 rfl rfl rfl rfl rfl rfl rfl) rfl) (by omega)
    ⟨[], 0, rfl, (fun _ hp => nomatch hp), .nil, rfl, (fun j p hp => by simp at hp), rfl, rfl⟩ ?_ ?_ rfl rfl (fun _ => rfl)
  · rintro I i t m₁ _ oI ha na la hi ⟨rows, er, rfl, b1, b2, b3, b4, b5, b6⟩ dj Fa Na
    have la' := Nat.le_trans l₃' la
    refine st_asgN (o := fun _ => default) Fa Na rfl (ev_list ev_args0 upIs (fun vs _ _ e => by cases e; exact Nat.zero_le _)) ?_ rfl rfl rfl
    rintro _ hb hb' nb stb lb ⟨R, _, rfl, gR, nR, rfl⟩ kpb Fb Nb nwb
    obtain ⟨Nb, neb⟩ := nwb R _ gR nR
    have lb' : n₀ ≤ nb + 1 := Nat.le_trans la' (Nat.le_succ_of_le lb)
    have Wb := wd_at W' Fb lb'
    have mo : ∀ p ∈ own, p ∈ ((T, lst (rows.map fun p => Value.ref p.1) er) :: rows) ++ (own ++ [(I, oI)]) := fun p hp => List.mem_append_right _ (List.mem_append_left _ hp)
    refine st_forR (a := 0) (k := xs.length) (nw := [(R, lst [] 0)]) (own := ((T, lst (rows.map fun p => Value.ref p.1) er) :: rows) ++ (own ++ [(I, oI)])) (fun j tk m nw => ∃ vs ep, nw = [(R, lst vs ep)] ∧ IR j (undoF xs i) vs ∧ m (Str.ofString "table") = some (.ref T) ∧ m (Str.ofString "ties") = some (.ref TD) ∧ m (Str.ofString "row") = some (.ref R) ∧ m (Str.ofString "i") = some (.int (i : Int) t))
      (fun _ _ _ _ _ j _ => j) Fb Nb (Dj.cons (fun _ hp => nomatch hp) neb) rfl hh (by rw [Nat.zero_add]; exact ev_range1 (ev_bi Wb boot_range) (lenE Fb.keep lb' (Nb _ (.tail _ (mo _ m4))).1 rfl rfl rfl rfl rfl rfl rfl) rfl) (by omega)
      ⟨[], 0, rfl, IR.nil, Eq.trans (by rfl) b5, Eq.trans (by rfl) b6, rfl, by show some _ = _; rw [Nat.zero_add]⟩ ?_ ?_ rfl rfl (fun _ => rfl)
    · rintro I2 j u m₂ _ oJ hc nc lc hj ⟨vs, ev, rfl, rv, e1, e2, e3, e4⟩ djc Fc Nc
      rw [Nat.zero_add] at Fc
      have lc' := Nat.le_trans lb' lc
      have mo' : ∀ p ∈ own, p ∈ [(R, lst vs ev)] ++ ((((T, lst (rows.map fun p => Value.ref p.1) er) :: rows) ++ (own ++ [(I, oI)])) ++ [(I2, oJ)]) := fun p hp => List.mem_append_right _ (List.mem_append_left _ (mo p hp))
      have ab : ∀ {env : Env} {pos : Pos} {h' : Heap} {n' : Nat}, h'.get? (L + 2) = some o2' → h'.get? D = some (lst ws ep) → n₁ ≤ n' → env.cells.lookup (Str.ofString "above") = some (L + 2) → env.scope.kind = .function → env.kindOf (Str.ofString "above") = some .cell → Ev w A' h' n' (eval (.Name (Str.ofString "above") pos) env) (LV (SLR (aboveF xs))) :=
        fun g g' l a b c => ev_cell a g d2' ⟨D, ws, ep, rfl, g', (fl.up l).sl hlo⟩ (upLV upSLR) b c rfl
      have la1 : n₁ ≤ nc := Nat.le_trans (Nat.le_trans l₂ (Nat.le_succ_of_le l₃)) (Nat.le_trans la (Nat.le_trans (Nat.le_succ_of_le lb) lc))
      have lab : (aboveF xs).length = xs.length - 1 := by unfold aboveF; simp
      have iI : ∀ h' n', IsI (i : Int) (.int (i : Int) t) h' n' := fun _ _ => ⟨t, rfl⟩
      have jI : ∀ h' n', IsI (j : Int) (.int (j : Int) u) h' n' := fun _ _ => ⟨u, rfl⟩
      have Wc := wd_at W' Fc lc'
      refine st_asgV (P := IsB (tiedF xs i j)) Fc Nc rfl ?_ ufB ?_ rfl rfl rfl
      · have aE := @ab
        have g2 := (Nc _ (mo' _ m3)).1
        have gD' := (Nc _ (mo' _ m2)).1
        have pE := (Nc _ (mo' _ m4)).1
        exact ev_orB (half_ev (ab g2 gD' la1 rfl rfl rfl) ((pl Fc.keep lc' pE rfl rfl rfl).post fun v h n _ l p => p.slr (Nat.le_trans lc' l)) (fun p => lI Fc (iI _ _) (Eq.trans (by rfl) e4)) (lI Fc (jI _ _)) (by omega) (by omega) (by omega) (by omega))
          (fun _ => half_ev (ab g2 gD' la1 rfl rfl rfl) ((pl Fc.keep lc' pE rfl rfl rfl).post fun v h n _ l p => p.slr (Nat.le_trans lc' l)) (fun p => lI Fc (jI _ _)) (lI Fc (iI _ _) (Eq.trans (by rfl) e4)) (by omega) (by omega) (by omega) (by omega))
      intro vt hd nd ld pt Fd Nd
      have ld' := Nat.le_trans lc' ld
      have Wd' := wd_at W' Fd ld'
      cases pt
      refine st_asgV (P := IsI (tieF xs i j)) Fd Nd rfl ?_ ufI ?_ rfl rfl rfl
      · unfold tieF
        refine ev_ifExp (ev_isCmp (lI Fd (iI _ _) (Eq.trans (by rfl) e4)) (lI Fd (jI _ _)) upI (fun a b h' n' _ _ pa pb => cmp_eqI pa pb) rfl) (fun e => ?_) fun e => ?_
        · rw [if_pos e]
          exact c1 d_neg Wd' (ev_itemI (k := xs.length) (f := tiesF xs) ((lV Fd (Eq.trans (by rfl) e2)).post fun v h' n' k l e => by cases e; exact ⟨TD, ys, et, rfl, k _ _ (Nd _ (mo' _ m1)).1, ir⟩) (lI Fd (iI _ _) (Eq.trans (by rfl) e4)) hi (by omega) (fun _ _ => rfl)) (fun v h' n' W k l p => neg_ev W (r'.le (by decide)) p)
        · rw [if_neg (ne_true_of_eq_false e)]
          refine ev_ifExp (ev_isPlain (P := Is (.bool (tiedF xs i j))) (lV Fd) (fun v h' n' k l e => truthyBs e) rfl) (fun e => ?_) fun e => ?_
          · rw [if_pos e]; exact ev_int
          · rw [if_neg (ne_true_of_eq_false e)]; exact ev_int
      intro ve he ne le pe Fe Ne
      have le' := Nat.le_trans ld' le
      have We := wd_at W' Fe le'
      have hti := tiesF_bound xs i h8
      have hg := (Ne _ (mo' _ m1)).1
      have ml : ∀ {a b : Int} {v₁ v₂ : Value} {h' : Heap} {n' : Nat}, a.natAbs < 1073741824 → Wd w h' n' → IsI a v₁ h' n' → IsI b v₂ h' n' → Ev w A' h' n' (call (.ref 162) [v₁, v₂]) (IsI (a * b)) := fun hm W p1 p2 => mul_ev W (r'.le (by decide)) p1 p2 hm
      have sb : ∀ {a b : Int} {v₁ v₂ : Value} {h' : Heap} {n' : Nat}, Wd w h' n' → IsI a v₁ h' n' → IsI b v₂ h' n' → Ev w A' h' n' (call (.ref 176) [v₁, v₂]) (IsI (a - b)) := fun W p1 p2 => sub_ev W (r'.le (by decide)) p1 p2
      refine st_append (vs := vs) (ep := ev) (P := IsI (undoF xs i j)) (news' := fun v => [(R, lst (vs ++ [v]) (ev + 1))] ++ ((((T, lst (rows.map fun p => Value.ref p.1) er) :: rows) ++ (own ++ [(I, oI)])) ++ [(I2, oJ)])) Fe Ne rfl (Eq.trans (by rfl) e3) rfl rfl
        (c2 d_add We (c2 d_mul We (ev_subI (lenE Fe.keep le' (Ne _ (mo' _ m4)).1 rfl rfl rfl rfl rfl rfl rfl) ev_int) (lI Fe pe) upI (fun v₁ v₂ h' n' W k l p1 p2 => ml (by omega) W p1 p2))
          (c2 d_mul We (c2 d_sub We ev_int (ev_itemI (k := xs.length) (f := tiesF xs) (i := i) (ev_LV (lV Fe (Eq.trans (by rfl) e2)) hg ir) (lI Fe (iI _ _) (Eq.trans (by rfl) e4)) hi (by omega) (fun _ _ => rfl)) upI (fun v₁ v₂ h' n' W k l p1 p2 => sb W p1 p2))
            (c2 d_sub We ev_int (ev_itemI (k := xs.length) (f := tiesF xs) (i := j) (ev_LV (lV Fe (Eq.trans (by rfl) e2)) hg ir) (lI Fe (jI _ _)) hj (by omega) (fun _ _ => rfl)) upI (fun v₁ v₂ h' n' W k l p1 p2 => sb W p1 p2)) upI (fun v₁ v₂ h' n' W k l p1 p2 => ml hti W p1 p2))
          upI (fun v₁ v₂ h' n' W k l p1 p2 => add_ev W (r'.le (by decide)) p1 p2)) (by rw [rv.1, sizeLine_eq]; omega) (fun v => .head fun p hp c => djc _ (.head _) p hp c.symm) ?_ (by decide) rfl rfl rfl rfl
      rintro _ hf hf' nf lf stf ⟨z, rfl⟩ kpf Ff Nf
      exact st_nil ⟨hf', nf, _, [(R, lst (vs ++ [.int (undoF xs i j) z]) (ev + 1))], rfl, Ff, Nf, Dj.cons (fun _ hp => nomatch hp) fun q hq c => djc _ (.head _) q hq c.symm, _, ev + 1, rfl, rv.snoc, Eq.trans (by rfl) e1, Eq.trans (by rfl) e2, Eq.trans (by rfl) e3, Eq.trans (by rfl) e4⟩
    · rintro m₂ _ hc nc lc ⟨vs, ev, rfl, rv, e1, e2, e3, e4⟩ Fc Nc djc
      have lc' := Nat.le_trans lb' lc
      refine st_append (vs := rows.map fun p => Value.ref p.1) (ep := er) (P := Is (.ref R)) (news' := fun v => (T, lst ((rows.map fun p => Value.ref p.1) ++ [v]) (er + 1)) :: ((rows ++ [(R, lst vs ev)]) ++ (own ++ [(I, oI)]))) Fc (news_sub Nc (nw' := (T, lst (rows.map fun p => Value.ref p.1) er) :: ((rows ++ [(R, lst vs ev)]) ++ (own ++ [(I, oI)]))) fun p hp => ?_) rfl e1 rfl rfl (lV Fc e3) (by rw [List.length_map, b3]; omega) (fun v => .head fun p hp => ?_) ?_ (by decide) rfl rfl rfl rfl
      · simp only [List.mem_cons, List.mem_append, List.not_mem_nil, or_false] at hp ⊢
        rcases hp with h | ⟨h | h⟩ | h | h <;> simp [h]
      · rcases List.mem_append.mp hp with hp | hp
        · rcases List.mem_append.mp hp with hp | hp
          · exact b1 p hp
          · rw [List.mem_singleton.mp hp]; exact fun c => neb _ (List.mem_append_left _ (.head _)) c.symm
        · exact fun c => dj _ (.head _) p hp c.symm
      · rintro _ hd hd' nd ld std rfl kpd Fd Nd
        refine st_nil ⟨hd', nd, _, (T, lst ((rows ++ [(R, lst vs ev)]).map fun p => Value.ref p.1) (er + 1)) :: (rows ++ [(R, lst vs ev)]), rfl, Fd, ?_, ?_, rows ++ [(R, lst vs ev)], er + 1, rfl, ?_, ?_, by simp [b3], ?_, e1, e2⟩
        · rw [List.map_append]; exact Nd
        · refine Dj.cons (fun p hp q hq => ?_) fun q hq c => dj _ (.head _) q hq c.symm
          rcases List.mem_append.mp hp with hp | hp
          · exact dj p (.tail _ hp) q hq
          · rw [List.mem_singleton.mp hp]; exact fun c => neb q (List.mem_append_right _ hq) c.symm
        · intro p hp
          rcases List.mem_append.mp hp with hp | hp
          · exact b1 p hp
          · rw [List.mem_singleton.mp hp]; exact fun c => neb _ (List.mem_append_left _ (.head _)) c.symm
        · exact List.pairwise_append.mpr ⟨b2, List.pairwise_singleton _ _, fun p hp q hq => by rw [List.mem_singleton.mp hq]; exact neb p (List.mem_append_left _ (.tail _ hp))⟩
        · intro j p hp
          by_cases hj : j < rows.length
          · exact b4 j p (by rwa [List.getElem?_append_left hj] at hp)
          · obtain ⟨hlt, _⟩ := List.getElem?_eq_some_iff.mp hp
            obtain rfl : j = rows.length := by simp at hlt; omega
            rw [List.getElem?_append_right (Nat.le_refl _), Nat.sub_self] at hp
            obtain rfl : (R, lst vs ev) = p := by simpa using hp
            exact ⟨vs, ev, rfl, by rw [b3]; exact rv⟩
  · rintro m₁ _ ha na la ⟨rows, er, rfl, b1, b2, b3, b4, b5, b6⟩ Fa Na dj
    exact st_ret (lV Fa b5) fun v h' tk st' tl' e => by
      cases e
      exact q _ h' tk (stays_trans Fa.keep st') (Nat.le_trans l₃' (Nat.le_trans la tl')) ⟨T, _, rfl, Tab.rows (nw := rows) (tk := 0) b3 b1 b2 b4 (.head _) (fun p hp => .tail _ hp), fun p hp => ⟨st' _ _ (Na p (List.mem_append_left _ hp)).1, none_of st (Na p (List.mem_append_left _ hp)).2.2⟩⟩
end

section
variable {prog : Program} {w : World} {A : Around} {E : Value → Shared → Prop} {s : Shared}
theorem mul_listE {l : Addr} {items : Array Value} {k : Nat} {x : Int} {u : Tok} {Q : Value → Shared → Prop} (hl : s.heap.get? l = some { cls := .type "list", dict := none, data := .seq items k, slots := #[] })
    (hlo : -(2 ^ 63 : Int) ≤ x) (hhi : x < 2 ^ 63) (hsz : items.size * x.toNat ≤ 2 ^ 24)
    (h : Q (.ref s.heap.objs.size) { s with heap := s.heap.push { cls := .type "list", data := .seq (List.foldl (fun x1 x2 => x1 ++ x2) #[] (List.replicate (if items.isEmpty = true then 0 else x.toNat) items)) } }) :
    wpAny (model prog w) A (binaryOp .Mult (.ref l) (.int x u)) Q E s :=
  wpAny_binaryOp_repeat_ref (T := "list") (U := "int") (by decide) ⟨_, hl, rfl⟩ (fun s' => typeIs_int s' x u) noFill_list_mul F.fills_int_mul F.slot_int_rmul repeat_list F.slot_int_index.lookup
    (call_meets F.slot_int_rmul (typeIs_int s x u) F.entry_int_rmul (F.args_int_rmul_2 _ _) (int___rmul___int_list x u l items k)
      ⟨hl, rfl, ⟨_, hl, rfl⟩, call_meets F.slot_list_mul ⟨_, hl, rfl⟩ F.entry_list_mul (F.args_list_mul_2 _ _)
        (AutoListH.list___mul___list_int_3 l items k x u (by simp [Builtin.List.listFitsIndex]; omega) (by omega) (by simp [Builtin.List.listTooLong, sizeLine]; omega))
        ⟨hl, h⟩⟩)
end
theorem foldl_one (v : Value) : ∀ (n : Nat) (acc : Array Value), List.foldl (fun x1 x2 => x1 ++ x2) acc (List.replicate n #[v]) = acc ++ (List.replicate n v).toArray
  | 0, acc => by simp
  | n + 1, acc => by rw [List.replicate_succ, List.foldl_cons, foldl_one v n]; apply Array.toList_inj.mp; simp [List.replicate_succ]
section
variable {w : World} {A : Around} {h : Heap} {n : Nat} {env : Env}
/-- [0] * n -/
theorem ev_zeros {p1 p2 pos : Pos} {k0 : Nat} {e : Expr} {k : Nat} (h1 : Ev w A h n (eval e env) (IsI (k : Int))) (hk : k ≤ 1000) (he : starEach [.Constant (.int 0) k0 p1] env = [(false, eval (.Constant (.int 0) k0 p1) env)]) : Ev w A h n (eval (.BinOp (.List [.Constant (.int 0) k0 p1] p2) .Mult e pos) env) (NewR h (fun vs _ => IR k (fun _ => 0) vs)) :=
  ev_bin (P₁ := fun v h _ => ∃ D t, v = .ref D ∧ h.get? D = some (lst [.int 0 t] 0)) ((ev_list (R := fun vs _ _ => ∃ t, vs = [.int 0 t]) ((ev_args1 ev_int he).post fun vs h' n' _ _ ⟨v, e, t, e'⟩ => ⟨t, by rw [e, e']⟩) (fun _ _ _ _ _ p _ _ => p) (fun vs h' n' ⟨t, e⟩ => by rw [e]; exact (by decide : 1 ≤ sizeLine))).post fun v h' n' _ _ ⟨D, vs, e, g, _, t, e'⟩ => ⟨D, t, e, e' ▸ g⟩)
    h1 (fun _ _ _ _ _ ⟨D, t, e, g⟩ k _ => ⟨D, t, e, k _ _ g⟩) fun a b h' n' k' l' ⟨D, t, e, g⟩ ⟨u, e'⟩ => by
      subst e e'
      intro s Q E st tl q
      refine mul_listE (st _ _ g) (by omega) (by omega) (by show 1 * ((k : Int)).toNat ≤ 2 ^ 24; omega) ?_
      have e : List.foldl (fun x1 x2 => x1 ++ x2) #[] (List.replicate (if #[Value.int 0 t].isEmpty = true then 0 else ((k : Int)).toNat) #[Value.int 0 t]) = (List.replicate k (Value.int 0 t)).toArray := by
        rw [if_neg (by simp), Int.toNat_natCast, foldl_one]; simp
      show Q _ { s with heap := s.heap.push { cls := .type "list", data := .seq (List.foldl (fun x1 x2 => x1 ++ x2) #[] (List.replicate (if #[Value.int 0 t].isEmpty = true then 0 else ((k : Int)).toNat) #[Value.int 0 t])) } }
      rw [e]
      exact q _ _ s.toks (push_stays _ _) (Nat.le_refl _) ⟨s.heap.objs.size, List.replicate k (.int 0 t), 0, rfl, Heap.get?_push_size _ rfl, none_of (stays_trans k' st) (fresh_none _), by simp, fun i hi => ⟨t, by simp [hi]⟩⟩
noncomputable def stepF (xs sp : List Str) (i j : Nat) : Int := (depthF (xs.getD i (Str.ofString "")) (xs.getD 0 (Str.ofString "")) + depthF (xs.getD j (Str.ofString "")) (xs.getD 0 (Str.ofString ""))) - 2 * depthF (commonF (sp.getD i (Str.ofString "")) (sp.getD j (Str.ofString ""))) (xs.getD 0 (Str.ofString ""))
def symF (f : Nat → Nat → Int) (a b : Nat) : Int := if b ≤ a then f a b else f b a
def Mst (f : Nat → Nat → Int) (i j a b : Nat) : Int := if (a < i ∧ b < i) ∨ (a = i ∧ b < j) ∨ (b = i ∧ a < j) then symF f a b else 0
theorem Mst_step {f : Nat → Nat → Int} {i j : Nat} (h : j ≤ i) (a b : Nat) : setM (setM (Mst f i j) i j (f i j)) j i (setM (Mst f i j) i j (f i j) i j) a b = Mst f i (j + 1) a b := by
  have e : setM (Mst f i j) i j (f i j) i j = f i j := by simp [setM]
  rw [e]
  unfold setM
  by_cases c1 : a = j ∧ b = i
  · rw [if_pos c1]; obtain ⟨rfl, rfl⟩ := c1
    unfold Mst; rw [if_pos (by omega)]; unfold symF
    by_cases c : b ≤ a
    · obtain rfl : a = b := by omega
      simp
    · rw [if_neg c]
  · rw [if_neg c1]
    by_cases c2 : a = i ∧ b = j
    · rw [if_pos c2]; obtain ⟨rfl, rfl⟩ := c2
      unfold Mst; rw [if_pos (by omega)]; unfold symF; rw [if_pos h]
    · rw [if_neg c2]; unfold Mst
      by_cases c : (a < i ∧ b < i) ∨ (a = i ∧ b < j) ∨ (b = i ∧ a < j)
      · rw [if_pos c, if_pos (by omega)]
      · rw [if_neg c, if_neg (by omega)]
structure MeetOk (a b top : Str) : Prop where
  sa : SplitOk a
  sb : SplitOk b
  hs : Txt.startswith b sSl = Txt.startswith a sSl
  pre : ∀ i, i < (lo2 (comps a) (comps b)).length → (lo2 (comps a) (comps b)).take i = (hi2 (comps a) (comps b)).take i → i < (hi2 (comps a) (comps b)).length
  ok : JoinOk sSl (comX a b) = true
  z : (Txt.join sSl (comX a b)).length ≤ 100000
  z2 : (commonF a b).length ≤ 100000
theorem d_steps : IsDef w "_law_steps" 209 := ⟨by with_unfolding_all rfl, by with_unfolding_all rfl⟩
set_option maxHeartbeats 2000000 in
theorem steps_ev {xs sp : List Str} {v v2 : Value} (W : Wd w h n) (r : Rm 5 A) (pv : LV (SLR xs) v h n) (pv2 : LV (SLR sp) v2 h n) (h1 : 1 ≤ xs.length) (h8 : xs.length ≤ 8) (hsp : sp.length = xs.length) (hx : ∀ x ∈ xs, x.length ≤ 100000) (hm : ∀ i j, j ≤ i → i < xs.length → MeetOk (sp.getD i (Str.ofString "")) (sp.getD j (Str.ofString "")) (xs.getD 0 (Str.ofString ""))) :
    Ev w A h n (call (.ref 209) [v, v2]) (TabN h xs.length xs.length (symF (stepF xs sp))) := by
  refine' ev_defC (binds := [(Str.ofString "plain", v), (Str.ofString "spelled", v2)]) W ?ho ?hc r ?hb ?hkind ?hnd ?_ ?c2 ?c3 ?c4
  case ho => with_unfolding_all rfl
  case hc => with_unfolding_all rfl
  case hb => with_unfolding_all rfl
  case hkind =>
    intro n x hx
    rcases List.mem_cons.mp hx with e | hx
    · rw [e]; exact .inr ⟨rfl, rfl⟩
    · rw [List.mem_singleton.mp hx]; exact .inl rfl
  case hnd => decide
  case c2 => exact rfl
  case c3 => exact rfl
  case c4 => exact rfl
  intro A' L s₀ s h₀ n₀ Qf Ef cells r' st tl W' F N Y q
  obtain ⟨o1, rfl, d1⟩ := CellsAre.one (n := Str.ofString "plain") (c := L + 1) Y
  replace d1 : o1.data = .cell (some v) := d1
  have hh := r'.hh
  have hn8 : xs.length ≤ sizeLine := by rw [sizeLine_eq]; omega
  have pv₀ : LV (SLn n₀ xs) v s₀ n₀ := let ⟨D, vs, ep, e, g, r⟩ := pv; ⟨D, vs, ep, e, st _ _ g, r.up tl⟩
  have ps₀ : LV (SLn n₀ sp) v2 s₀ n₀ := let ⟨D, vs, ep, e, g, r⟩ := pv2; ⟨D, vs, ep, e, st _ _ g, r.up tl⟩
  have pl : ∀ {env : Env} {A : Around} {pos : Pos} {h' : Heap} {n' : Nat}, s₀.StaysIn h' → n₀ ≤ n' → h'.get? (L + 1) = some o1 → env.cells.lookup (Str.ofString "plain") = some (L + 1) → env.scope.kind = .function → env.kindOf (Str.ofString "plain") = some .cell → Ev w A h' n' (eval (.Name (Str.ofString "plain") pos) env) (LV (SLn n₀ xs)) :=
    fun k l g a b c => ev_cell a g d1 (upLV upSLn _ _ _ _ _ pv₀ k l) (upLV upSLn) b c rfl
  have p0 : ∀ {env : Env} {A : Around} {pos pos2 pos3 : Pos} {k0 : Nat} {h' : Heap} {n' : Nat}, s₀.StaysIn h' → n₀ ≤ n' → h'.get? (L + 1) = some o1 → env.cells.lookup (Str.ofString "plain") = some (L + 1) → env.scope.kind = .function → env.kindOf (Str.ofString "plain") = some .cell → Ev w A h' n' (eval (.Subscript (.Name (Str.ofString "plain") pos) (.Constant (.int 0) k0 pos2) pos3) env) (IsS (xs.getD 0 (Str.ofString ""))) :=
    fun k l g a b c => ev_itemS (xs := xs) ((pl k l g a b c).post fun v h n _ l' p => p.slr (Nat.le_trans l l')) ev_int (by decide) (by decide) (getD_some (by show 0 < _; omega)) (fun _ _ => rfl)
  have lenE : ∀ {env : Env} {A : Around} {h' : Heap} {n' : Nat} {p1 p2 p3 : Pos}, s₀.StaysIn h' → n₀ ≤ n' → h'.get? (L + 1) = some o1 → env.cells.lookup (Str.ofString "plain") = some (L + 1) → env.scope.kind = .function → env.kindOf (Str.ofString "plain") = some .cell → env.kindOf (Str.ofString "len") = some .globalImplicit → env.globals = mainGlobals → env.builtins = builtinsNs → starEach [.Name (Str.ofString "plain") p2] env = [(false, eval (.Name (Str.ofString "plain") p2) env)] →
      Ev w A h' n' (eval (.Call (.Name (Str.ofString "len") p1) [.Name (Str.ofString "plain") p2] [] p3) env) (IsI (xs.length : Int)) :=
    fun k l g a b c d hg hb e => ev_len (ev_builtin (W'.keeps k l) (by with_unfolding_all rfl) boot_len (by decide) b d hg hb (by decide)) (pl k l g a b c) (fun v h' n' _ _ ⟨D, vs, ep, e, g, r⟩ => ⟨D, vs, ep, e, g, SL.len r⟩) hn8 e
  have W₁ := wd_at W' F (Nat.le_refl _)
  refine st_asgCompV (cl := [(Str.ofString "plain", L + 1)]) (k := xs.length) (It := ItS n₀ xs) (P0 := LV (SLn n₀ xs)) (fun i ys _ => IR i (fun i => depthF (xs.getD i (Str.ofString "")) (xs.getD 0 (Str.ofString ""))) ys) (fun i v _ _ => ∃ t, v = .int (depthF (xs.getD i (Str.ofString "")) (xs.getD 0 (Str.ofString ""))) t) (fun i ys a b j l => j) F N rfl hn8 (pl F.keep (Nat.le_refl _) (N _ (.head _)).1 rfl rfl rfl) (fun v h' n' k l p => src_strs hh p) IR.nil
    (fun i v C m h' n' k l hi hv hn hm => ?_) (fun i ys y h' n' hi l j ⟨t, e⟩ => e ▸ j.snoc) ?_ rfl rfl (fun y hy => by revert y; decide) rfl (fun y hy => by revert y; decide) rfl (fun _ => rfl) rfl rfl
  · obtain ⟨x, t, hxi, rfl, t1, t2⟩ := hv
    have eg : xs.getD i (Str.ofString "") = x := by rw [List.getD_eq_getElem?_getD, hxi]; rfl
    rw [eg]
    exact c2 d_depth (W₁.keeps k l) (ev_local (P := IsS x) hn hm ⟨t, rfl, t1, Nat.lt_of_lt_of_le t2 l⟩ upS rfl rfl rfl) (p0 (stays_trans F.keep k) l (k _ _ (N _ (.head _)).1) rfl rfl rfl) upS (fun v₁ v₂ h' n' W k l p1 p2 => depth_ev W (r'.le (by decide)) p1 p2 (hx x (List.mem_of_getElem? hxi)))
  intro TD ys et h₂ n₂ l₂ F₂ N₂ ne₂ ir
  have W₂ := wd_at W' F₂ l₂
  refine st_asgCompR (cl := [(Str.ofString "plain", L + 1)]) (k := xs.length) (It := ItS n₀ xs) (P0 := LV (SLn n₀ xs)) (fun i vs _ => IR xs.length (Mst (stepF xs sp) 0 0 i) vs) (fun _ _ _ _ p _ => p) F₂ N₂ rfl hn8 (pl F₂.keep l₂ (N₂ _ (.tail _ (.head _))).1 rfl rfl rfl) (fun v h' n' k l p => src_strs hh p)
    (fun i v C m h' n' k l hi hv hn hm => ?_) ?_ rfl rfl (fun y hy => by revert y; decide) rfl (fun y hy => by revert y; decide) rfl (fun _ => rfl) rfl rfl
  · exact (ev_zeros (k := xs.length) (lenE (stays_trans F₂.keep k) (Nat.le_trans l₂ l) (k _ _ (N₂ _ (.tail _ (.head _))).1) rfl rfl rfl rfl rfl rfl rfl) (by omega) rfl).post fun v h' n' _ _ ⟨D, vs, ep, e, g, nn, r⟩ => ⟨D, vs, ep, e, g, nn, r.congr fun j _ => by simp [Mst]⟩
  intro T nw ep h₃ n₃ l₃ F₃ N₃ x1 x2 x3 x4 G
  have l₃' := Nat.le_trans l₂ l₃
  have W₃ := wd_at W' F₃ l₃'
  generalize hown : ([(TD, lst ys et), (L + 1, o1)] : List (Addr × Obj)) = own
  have m1 : (TD, lst ys et) ∈ own := hown ▸ .head _
  have m4 : (L + 1, o1) ∈ own := hown ▸ .tail _ (.head _)
  replace N₃ : News s₀ L h₃ (((T, lst (nw.map fun p => Value.ref p.1) ep) :: nw) ++ own) := hown ▸ N₃
  replace x1 : ∀ q ∈ own, q.1 ≠ T ∧ ∀ p ∈ nw, p.1 ≠ q.1 := hown ▸ x1
  clear hown
  have tab : Tab xs.length xs.length (Mst (stepF xs sp) 0 0) T ((T, lst (nw.map fun p => Value.ref p.1) ep) :: nw) := Tab.rows (tk := n₃) x4 x2 x3 G (.head _) (fun p hp => .tail _ hp)
  have dj : Dj ((T, lst (nw.map fun p => Value.ref p.1) ep) :: nw) own := Dj.cons (fun p hp q hq => (x1 q hq).2 p hp) fun q hq => (x1 q hq).1
  refine st_forR (a := 0) (k := xs.length) (own := own) (fun i tk m nw => Tab xs.length xs.length (Mst (stepF xs sp) i 0) T nw ∧ m (Str.ofString "table") = some (.ref T) ∧ m (Str.ofString "deep") = some (.ref TD) ∧ m (Str.ofString "spelled") = some v2)
    (fun _ _ _ _ _ j _ => j) F₃ N₃ dj rfl hh (by rw [Nat.zero_add]; exact ev_range1 (ev_bi W₃ boot_range) (lenE F₃.keep l₃' (N₃ _ (List.mem_append_right _ m4)).1 rfl rfl rfl rfl rfl rfl rfl) rfl) (by omega)
    ⟨tab, rfl, rfl, rfl⟩ ?_ ?_ rfl rfl (fun _ => rfl)
  · rintro I i t m₁ nw₁ oI ha na la hi ⟨tb, b1, b2, b3⟩ dja Fa Na
    rw [Nat.zero_add] at Fa
    have la' := Nat.le_trans l₃' la
    have Wa := wd_at W' Fa la'
    refine st_forR (a := 0) (k := i + 1) (own := own ++ [(I, oI)]) (fun j tk m nw => Tab xs.length xs.length (Mst (stepF xs sp) i j) T nw ∧ m (Str.ofString "table") = some (.ref T) ∧ m (Str.ofString "deep") = some (.ref TD) ∧ m (Str.ofString "spelled") = some v2 ∧ m (Str.ofString "i") = some (.int (i : Int) t))
      (fun _ _ _ _ _ j _ => j) Fa Na dja rfl hh (by rw [Nat.zero_add]; exact ev_range1 (b := i + 1) (ev_bi Wa boot_range) ((ev_addI (lI Fa (x := Str.ofString "i") (i := (i : Int)) ⟨t, rfl⟩) ev_int).post fun v h n _ _ p => p) rfl) (by omega)
      ⟨tb, Eq.trans (by rfl) b1, Eq.trans (by rfl) b2, Eq.trans (by rfl) b3, rfl⟩ ?_ ?_ rfl rfl (fun _ => rfl)
    · rintro I2 j u m₂ nw₂ oJ hc nc lc hj ⟨tb2, e1, e2, e3, e4⟩ djc Fc Nc
      rw [Nat.zero_add] at Fc
      have lc' := Nat.le_trans la' lc
      have Wc := wd_at W' Fc lc'
      have mo : ∀ {nw : List (Addr × Obj)}, ∀ p ∈ own, p ∈ nw ++ ((own ++ [(I, oI)]) ++ [(I2, oJ)]) := fun p hp => List.mem_append_right _ (List.mem_append_left _ (List.mem_append_left _ hp))
      have hji : j ≤ i := by omega
      have ok := hm i j hji hi
      have iI : ∀ h' n', IsI (i : Int) (.int (i : Int) t) h' n' := fun _ _ => ⟨t, rfl⟩
      have jI : ∀ h' n', IsI (j : Int) (.int (j : Int) u) h' n' := fun _ _ => ⟨u, rfl⟩
      have spL : LV (SLR sp) v2 hc nc := (upLV upSLn _ _ _ _ _ ps₀ Fc.keep lc').slr lc'
      refine st_asgV (P := IsI (depthF (commonF (sp.getD i (Str.ofString "")) (sp.getD j (Str.ofString ""))) (xs.getD 0 (Str.ofString "")))) Fc Nc rfl
        (c2 d_depth Wc (P₁ := IsS (commonF (sp.getD i (Str.ofString "")) (sp.getD j (Str.ofString "")))) (c1 d_common Wc (P₁ := LV (SLR [sp.getD i (Str.ofString ""), sp.getD j (Str.ofString "")])) (ev_listS (ev_slCons (ev_itemS (xs := sp) (k := (i : Int)) (ev_local Fc.ns (Eq.trans (by rfl) e3) spL (upLV upSLR) rfl rfl (by decide)) (lI Fc (iI _ _) (Eq.trans (by rfl) e4)) (by omega) (by omega) (by rw [Int.toNat_natCast]; exact getD_some (by omega)) (fun _ _ => rfl))
          (ev_slCons (ev_itemS (xs := sp) (k := (j : Int)) (ev_local Fc.ns (Eq.trans (by rfl) e3) spL (upLV upSLR) rfl rfl (by decide)) (lI Fc (jI _ _)) (by omega) (by omega) (by rw [Int.toNat_natCast]; exact getD_some (by omega)) (fun _ _ => rfl)) ev_slNil rfl) rfl) (by exact (by decide : 2 ≤ sizeLine)))
          (fun v h' n' W k l p => common_ev W (r'.le (by decide)) p ok.sa ok.sb ok.hs ok.pre ok.ok ok.z)) (p0 Fc.keep lc' (Nc _ (mo _ m4)).1 rfl rfl rfl) upS (fun v₁ v₂ h' n' W k l p1 p2 => depth_ev W (r'.le (by decide)) p1 p2 ok.z2)) ufI ?_ rfl rfl rfl
      intro vm hd nd ld pm Fd Nd
      have ld' := Nat.le_trans lc' ld
      have Wd' := wd_at W' Fd ld'
      have hg := (Nd _ (mo _ m1)).1
      refine st_setRow (N := xs.length) (k := xs.length) (i := i) (j := j) (M := Mst (stepF xs sp) i j) (z := stepF xs sp i j) (T := T) Fd Nd djc tb2 hi (by omega) (by omega) (by omega)
        (c2 d_sub Wd' (c2 d_add Wd' (ev_itemI (k := xs.length) (f := fun i => depthF (xs.getD i (Str.ofString "")) (xs.getD 0 (Str.ofString ""))) (i := i) (ev_LV (lV Fd (Eq.trans (by rfl) e2)) hg ir) (lI Fd (iI _ _) (Eq.trans (by rfl) e4)) hi (by omega) (fun _ _ => rfl)) (ev_itemI (k := xs.length) (f := fun i => depthF (xs.getD i (Str.ofString "")) (xs.getD 0 (Str.ofString ""))) (i := j) (ev_LV (lV Fd (Eq.trans (by rfl) e2)) hg ir) (lI Fd (jI _ _)) (by omega) (by omega) (fun _ _ => rfl)) upI
          (fun v₁ v₂ h' n' W k l p1 p2 => add_ev W (r'.le (by decide)) p1 p2)) (c2 d_mul Wd' ev_int (lI Fd pm) upI (fun v₁ v₂ h' n' W k l p1 p2 => mul_ev W (r'.le (by decide)) p1 p2 (by decide))) upI (fun v₁ v₂ h' n' W k l p1 p2 => sub_ev W (r'.le (by decide)) p1 p2))
        (lV Fd (Eq.trans (by rfl) e1)) (lI Fd (iI _ _) (Eq.trans (by rfl) e4)) (lI Fd (jI _ _)) ?_ (fun _ _ => rfl) rfl
      intro he ne nw₃ le Fe Ne dje tb3
      have le' := Nat.le_trans ld' le
      refine st_setRow (N := xs.length) (k := xs.length) (i := j) (j := i) (M := setM (Mst (stepF xs sp) i j) i j (stepF xs sp i j)) (z := setM (Mst (stepF xs sp) i j) i j (stepF xs sp i j) i j) (T := T) Fe Ne dje tb3 (by omega) hi (by omega) (by omega)
        (ev_cellT (N := xs.length) (k := xs.length) ((lV Fe (Eq.trans (by rfl) e1)).post fun v h' n' k l e => by cases e; exact upTabV _ _ _ _ _ (tb3.val (k := ne) Ne fun p hp => List.mem_append_left _ hp) k l) (lI Fe (iI _ _) (Eq.trans (by rfl) e4)) (lI Fe (jI _ _)) hi (by omega) (by omega) (by omega) (fun _ _ => rfl) (fun _ _ => rfl))
        (lV Fe (Eq.trans (by rfl) e1)) (lI Fe (jI _ _)) (lI Fe (iI _ _) (Eq.trans (by rfl) e4)) ?_ (fun _ _ => rfl) rfl
      intro hf nf nw₄ lf Ff Nf djf tb4
      exact st_nil ⟨hf, nf, _, nw₄, rfl, Ff, Nf, djf, tb4.congr (fun a b _ _ => Mst_step hji a b), Eq.trans (by rfl) e1, Eq.trans (by rfl) e2, Eq.trans (by rfl) e3, Eq.trans (by rfl) e4⟩
    · rintro m₂ nw₂ hc nc lc ⟨tb2, e1, e2, e3, e4⟩ Fc Nc djc
      exact st_nil ⟨hc, nc, _, nw₂, rfl, Fc, Nc, djc, tb2.congr (fun a b ha hb => by unfold Mst; congr 1; apply propext; omega), e1, e2, e3⟩
  · rintro m₁ nw₁ ha na la ⟨tb, b1, b2, b3⟩ Fa Na dja
    exact st_ret (lV Fa b1) fun v h' tk st' tl' e => by
      cases e
      exact q _ h' tk (stays_trans Fa.keep st') (Nat.le_trans l₃' (Nat.le_trans la tl')) ⟨T, nw₁, rfl, tb.congr (M' := symF (stepF xs sp)) fun a b ha hb => by unfold Mst; rw [if_pos (.inl ⟨ha, hb⟩)], fun p hp => ⟨st' _ _ (Na p (List.mem_append_left _ hp)).1, none_of st (Na p (List.mem_append_left _ hp)).2.2⟩⟩
end

def swp (i : Nat) : Nat := if i = 0 then 1 else if i = 1 then 0 else i
def stepB (M : Nat → Nat → Int) (k : Nat) (last : Int) (a b : Nat) : Int := (M k k * M a b - M a k * M k b).fdiv last
def part (M : Nat → Nat → Int) (k : Nat) (last : Int) (i j a b : Nat) : Int := if k < a ∧ k < b ∧ (a < i ∨ (a = i ∧ b < j)) then stepB M k last a b else M a b
def nextB (k : Nat) (M : Nat → Nat → Int) (last : Int) (a b : Nat) : Int := if k < a ∧ k < b then stepB M k last a b else M a b
def BL (T : Nat → Nat → Int) : Nat → (Nat → Nat → Int) × Int
  | 0 => (fun a b => T (swp a) b, 1)
  | k + 1 => (nextB k (BL T k).1 (BL T k).2, nextB k (BL T k).1 (BL T k).2 k k)
def Bst (T : Nat → Nat → Int) (k : Nat) : Nat → Nat → Int := (BL T k).1
def lastB (T : Nat → Nat → Int) (k : Nat) : Int := (BL T k).2
theorem Bst_succ (T : Nat → Nat → Int) (k a b : Nat) : Bst T (k + 1) a b = if k < a ∧ k < b then stepB (Bst T k) k (lastB T k) a b else Bst T k a b := rfl
theorem lastB_succ (T : Nat → Nat → Int) (k : Nat) : lastB T (k + 1) = Bst T (k + 1) k k := rfl
structure HeadsOk (n : Nat) (T : Nat → Nat → Int) : Prop where
  kk : ∀ k, k < n → (Bst T k k k).natAbs < 1073741824
  ne : ∀ k, k < n → lastB T k ≠ 0
  last : ∀ k, k < n → (lastB T k).natAbs < 1073741824
  ik : ∀ k i, k < n → i < n → (Bst T k i k).natAbs < 1073741824
theorem part_set {M : Nat → Nat → Int} {k i j : Nat} {last : Int} (hi : k < i) (hj : k < j) (a b : Nat) : setM (part M k last i j) i j (stepB M k last i j) a b = part M k last i (j + 1) a b := by
  unfold setM
  by_cases c : a = i ∧ b = j
  · rw [if_pos c]; obtain ⟨rfl, rfl⟩ := c; unfold part; rw [if_pos (by omega)]
  · rw [if_neg c]; unfold part
    by_cases c2 : k < a ∧ k < b ∧ (a < i ∨ (a = i ∧ b < j))
    · rw [if_pos c2, if_pos (by omega)]
    · rw [if_neg c2, if_neg (by omega)]
theorem part_same {M : Nat → Nat → Int} {k i j a b : Nat} {last : Int} (h : ¬ (k < a ∧ k < b ∧ (a < i ∨ (a = i ∧ b < j)))) : part M k last i j a b = M a b := by unfold part; rw [if_neg h]
section
variable {w : World} {A : Around} {h : Heap} {n : Nat} {env : Env}
/-- list(l) -/
theorem ev_listCopy {p pos : Pos} {e : Expr} {R : List Value → Nat → Prop} (h0 : Ev w A h n (eval (.Name (Str.ofString "list") p) env) (Is (.type "list"))) (h1 : Ev w A h n (eval e env) (fun v h' n' => ∃ D vs ep, v = .ref D ∧ h'.get? D = some (lst vs ep) ∧ R vs n')) (up : ∀ vs a b, R vs a → a ≤ b → R vs b) (hz : ∀ vs a, R vs a → vs.length ≤ sizeLine) (he : starEach [e] env = [(false, eval e env)]) :
    Ev w A h n (eval (.Call (.Name (Str.ofString "list") p) [e] [] pos) env) (NewR h R) := ev_callT1 h0 h1 (fun v h' n' k l ⟨D, vs, ep, e, g, r⟩ => by
  subst e
  intro s Q E st tl q
  exact call_list_seq D (.inl rfl) (st _ _ g) rfl rfl (fun h'' c' k' g' => q _ h'' s.toks k' (Nat.le_refl _) ⟨_, vs, c', rfl, g', none_of (stays_trans k st) (fresh_none _), up _ _ _ r tl⟩) (by rw [List.size_toArray]; exact hz _ _ r)) he
/-- two lists added -/
theorem ev_addL {l r : Expr} {pos : Pos} {R₁ R₂ : List Value → Prop} (h1 : Ev w A h n (eval l env) (LV fun vs _ _ => R₁ vs)) (h2 : Ev w A h n (eval r env) (LV fun vs _ _ => R₂ vs)) (hz : ∀ a b, R₁ a → R₂ b → a.length + b.length ≤ sizeLine) :
    Ev w A h n (eval (.BinOp l .Add r pos) env) (LV fun vs _ _ => ∃ a b, vs = a ++ b ∧ R₁ a ∧ R₂ b) :=
  ev_bin h1 h2 (upLV fun _ _ _ _ _ p _ _ => p) fun a b h' n' k l ⟨D, vs, ep, e, g, r⟩ ⟨D2, vs2, ep2, e2, g2, r2⟩ => by
    subst e e2
    intro s Q E st tl q
    refine PySem.P.add_list (items := vs.toArray) (items2 := vs2.toArray) (st _ _ g) (st _ _ g2) ?_ (by rw [List.size_toArray, List.size_toArray]; exact hz _ _ r r2)
    exact q _ _ s.toks (push_stays _ _) (Nat.le_refl _) ⟨_, vs ++ vs2, 0, rfl, by rw [List.append_toArray]; exact Heap.get?_push_size _ rfl, vs, vs2, rfl, r, r2⟩
/-- a comprehension of new lists -/
theorem ev_compR {elt iter : Expr} {x : Str} {px pos : Pos} {scope : Scope} {cl : List (Str × Addr)} {k : Nat} {It : Nat → Value → Prop} {P0 : Value → Heap → Nat → Prop} (G : Nat → List Value → Nat → Prop) (up : ∀ j vs a b, G j vs a → a ≤ b → G j vs b)
    (hk : k ≤ sizeLine) (he : Ev w A h n (eval iter env) P0) (src : ∀ v h' n', h.StaysIn h' → n ≤ n' → P0 v h' n' → Src w A v h' n' k It)
    (el : ∀ i v C m h' n', h.StaysIn h' → n ≤ n' → i < k → It i v → h'.Ns C m → m x = some v → Ev w A h' n' (eval elt (compEnvC scope cl C env)) (NewR h' (G i)))
    (hclos : closureFor scope env = pure cl) (hcell : ∀ y ∈ scope.names, y.2 ≠ .cell) (hkind : scope.kind = .function) (hnames : ∀ y ∈ scope.names, y.2 = .local → scope.names.lookup y.1 = some .local) (hx : scope.names.lookup x = some .local) (hs : ∀ x, foldedSetIterable iter env x = pure x) :
    Ev w A h n (eval (.ListComp elt [⟨.Name x px, iter, [], 0⟩] scope pos) env) (CompRes h (Rows G k)) :=
  ev_comp (Rows G) (fun _ _ _ _ _ r l => r.up up l) hk he src (fun _ _ => Rows.nil) (fun i v C m ys nw h' n' sk l hi hv r hn hm => row_step up r fun h2 n2 k2 l2 => el i v C m h2 n2 (stays_trans sk k2) (Nat.le_trans l l2) hi hv (hn.keeps k2) hm) hclos hcell hkind hnames hx hs
/-- an item of a list of objects -/
theorem ev_ref {value slice : Expr} {pos : Pos} {D : Addr} {as : List Addr} {ep k : Nat} (h1 : Ev w A h n (eval value env) (Is (.ref D))) (g : h.get? D = some (lst (as.map Value.ref) ep)) (h2 : Ev w A h n (eval slice env) (IsI (k : Int))) (hk : k < as.length) (hz : as.length < 1000) (hs : ∀ o i, subscripted slice false o i = operate [o, i] (getItem o i)) :
    Ev w A h n (eval (.Subscript value slice pos) env) (Is (.ref (as.getD k 0))) :=
  ev_item (R := fun ws _ _ => ws = as.map Value.ref) (k := (k : Int)) (h1.post fun v h' n' k' _ e => by cases e; exact ⟨D, _, ep, rfl, k' _ _ g, rfl⟩) (fun _ _ _ _ _ e _ _ => e) h2 (by omega) (by omega) (fun ws h' n' _ _ e => ⟨.ref (as.getD k 0), by rw [e]; simp [List.getD_eq_getElem?_getD, List.getElem?_eq_getElem hk], rfl⟩) hs
theorem d_heads : IsDef w "_law_heads" 214 := ⟨by with_unfolding_all rfl, by with_unfolding_all rfl⟩
def permA (as : List Addr) : List Addr := as.getD 1 0 :: as.getD 0 0 :: as.drop 2
theorem permA_get {as : List Addr} {i : Nat} (h2 : 2 ≤ as.length) (hi : i < as.length) : (permA as)[i]? = as[swp i]? := by
  unfold permA swp
  match i with
  | 0 => simp [List.getD_eq_getElem?_getD, List.getElem?_eq_getElem (show 1 < as.length by omega)]
  | 1 => simp [List.getD_eq_getElem?_getD, List.getElem?_eq_getElem (show 0 < as.length by omega)]
  | i + 2 => simp [Nat.add_comm]
set_option maxHeartbeats 2000000 in
theorem heads_ev {N : Nat} {T : Nat → Nat → Int} {v : Value} (W : Wd w h n) (r : Rm 3 A) (pv : TabV N N T v h n) (h2 : 2 ≤ N) (h8 : N ≤ 8) (ok : HeadsOk N T) : Ev w A h n (call (.ref 214) [v]) (LV (IRV N fun k => Bst T N k k)) := by
  refine' ev_defC (binds := [(Str.ofString "table", v)]) W ?ho ?hc r ?hb ?hkind ?hnd ?_ ?c2 ?c3 ?c4
  case ho => with_unfolding_all rfl
  case hc => with_unfolding_all rfl
  case hb => with_unfolding_all rfl
  case hkind => intro n x hx; rw [List.mem_singleton.mp hx]; exact .inl rfl
  case hnd => decide
  case c2 => exact rfl
  case c3 => exact rfl
  case c4 => exact rfl
  intro A' L s₀ s h₀ n₀ Qf Ef cells r' st tl W' F N' Y q
  obtain ⟨o1, rfl, d1⟩ := CellsAre.one (n := Str.ofString "rows") (c := L + 1) Y
  have hh := r'.hh
  obtain ⟨Ta, as, ep, rfl, gT, las, hrows⟩ := upTabV _ _ _ _ _ pv st tl
  have W₁ := wd_at W' F (Nat.le_refl _)
  have hz : N ≤ sizeLine := by rw [sizeLine_eq]; omega
  have gT₀ := F.keep _ _ gT
  have lN : as.length < 1000 := by omega
  refine st_asgC (own := []) (after := []) F N' rfl rfl d1 all0 all0 (P := CompRes h₀ (Rows (fun i vs _ => IR N (Bst T 0 i) vs) N)) (ev_compR (cl := []) (k := N) (It := fun i v => v = .ref (as.getD (swp i) 0)) (fun i vs _ => IR N (Bst T 0 i) vs) (fun _ _ _ _ p _ => p) hz
    (ev_addL (R₁ := fun vs => vs = [Value.ref (as.getD 1 0), .ref (as.getD 0 0)]) (R₂ := fun vs => vs = (as.drop 2).map Value.ref)
      ((ev_list (R := fun vs _ _ => vs = [Value.ref (as.getD 1 0), .ref (as.getD 0 0)]) ((ev_args2 (ev_ref (k := 1) (lV F) gT₀ ev_int (by omega) lN (fun _ _ => rfl)) (ev_ref (k := 0) (lV F) gT₀ ev_int (by omega) lN (fun _ _ => rfl)) upIs rfl rfl).post fun vs h' n' _ _ ⟨v1, v2, e, e1, e2⟩ => by rw [e, e1, e2]) (fun _ _ _ _ _ e _ _ => e) (fun vs _ _ e => by rw [e]; exact (by decide : 2 ≤ sizeLine))).post fun v h' n' _ _ ⟨D, vs, e, g, _, r⟩ => ⟨D, vs, 0, e, g, r⟩)
      ((ev_drop (R := fun vs _ _ => vs = as.map Value.ref) (R' := fun vs _ _ => vs = (as.drop 2).map Value.ref) (k := 2) ((lV F).post fun v h' n' k' _ e => by cases e; exact ⟨Ta, _, ep, rfl, k' _ _ gT₀, rfl⟩) ev_int (fun _ _ _ _ _ e _ _ => e) (fun vs h' n' e => by rw [e, List.length_map]; omega) (fun vs h' n' e => by rw [e, List.map_drop]) (fun _ _ _ _ _ e _ _ => e) (fun _ _ => rfl)).post fun v h' n' _ _ ⟨D, vs, e, g, _, r⟩ => ⟨D, vs, 0, e, g, r⟩)
      (fun a b e1 e2 => by rw [e1, e2]; simp; omega))
    (fun v h' n' k l ⟨D, vs, ep, e, g, a, b, e1, e2, e3⟩ => by
      subst e
      have e4 : vs = (permA as).map Value.ref := by rw [e1, e2, e3]; rfl
      have l4 : (permA as).length = N := by simp [permA]; omega
      rw [show N = vs.length from by rw [e4, List.length_map, l4]]
      refine (src_list hh g).mono fun i v hv => ?_
      rw [e4, List.getElem?_map] at hv
      have hi : i < as.length := by
        cases q : (permA as)[i]? with
        | none => rw [q] at hv; cases hv
        | some a => have := (List.getElem?_eq_some_iff.mp q).1; omega
      rw [permA_get (by omega) hi] at hv
      rw [List.getD_eq_getElem?_getD]
      cases q : as[swp i]? with
      | none => rw [q] at hv; cases hv
      | some a => rw [q] at hv; simpa using hv.symm)
    (fun i v C m h' n' k l hi hv hn hm => ?_) rfl (fun y hy => by revert y; decide) rfl (fun y hy => by revert y; decide) rfl (fun _ => rfl)) ?_ rfl rfl rfl
  · subst hv
    have hsw : swp i < as.length := by unfold swp; split; omega; split <;> omega
    have ha : as[swp i]? = some (as.getD (swp i) 0) := by rw [List.getD_eq_getElem?_getD, List.getElem?_eq_getElem hsw]; rfl
    obtain ⟨vs, e', g, rv⟩ := hrows _ _ ha
    exact ev_listCopy (R := fun vs _ => IR N (Bst T 0 i) vs) (ev_bi (W₁.keeps k l) boot_list) ((ev_local (P := Is _) hn hm rfl upIs rfl rfl rfl).post fun v h'' n'' k' _ e => by cases e; exact ⟨_, vs, e', rfl, k' _ _ (k _ _ (F.keep _ _ g)), rv⟩) (fun _ _ _ p _ => p) (fun vs _ r => by rw [r.1]; exact hz) rfl
  rintro _ h₁ h₁' n₁ o1' l₁ st₁ ⟨TD, ys, nw, er, rfl, gD, nD, hnw, pw_, ry⟩ kp₁ F₁ N₁ d1'
  have gc := (N' (L + 1, o1) (.head _)).1
  have gL : ∃ o, h₀.get? L = some o := by obtain ⟨o, _, _, g, _⟩ := F.ns; exact ⟨o, g⟩
  have ne1 : ∀ {a : Addr}, h₀.get? a = none → a ≠ L + 1 := fun e q => by rw [q, gc] at e; cases e
  have neL : ∀ {a : Addr}, h₀.get? a = none → a ≠ L := fun e q => by obtain ⟨o, g⟩ := gL; rw [q, g] at e; cases e
  have N₁' : News s₀ L h₁' (((TD, lst (nw.map fun p => Value.ref p.1) er) :: nw) ++ [(L + 1, o1')]) := fun p hp => by
    rcases List.mem_append.mp hp with hp | hp
    · rcases List.mem_cons.mp hp with e | hp
      · rw [e]; exact ⟨kp₁ _ _ (ne1 nD) (ry.1 ▸ gD), neL nD, none_of F.keep nD⟩
      · have := hnw p hp; exact ⟨kp₁ _ _ (ne1 this.2.1) this.1, neL this.2.1, none_of F.keep this.2.1⟩
    · exact N₁ p hp
  have tab : Tab N N (Bst T 0) TD ((TD, lst (nw.map fun p => Value.ref p.1) er) :: nw) := Tab.rows (tk := n₁) ry.2.1 (fun p hp => (hnw p hp).2.2) pw_ ry.2.2 (.head _) (fun p hp => .tail _ hp)
  have dj : Dj ((TD, lst (nw.map fun p => Value.ref p.1) er) :: nw) [(L + 1, o1')] := fun p hp q hq => by
    rw [List.mem_singleton.mp hq]
    rcases List.mem_cons.mp hp with e | hp
    · rw [e]; exact ne1 nD
    · exact ne1 (hnw p hp).2.1
  have rE : ∀ {env : Env} {A : Around} {h : Heap} {n : Nat} {pos : Pos}, h.get? (L + 1) = some o1' → env.cells.lookup (Str.ofString "rows") = some (L + 1) → env.scope.kind = .function → env.kindOf (Str.ofString "rows") = some .cell → Ev w A h n (eval (.Name (Str.ofString "rows") pos) env) (Is (.ref TD)) := fun g a b c => ev_cell a g d1' rfl upIs b c rfl
  have lenE : ∀ {env : Env} {A : Around} {h' : Heap} {n' : Nat} {p1 p2 p3 : Pos} {nw own : List (Addr × Obj)} {M : Nat → Nat → Int}, s₀.StaysIn h' → n₀ ≤ n' → News s₀ L h' (nw ++ own) → (L + 1, o1') ∈ own → Tab N N M TD nw → env.cells.lookup (Str.ofString "rows") = some (L + 1) → env.scope.kind = .function → env.kindOf (Str.ofString "rows") = some .cell → env.kindOf (Str.ofString "len") = some .globalImplicit → env.globals = mainGlobals → env.builtins = builtinsNs → starEach [.Name (Str.ofString "rows") p2] env = [(false, eval (.Name (Str.ofString "rows") p2) env)] →
      Ev w A h' n' (eval (.Call (.Name (Str.ofString "len") p1) [.Name (Str.ofString "rows") p2] [] p3) env) (IsI (N : Int)) :=
    fun k l Nx mc ⟨as, ep, e, la, _⟩ a b c d hg hb e' => ev_len (ev_builtin (W'.keeps k l) (by with_unfolding_all rfl) boot_len (by decide) b d hg hb (by decide)) (rE (Nx _ (List.mem_append_right _ mc)).1 a b c) (fun v h' n' k _ e2 => by cases e2; exact ⟨TD, _, ep, rfl, k _ _ (Nx _ (List.mem_append_left _ e)).1, by rw [List.length_map, la]⟩) hz e'
  refine st_asgV F₁ N₁' rfl ev_int ufI ?_ rfl rfl rfl
  intro vl h₂ n₂ l₂ pl₂ F₂ N₂
  have l₂' := Nat.le_trans l₁ l₂
  have W₂ := wd_at W' F₂ l₂'
  refine st_forR (a := 0) (k := N) (own := [(L + 1, o1')]) (fun k _ m nw => Tab N N (Bst T k) TD nw ∧ ∃ vl, m (Str.ofString "last") = some vl ∧ ∃ t, vl = .int (lastB T k) t) (fun _ _ _ _ _ j _ => j) F₂ N₂ dj rfl hh
    (by rw [Nat.zero_add]; exact ev_range1 (ev_bi W₂ boot_range) (lenE F₂.keep l₂' N₂ (.head _) tab rfl rfl rfl rfl rfl rfl rfl) rfl) (by omega) ⟨tab, vl, rfl, pl₂⟩ ?_ ?_ rfl rfl (fun _ => rfl)
  · rintro I k t m₁ nw₁ oI ha na la hk ⟨tb, vl, b1, tl, rfl⟩ dja Fa Na
    rw [Nat.zero_add] at Fa
    have la' := Nat.le_trans l₂' la
    have Wa := wd_at W' Fa la'
    have lt := ok.last k hk
    obtain ⟨d, hd⟩ : ∃ d, N = k + 1 + d := ⟨N - (k + 1), by omega⟩
    refine st_forR (a := k + 1) (k := d) (own := [(L + 1, o1')] ++ [(I, oI)]) (fun i' _ m nw => Tab N N (part (Bst T k) k (lastB T k) (k + 1 + i') (k + 1)) TD nw ∧ m (Str.ofString "last") = some (.int (lastB T k) tl) ∧ m (Str.ofString "k") = some (.int (k : Int) t)) (fun _ _ _ _ _ j _ => j) Fa Na dja rfl hh
      (by rw [← hd]; exact ev_range2 (a := k + 1) (b := N) (ev_bi Wa boot_range) ((ev_addI (lI Fa (x := Str.ofString "k") (i := (k : Int)) ⟨t, rfl⟩) ev_int).post fun v h n _ _ p => p) (lenE Fa.keep la' Na (List.mem_append_left _ (.head _)) tb rfl rfl rfl rfl rfl rfl rfl) rfl rfl) (by omega)
      ⟨tb.congr fun a b _ _ => (part_same (by omega)).symm, Eq.trans (by rfl) b1, rfl⟩ ?_ ?_ rfl rfl (fun _ => rfl)
    · rintro I2 i' t2 m₂ nw₂ o2 hb nb lb hi' ⟨tb2, e1, e2⟩ djb Fb Nb
      have lb' := Nat.le_trans la' lb
      have Wb := wd_at W' Fb lb'
      generalize hi : k + 1 + i' = i at Fb tb2
      refine st_forR (a := k + 1) (k := d) (own := ([(L + 1, o1')] ++ [(I, oI)]) ++ [(I2, o2)]) (fun j' _ m nw => Tab N N (part (Bst T k) k (lastB T k) i (k + 1 + j')) TD nw ∧ m (Str.ofString "last") = some (.int (lastB T k) tl) ∧ m (Str.ofString "k") = some (.int (k : Int) t) ∧ m (Str.ofString "i") = some (.int (i : Int) t2)) (fun _ _ _ _ _ j _ => j) Fb Nb djb rfl hh
        (by rw [← hd]; exact ev_range2 (a := k + 1) (b := N) (ev_bi Wb boot_range) ((ev_addI (lI Fb (x := Str.ofString "k") (i := (k : Int)) ⟨t, rfl⟩ (Eq.trans (by rfl) e2)) ev_int).post fun v h n _ _ p => p) (lenE Fb.keep lb' Nb (List.mem_append_left _ (List.mem_append_left _ (.head _))) tb2 rfl rfl rfl rfl rfl rfl rfl) rfl rfl) (by omega)
        ⟨tb2, Eq.trans (by rfl) e1, Eq.trans (by rfl) e2, rfl⟩ ?_ ?_ rfl rfl (fun _ => rfl)
      · rintro I3 j' t3 m₃ nw₃ o3 hc nc lc hj' ⟨tb3, f1, f2, f3⟩ djc Fc Nc
        have lc' := Nat.le_trans lb' lc
        have Wc := wd_at W' Fc lc'
        generalize hj : k + 1 + j' = j at Fc tb3
        have hiN : i < N := by omega
        have hjN : j < N := by omega
        have kI : ∀ h' n', IsI (k : Int) (.int (k : Int) t) h' n' := fun _ _ => ⟨t, rfl⟩
        have iI : ∀ h' n', IsI (i : Int) (.int (i : Int) t2) h' n' := fun _ _ => ⟨t2, rfl⟩
        have jI : ∀ h' n', IsI (j : Int) (.int (j : Int) t3) h' n' := fun _ _ => ⟨t3, rfl⟩
        have gc := (Nc _ (List.mem_append_right _ (List.mem_append_left _ (List.mem_append_left _ (List.mem_append_left _ (.head _)))))).1
        have tk := tb3.val (k := nc) Nc fun p hp => List.mem_append_left _ hp
        have p1 : part (Bst T k) k (lastB T k) i j k k = Bst T k k k := part_same (by omega)
        have p2 : part (Bst T k) k (lastB T k) i j i j = Bst T k i j := part_same (by omega)
        have p3 : part (Bst T k) k (lastB T k) i j i k = Bst T k i k := part_same (by omega)
        have p4 : part (Bst T k) k (lastB T k) i j k j = Bst T k k j := part_same (by omega)
        have k1 := ok.kk k hk
        have k2 := ok.ik k i hk hiN
        rw [← p1] at k1
        rw [← p3] at k2
        have cv : stepB (Bst T k) k (lastB T k) i j = (part (Bst T k) k (lastB T k) i j k k * part (Bst T k) k (lastB T k) i j i j - part (Bst T k) k (lastB T k) i j i k * part (Bst T k) k (lastB T k) i j k j).fdiv (lastB T k) := by unfold stepB; rw [p1, p2, p3, p4]
        generalize hP : part (Bst T k) k (lastB T k) i j = P at tb3 tk k1 k2 cv
        have rT : ∀ {env : Env} {pos : Pos}, env.cells.lookup (Str.ofString "rows") = some (L + 1) → env.scope.kind = .function → env.kindOf (Str.ofString "rows") = some .cell → Ev w A' hc nc (eval (.Name (Str.ofString "rows") pos) env) (TabV N N P) := fun a b c => (rE gc a b c).post fun v h' n' k' l e => by cases e; exact upTabV _ _ _ _ _ tk k' l
        refine st_asgV (P := IsI (P k k * P i j - P i k * P k j)) Fc Nc rfl (c2 d_sub Wc
          (c2 d_mul Wc (ev_cellT (rT rfl rfl rfl) (lI Fc (kI _ _) (Eq.trans (by rfl) f2)) (lI Fc (kI _ _) (Eq.trans (by rfl) f2)) hk hk (by omega) (by omega) (fun _ _ => rfl) (fun _ _ => rfl)) (ev_cellT (rT rfl rfl rfl) (lI Fc (iI _ _) (Eq.trans (by rfl) f3)) (lI Fc (jI _ _)) hiN hjN (by omega) (by omega) (fun _ _ => rfl) (fun _ _ => rfl)) upI (fun v₁ v₂ h' n' W k l p1 p2 => mul_ev W (r'.le (by decide)) p1 p2 k1))
          (c2 d_mul Wc (ev_cellT (rT rfl rfl rfl) (lI Fc (iI _ _) (Eq.trans (by rfl) f3)) (lI Fc (kI _ _) (Eq.trans (by rfl) f2)) hiN hk (by omega) (by omega) (fun _ _ => rfl) (fun _ _ => rfl)) (ev_cellT (rT rfl rfl rfl) (lI Fc (kI _ _) (Eq.trans (by rfl) f2)) (lI Fc (jI _ _)) hk hjN (by omega) (by omega) (fun _ _ => rfl) (fun _ _ => rfl)) upI (fun v₁ v₂ h' n' W k l p1 p2 => mul_ev W (r'.le (by decide)) p1 p2 k2))
          upI (fun v₁ v₂ h' n' W k l p1 p2 => sub_ev W (r'.le (by decide)) p1 p2)) ufI ?_ rfl rfl rfl
        intro vc hd nd ld pc Fd Nd
        have ld' := Nat.le_trans lc' ld
        have Wd' := wd_at W' Fd ld'
        have gd := (Nd _ (List.mem_append_right _ (List.mem_append_left _ (List.mem_append_left _ (List.mem_append_left _ (.head _)))))).1
        refine st_setRow (N := N) (k := N) (i := i) (j := j) (M := P) (z := stepB (Bst T k) k (lastB T k) i j) (T := TD) Fd Nd djc tb3 hiN hjN (by omega) (by omega) (by
          rw [cv]
          exact c2 d_floordiv Wd' (lI Fd pc) (lI Fd (i := lastB T k) ⟨tl, rfl⟩ (Eq.trans (by rfl) f1)) upI (fun v₁ v₂ h' n' W k l p1 p2 => floordiv_ev W (r'.le (by decide)) p1 p2 (ok.ne _ hk) lt)) (rE gd rfl rfl rfl) (lI Fd (iI _ _) (Eq.trans (by rfl) f3)) (lI Fd (jI _ _)) ?_ (fun _ _ => rfl) rfl
        intro he ne nw₄ le Fe Ne dje tb4
        exact st_nil ⟨he, ne, _, nw₄, rfl, Fe, Ne, dje, tb4.congr (fun a b _ _ => by rw [← hP, part_set (by omega) (by omega), ← hj, Nat.add_assoc]), Eq.trans (by rfl) f1, Eq.trans (by rfl) f2, Eq.trans (by rfl) f3⟩
      · rintro m₃ nw₃ hc nc lc ⟨tb3, f1, f2, f3⟩ Fc Nc djc
        refine st_nil ⟨hc, nc, _, nw₃, rfl, Fc, Nc, djc, tb3.congr fun a b ha hb => ?_, f1, f2⟩
        unfold part
        congr 1
        apply propext
        omega
    · rintro m₂ nw₂ hb nb lb ⟨tb2, e1, e2⟩ Fb Nb djb
      have lb' := Nat.le_trans la' lb
      have tb3 : Tab N N (Bst T (k + 1)) TD nw₂ := tb2.congr fun a b ha hb => by
        rw [Bst_succ]; unfold part
        congr 1
        apply propext
        omega
      have tk := tb3.val (k := nb) Nb fun p hp => List.mem_append_left _ hp
      have gc := (Nb _ (List.mem_append_right _ (List.mem_append_left _ (.head _)))).1
      refine st_asgV (P := IsI (lastB T (k + 1))) Fb Nb rfl (by
        rw [lastB_succ]
        exact ev_cellT (N := N) (k := N) ((rE gc rfl rfl rfl).post fun v h' n' k l e => by cases e; exact upTabV _ _ _ _ _ tk k l) (lI Fb (i := (k : Int)) ⟨t, rfl⟩ (Eq.trans (by rfl) e2)) (lI Fb (i := (k : Int)) ⟨t, rfl⟩ (Eq.trans (by rfl) e2)) hk hk (by omega) (by omega) (fun _ _ => rfl) (fun _ _ => rfl)) ufI ?_ rfl rfl rfl
      rintro _ hc nc lc ⟨tl2, rfl⟩ Fc Nc
      exact st_nil ⟨hc, nc, _, nw₂, rfl, Fc, Nc, djb, tb3, _, rfl, tl2, rfl⟩
  · rintro m₁ nw₁ ha na la ⟨tb, vl, b1, tl, rfl⟩ Fa Na dja
    have la' := Nat.le_trans l₂' la
    have Wa := wd_at W' Fa la'
    have gc := (Na _ (List.mem_append_right _ (.head _))).1
    have tk := tb.val (k := na) Na fun p hp => List.mem_append_left _ hp
    refine st_ret (ev_compV (cl := [(Str.ofString "rows", L + 1)]) (k := N) (It := fun i v => ∃ t, v = .int (i : Int) t) (fun i ys _ => IR i (fun k => Bst T N k k) ys) (fun i v _ _ => ∃ t, v = .int (Bst T N i i) t) (fun _ => true) (fun i ys a b j l => j) hz (ev_range1 (b := N) (ev_bi Wa boot_range) (lenE Fa.keep la' Na (.head _) tb rfl rfl rfl rfl rfl rfl rfl) rfl)
      (fun v h' n' k l ⟨r, t, u, x, e, hr⟩ => e ▸ src_range hh hr (small_one (by omega) (by omega) (by omega) (by omega)) (by rw [rangeSize_one]; split <;> omega)) IR.nil (fun i v C m h' n' k l hi hv hn hm => ifs0) (fun i v C m h' n' k l hi hv hn hm _ => ?_) (fun i ys y h' n' hi l _ j ⟨t, e⟩ => e ▸ j.snoc) (fun i ys n' hi l e => nomatch e) rfl (fun y hy => by revert y; decide) rfl (fun y hy => by revert y; decide) rfl (fun _ => rfl))
      fun v h' tk st' tl' ⟨D, vs, ep, e, g, _, j⟩ => q v h' tk (stays_trans Fa.keep st') (Nat.le_trans la' tl') ⟨D, vs, ep, e, g, j⟩
    obtain ⟨t, rfl⟩ := hv
    exact ev_cellT (N := N) (k := N) (M := Bst T N) ((rE (k _ _ gc) rfl rfl rfl).post fun v h' n' k' l' e => by cases e; exact upTabV _ _ _ _ _ tk (stays_trans k k') (Nat.le_trans l l')) (ev_local (P := IsI (i : Int)) hn hm ⟨t, rfl⟩ upI rfl rfl rfl) (ev_local (P := IsI (i : Int)) hn hm ⟨t, rfl⟩ upI rfl rfl rfl) hi hi (by omega) (by omega) (fun _ _ => rfl) (fun _ _ => rfl)
end

structure NormOk (x : Str) : Prop where
  len : x.length ≤ 1000
  ne : x.length ≠ 0
  root : rootOk x = true
  dd : ∀ c ∈ comps (restF x), c ≠ sDD
  res : (normF x).length ≠ 0
  num : (Txt.split (restF x) sSl).length ≤ 1001
  parts : (Builtin.Str.partsBetween (restF x) (Builtin.Str.occurrences (restF x) sSl 0 (restF x).length ((restF x).length + 1)) sSl.length).length ≤ sizeLine
  join : JoinOk sSl (comps (restF x)) = true
  jlen : (Txt.join sSl (comps (restF x))).length ≤ 100000
  each : ∀ c ∈ Txt.split (restF x) sSl, c.length ≤ 1000
noncomputable def oneF (ps ss : List Str) (x : Int) : Str := joinF (ss.getD (x.fmod (ps.length : Int)).toNat (Str.ofString "")) (pieceF (x.fdiv (ps.length : Int)))
noncomputable def treeStep (p : List Str × List Str) (x : Int) : List Str × List Str :=
  if (p.1.any (· == normF (oneF p.1 p.2 x))) = true then p else (p.1 ++ [normF (oneF p.1 p.2 x)], p.2 ++ [oneF p.1 p.2 x])
noncomputable def treeF (xs : List Int) (top : Str) : List Str × List Str := xs.foldl treeStep ([top], [top])
theorem treeF_next {xs : List Int} {top : Str} {i : Nat} {x : Int} (h : xs[i]? = some x) : treeF (xs.take (i + 1)) top = treeStep (treeF (xs.take i) top) x := by
  unfold treeF
  rw [List.take_succ, h, List.foldl_append]; rfl
structure TreeOk (p : List Str × List Str) (x : Int) : Prop where
  eq : p.2.length = p.1.length
  pos : 1 ≤ p.1.length
  few : p.1.length ≤ 8
  len : ∀ s ∈ p.2, s.length ≤ 100000
  norm : NormOk (oneF p.1 p.2 x)
theorem piece_len (code : Int) : (pieceF code).length ≤ 100 := by
  have m3 := fmod_nat (a := code) 3 (by decide)
  have m5 := fmod_nat (a := code) 5 (by decide)
  have z1 : (pPre.getD (code.fmod 3).toNat (Str.ofString "")).length ≤ 3 := all_getD (by decide) (by show _ < 3; omega)
  have z2 : (pSuf.getD (code.fmod 5).toNat (Str.ofString "")).length ≤ 3 := all_getD (by decide) (by show _ < 5; omega)
  have z3 := pName_len code
  unfold pieceF
  rw [Str.length_append, Str.length_append]; omega
def TreeN (h₀ : Heap) (ps ss : List Str) : Value → Heap → Nat → Prop := fun v h n => ∃ (D P S : Addr) (pv sv : List Value) (ep es : Nat), v = .ref D ∧ h.get? D = some (tup [.ref P, .ref S] 0) ∧ (h.get? P = some (lst pv ep) ∧ h₀.get? P = none) ∧ (h.get? S = some (lst sv es) ∧ h₀.get? S = none) ∧ SL ps pv n ∧ SL ss sv n
section
variable {w : World} {A : Around} {h : Heap} {n : Nat} {env : Env}
theorem d_tree : IsDef w "_law_tree" 197 := ⟨by with_unfolding_all rfl, by with_unfolding_all rfl⟩
theorem ev_atL {D : Addr} {xs : List Str} {vs : List Value} {ep : Nat} {e : Expr} (h1 : Ev w A h n (eval e env) (Is (.ref D))) (g : h.get? D = some (lst vs ep)) (r : SL xs vs n) : Ev w A h n (eval e env) (LV (SLR xs)) := h1.post fun v h' n' k' l e => by cases e; exact ⟨D, vs, ep, rfl, k' _ _ g, r.up l⟩
set_option maxHeartbeats 2000000 in
theorem tree_ev {xs : List Int} {top : Str} {v vt : Value} (W : Wd w h n) (r : Rm 4 A) (pv : LV (IRV xs.length fun i => xs.getD i 0) v h n) (pt : IsS top vt h n) (ok : ∀ i x, xs[i]? = some x → TreeOk (treeF (xs.take i) top) x) : Ev w A h n (call (.ref 197) [v, vt]) (TreeN h (treeF xs top).1 (treeF xs top).2) := by
  refine' ev_def (binds := [(Str.ofString "numbers", v), (Str.ofString "top", vt)]) W ?ho ?hc r ?hb ?hl ?_ ?c2 ?c3 ?c4 ?c5
  walk_at "mine:def"
  intro A' L s₀ s h₀ n₀ Qf Ef r' st tl W' F N q
  obtain ⟨D, vs, ep, rfl, gD, rD⟩ := upLV upIRV _ _ _ _ _ pv st tl
  have pt₀ : IsS top vt h₀ n₀ := ufS _ _ _ _ _ pt tl
  have sz : ∀ {x : Str} (vs : List Value) (h' : Heap) (n' : Nat), SLR [x] vs h' n' → vs.length ≤ sizeLine := fun vs h' n' r => by rw [SL.len r]; exact (by decide : 1 ≤ sizeLine)
  refine st_asgN (o := fun _ => default) F N rfl (ev_list (R := SLR [top]) (ev_slCons (lS F pt₀) ev_slNil rfl) upSLR sz) ?_ rfl rfl rfl
  rintro _ h₁ h₁' n₁ st₁ l₁ ⟨P, p0, rfl, gP, nP, rP⟩ kp₁ F₁ N₁ nw₁
  obtain ⟨N₁, ne₁⟩ := nw₁ P _ gP nP
  have l₁' : n₀ ≤ n₁ + 1 := Nat.le_succ_of_le l₁
  refine st_asgN (o := fun _ => default) F₁ N₁ rfl (ev_list (R := SLR [top]) (ev_slCons (lS F₁ (ufS _ _ _ _ _ pt₀ l₁')) ev_slNil rfl) upSLR sz) ?_ rfl rfl rfl
  rintro _ h₂ h₂' n₂ st₂ l₂ ⟨S, s0, rfl, gS, nS, rS⟩ kp₂ F₂ N₂ nw₂
  obtain ⟨N₂, ne₂⟩ := nw₂ S _ gS nS
  have l₂' : n₀ ≤ n₂ + 1 := Nat.le_succ_of_le (Nat.le_trans l₁' l₂)
  have hPS : P ≠ S := ne₂ _ (.head _)
  refine st_forL (D := D) (vs := vs) (ep := ep) (nw := [(S, lst s0 0), (P, lst p0 0)]) (own := []) (fun i tk m nw => ∃ pv ep sv es, nw = [(S, lst sv es), (P, lst pv ep)] ∧ SL (treeF (xs.take i) top).1 pv tk ∧ SL (treeF (xs.take i) top).2 sv tk ∧ m (Str.ofString "plain") = some (.ref P) ∧ m (Str.ofString "spelled") = some (.ref S))
    (fun i t u m nw ⟨pv, ep, sv, es, a, b, c, d⟩ l => ⟨pv, ep, sv, es, a, b.up l, c.up l, d⟩) F₂ N₂ (fun _ _ _ hq => nomatch hq) rfl r'.hh (lV F₂) gD ⟨p0, 0, s0, 0, rfl, rP.up (Nat.le_trans (Nat.le_succ _) (Nat.le_succ_of_le l₂)), rS.up (Nat.le_succ _), rfl, rfl⟩ ?_ ?_ rfl rfl (fun _ => rfl)
  · rintro I i v m₁ _ oI ha na la hv ⟨pl, ep, sp, es, rfl, rp, rs, b1, b2⟩ dj Fa Na
    have la' := Nat.le_trans l₂' la
    have Wa := wd_at W' Fa la'
    have hi : i < xs.length := by rw [← rD.1]; exact (List.getElem?_eq_some_iff.mp hv).1
    obtain ⟨t, hv'⟩ : ∃ t, vs[i]? = some (Value.int (xs.getD i 0) t) := rD.2 i hi
    rw [hv] at hv'
    cases hv'
    have hx : xs[i]? = some (xs.getD i 0) := by rw [List.getD_eq_getElem?_getD, List.getElem?_eq_getElem hi]; rfl
    have nx := treeF_next (top := top) hx
    have o := ok i _ hx
    generalize xs.getD i 0 = x at Fa hx nx o
    generalize treeF (xs.take i) top = p at rp rs nx o
    obtain ⟨ps, ss⟩ := p
    dsimp only at rp rs
    have o1 := o.eq
    have o2 := o.pos
    have o3 := o.few
    dsimp only at o1 o2 o3
    have hs := fmod_nat (a := x) (ps.length : Int) (by omega)
    have lenE : ∀ {env : Env} {p1 p2 p3 : Pos}, env.kindOf (Str.ofString "len") = some .globalImplicit → env.scope.kind = .function → env.globals = mainGlobals → env.builtins = builtinsNs → env.locals = L → env.kindOf (Str.ofString "plain") = some .local → starEach [.Name (Str.ofString "plain") p2] env = [(false, eval (.Name (Str.ofString "plain") p2) env)] → Ev w A' ha na (eval (.Call (.Name (Str.ofString "len") p1) [.Name (Str.ofString "plain") p2] [] p3) env) (IsI (ps.length : Int)) :=
      fun d b hg hb e f e' => ev_len (ev_builtin Wa (by with_unfolding_all rfl) boot_len (by decide) b d hg hb (by decide)) (lV Fa (Eq.trans (by rfl) b1) e b f (by decide)) (fun v h' n' k _ e => by cases e; exact ⟨P, pl, ep, rfl, k _ _ (Na _ (.tail _ (.head _))).1, rp.len⟩) (by rw [sizeLine_eq]; omega) e'
    refine st_asgV (P := IsS (oneF ps ss x)) Fa Na rfl (c2 d_join Wa (P₁ := IsS (ss.getD (x.fmod (ps.length : Int)).toNat (Str.ofString ""))) (P₂ := IsS (pieceF (x.fdiv (ps.length : Int)))) (ev_itemS (xs := ss) (ev_atL (lV Fa (Eq.trans (by rfl) b2)) (Na _ (.head _)).1 rs) (ev_modI (lI Fa (i := x) ⟨t, rfl⟩) (lenE rfl rfl rfl rfl rfl rfl rfl) (by omega)) hs.1 (by omega) (getD_some (by omega)) (fun _ _ => rfl))
      (c1 d_piece Wa (ev_divI (lI Fa (i := x) ⟨t, rfl⟩) (lenE rfl rfl rfl rfl rfl rfl rfl) (by omega) (by omega)) (fun v h' n' W k l p => piece_ev W (r'.le (by decide)) p)) upS (fun v₁ v₂ h' n' W k l p1 p2 => join_ev W (r'.le (by decide)) p1 p2 (o.len _ (List.mem_of_getElem? (getD_some (by show _ < ss.length; omega)))) (Nat.le_trans (piece_len _) (by decide)))) ufS ?_ rfl rfl rfl
    intro vo hb nb lb po Fb Nb
    have lb' := Nat.le_trans la' lb
    have no := o.norm
    dsimp only at no
    unfold treeStep at nx
    dsimp only at nx
    generalize oneF ps ss x = one at po no nx
    refine st_asgV (P := IsS (normF one)) Fb Nb rfl (c1 d_normpath (wd_at W' Fb lb') (lS Fb po) (fun v h' n' W k l p => normpath_ev W (r'.le (by decide)) p no.len no.ne no.root no.dd no.res no.num no.parts no.join no.jlen no.each)) ufS ?_ rfl rfl rfl
    intro vp hc nc lc pp Fc Nc
    have lc' := Nat.le_trans lb' lc
    replace rp := rp.up (Nat.le_trans lb lc)
    replace rs := rs.up (Nat.le_trans lb lc)
    replace po := ufS _ _ hc _ _ po lc
    refine st_if (c := !(ps.any (· == normF one))) Fc Nc rfl (ev_isCmp (lS Fc pp) (ev_atL (lV Fc (Eq.trans (by rfl) b1)) (Nc _ (.tail _ (.head _))).1 rp) upS (fun a b h' n' _ _ pa pb => cmp_notInL pa pb) rfl) ?_ ?_
    · intro e hd nd ld Fd Nd
      have e' : ps.any (· == normF one) = false := by simpa using e
      rw [if_neg (ne_true_of_eq_false e')] at nx
      refine st_append (vs := pl) (ep := ep) (P := IsS (normF one)) (news' := fun v => (P, lst (pl ++ [v]) (ep + 1)) :: (S, lst sp es) :: ([] ++ [(I, oI)])) Fd (news_sub Nd (nw' := (P, lst pl ep) :: (S, lst sp es) :: ([] ++ [(I, oI)])) fun p hp => ?_) rfl (Eq.trans (by rfl) b1) rfl rfl (lS Fd (ufS _ _ _ _ _ pp ld)) (by rw [rp.len, sizeLine_eq]; omega) (fun v => .head fun p hp => ?_) ?_ (by decide) rfl rfl rfl rfl
      · simp only [List.mem_cons, List.mem_append, List.not_mem_nil, or_false, false_or] at hp ⊢
        rcases hp with h | h | h <;> simp [h]
      · rcases List.mem_cons.mp hp with c | hp
        · rw [c]; exact hPS.symm
        · exact fun c => dj (P, lst pl ep) (.tail _ (.head _)) p hp c.symm
      · intro vq h₁ he ne le st₁ pq kp Fe Ne
        replace pq := ufS _ _ he _ _ pq (Nat.le_refl ne)
        refine st_append (vs := sp) (ep := es) (P := IsS one) (news' := fun v => (S, lst (sp ++ [v]) (es + 1)) :: (P, lst (pl ++ [vq]) (ep + 1)) :: ([] ++ [(I, oI)])) Fe (news_sub Ne (nw' := (S, lst sp es) :: (P, lst (pl ++ [vq]) (ep + 1)) :: ([] ++ [(I, oI)])) fun p hp => ?_) rfl (Eq.trans (by rfl) b2) rfl rfl (lS Fe (ufS _ _ _ _ _ po (Nat.le_trans ld le))) (by rw [rs.len, sizeLine_eq]; omega) (fun v => .head fun p hp => ?_) ?_ (by decide) rfl rfl rfl rfl
        · simp only [List.mem_cons, List.mem_append, List.not_mem_nil, or_false, false_or] at hp ⊢
          rcases hp with h | h | h <;> simp [h]
        · rcases List.mem_cons.mp hp with c | hp
          · rw [c]; exact hPS
          · exact fun c => dj (S, lst sp es) (.head _) p hp c.symm
        · intro vq2 h₁ hf nf lf st₁ pq2 kp Ff Nf
          refine st_nil (st_nil ⟨hf, nf, _, [(S, lst (sp ++ [vq2]) (es + 1)), (P, lst (pl ++ [vq]) (ep + 1))], rfl, Ff, Nf, fun p hp q hq => ?_, _, _, _, _, rfl, ?_, ?_, Eq.trans (by rfl) b1, Eq.trans (by rfl) b2⟩)
          · rcases List.mem_cons.mp hp with c | hp
            · rw [c]; exact dj (S, lst sp es) (.head _) q hq
            · rw [List.mem_singleton.mp hp]; exact dj (P, lst pl ep) (.tail _ (.head _)) q hq
          · rw [nx]; exact ((rp.up (Nat.le_trans ld le)).snoc pq).up lf
          · rw [nx]; exact (rs.up (Nat.le_trans (Nat.le_trans ld le) lf)).snoc pq2
    · intro e hd nd ld Fd Nd
      have e' : ps.any (· == normF one) = true := by simpa using e
      rw [if_pos e'] at nx
      exact st_nil (st_nil ⟨hd, nd, _, _, rfl, Fd, Nd, dj, pl, ep, sp, es, rfl, by rw [nx]; exact rp.up ld, by rw [nx]; exact rs.up ld, Eq.trans (by rfl) b1, Eq.trans (by rfl) b2⟩)
  · rintro m₁ _ ha na la ⟨pl, ep, sp, es, rfl, rp, rs, b1, b2⟩ Fa Na dj
    rw [show vs.length = xs.length from rD.1, List.take_length] at rp rs
    refine st_ret (ev_tuple (R := fun ws _ _ => ws = [.ref P, .ref S]) ((ev_args2 (lV Fa b1) (lV Fa b2) upIs rfl rfl).post fun ws h' n' _ _ ⟨v1, v2, e, e1, e2⟩ => by rw [e, e1, e2]) (fun _ _ _ _ _ e _ _ => e) (fun ws h' n' e => by rw [e]; exact (by decide : 2 ≤ sizeLine))) fun v h' tk st' tl' ⟨D, ws, e, g, _, e2⟩ => ?_
    subst e2
    exact q _ h' tk (stays_trans Fa.keep st') (Nat.le_trans l₂' (Nat.le_trans la tl')) ⟨D, P, S, pl, sp, ep, es, e, g, ⟨st' _ _ (Na _ (.tail _ (.head _))).1, none_of st (Na (P, lst pl ep) (.tail _ (.head _))).2.2⟩, ⟨st' _ _ (Na _ (.head _)).1, none_of st (Na (S, lst sp es) (.head _)).2.2⟩, rp.up tl', rs.up tl'⟩
end

structure Wd0 (w : World) (h : Heap) : Prop where
  X : (KK w.params).In h
  T : ∃ p loose mean mg mb, Top p loose mean mg mb h
theorem Wd0.keeps {w : World} {h h' : Heap} (x : Wd0 w h) (k : h.StaysIn h') : Wd0 w h' := ⟨x.X.keeps k, by obtain ⟨p, q, a, b, c, T⟩ := x.T; exact ⟨p, q, a, b, c, T.keeps k⟩⟩
/-- a def is entered, no token made yet -/
theorem ev_def0 {w : World} {A : Around} {h : Heap} {n₀ : Nat} {name qual : Str} {params : Arguments} {body : List Stmt} {scope : Scope} {dV kV doc pm cdv ct oc : Value} {an od : Option Addr} {osl : Array (Option Value)} {f : Addr} {args : List Value} {binds : List (Str × Value)} {n : Nat} {P : Value → Heap → Nat → Prop}
    (W : Wd0 w h) (ho : (KK w.params).lookup f = some ⟨oc, od, .func (fnOf name qual params body scope dV kV doc pm an cdv ct), osl⟩) (hcd : codeIn (KK w.params) cdv qual = true) (r : Rm (n + 1) A)
    (hbind : bindArgs (fnOf name qual params body scope dV kV doc pm an cdv ct) ⟨args, []⟩ = pure binds) (hloc : ∀ y ∈ binds, scope.names.lookup y.1 = some .local)
    (body_ : ∀ A' L s₀ s h₁ n₁ Qf Ef, Rm n A' → h.StaysIn s₀ → n₀ ≤ n₁ → Wd0 w s₀ → Fr s₀ L h₁ (fun y => binds.reverse.lookup y) → News s₀ L h₁ [] → (∀ v h' tk, s₀.StaysIn h' → n₁ ≤ tk → P v h' tk → Qf (.ret v) (put s h' tk)) →
      wpAny (Mo w) A' (execs body (envOf qual scope L f cdv)) Qf Ef (put s h₁ n₁))
    (hco : scope.isCoroutine = false) (hgen : scope.isGenerator = false) (hk : scope.kind = .function) (hcell : ∀ x ∈ scope.names, x.2 ≠ .cell) : Ev w A h n₀ (call (.ref f) args) P :=
  fun s Q E st tl q => by
    have W' := W.keeps st
    obtain ⟨_, _, _, _, _, T⟩ := W'.T
    refine wpAny_call (enter (binds := binds) W'.X T ho hcd r (BindsTo.of_eq hbind) hloc (fun A' Qf Ef L h₁ tk tk' r' hQ F N => ?_) hco hgen hk hcell)
    exact body_ A' L s.heap s h₁ tk Qf Ef r' st (Nat.le_trans tl tk') W' F N fun v h' tk₁ st' tl' p => hQ _ _ (q v h' tk₁ st' (Nat.le_trans tk' tl') p)
theorem news_add {h₀ h h₁ : Heap} {L : Addr} {m : Str → Option Value} {news add : List (Addr × Obj)} (F : Fr h₀ L h m) (N : News h₀ L h news) (st : h.StaysIn h₁) (ha : ∀ p ∈ add, h₁.get? p.1 = some p.2 ∧ h.get? p.1 = none) : News h₀ L h₁ (add ++ news) := fun p hp => by
  rcases List.mem_append.mp hp with hp | hp
  · have := ha p hp
    have hL : p.1 ≠ L := fun c => by obtain ⟨o, _, _, g, _⟩ := F.ns; rw [← c, this.2] at g; cases g
    exact ⟨this.1, hL, none_of F.keep this.2⟩
  · exact news_grow N st p hp
theorem IR.of_ints {ns : List Int} {vs : List Value} (h : IntsAre vs ns) : IR ns.length (fun i => ns.getD i 0) vs := by
  induction h with
  | nil => exact IR.nil
  | cons x t r ih =>
    refine ⟨by simp [ih.1], fun i hi => ?_⟩
    match i with
    | 0 => exact ⟨t, rfl⟩
    | i + 1 => obtain ⟨t, e⟩ := ih.2 i (by simpa using hi); exact ⟨t, by simpa using e⟩
theorem ints_take {ns : List Int} {vs : List Value} (h : IntsAre vs ns) : ∀ k, IntsAre (vs.take k) (ns.take k) := by
  induction h with
  | nil => intro k; simpa using IntsAre.nil
  | cons x t r ih => intro k; cases k with
    | zero => exact .nil
    | succ k => exact .cons x t (ih k)
theorem ints_len {ns : List Int} {vs : List Value} (h : IntsAre vs ns) : vs.length = ns.length := by
  induction h with
  | nil => rfl
  | cons x t r ih => simp [ih]
def IA (ns : List Int) : List Value → Heap → Nat → Prop := fun vs _ _ => IntsAre vs ns
theorem upIA {ns : List Int} : Up (IA ns) := fun _ _ _ _ _ p _ _ => p
def NewI (h : Heap) (ns : List Int) : Value → Heap → Nat → Prop := NewR h fun vs _ => IR ns.length (fun i => ns.getD i 0) vs
section
variable {w : World} {A : Around} {h : Heap} {n : Nat} {env : Env}
theorem ev_iaNil {pos : Pos} : Ev w A h n (spliced (backTo pos (starEach [] env))) (IA []) := .val [] (fun s Q E st tl q => spliced_none q) (fun _ _ _ _ => IntsAre.nil)
theorem ev_iaC {pos p : Pos} {k : Nat} {x : Int} {rest : List Expr} {ns : List Int} (h2 : Ev w A h n (spliced (backTo pos (starEach rest env))) (IA ns)) : Ev w A h n (spliced (backTo pos (starEach (.Constant (.int x) k p :: rest) env))) (IA (x :: ns)) :=
  (ev_argsC ev_int h2 upI rfl).post fun vs h' n' _ _ ⟨v, r, e, ⟨t, e'⟩, q⟩ => by rw [e, e']; exact .cons x t q
/-- 2 ** 32 -/
theorem ev_pow32 {k0 k1 : Nat} {p1 p2 p3 : Pos} : Ev w A h n (eval (.BinOp (.Constant (.int 2) k0 p1) .Pow (.Constant (.int 32) k1 p2) p3) env) (IsI 4294967296) :=
  ev_bin ev_int ev_int upI fun a b h' n' k l ⟨t, e⟩ ⟨u, e'⟩ => by
    subst e e'
    refine .of fun s Q E st tl q => AutoIntOps.pow_4 (by decide) (by decide) (by decide) (by decide) (by decide +kernel) (q _ _ (Nat.le_succ _) ⟨_, by rw [show ((2 : Int) ^ (32 : Int).toNat) = 4294967296 from by decide]⟩)
/-- sum of a list of ints -/
theorem ev_sum {p pos : Pos} {e : Expr} {ns : List Int} (hh : A.handled = none) (h0 : Ev w A h n (eval (.Name (Str.ofString "sum") p) env) (Is (.builtin "sum"))) (h1 : Ev w A h n (eval e env) (LV (IA ns))) (he : starEach [e] env = [(false, eval e env)]) : Ev w A h n (eval (.Call (.Name (Str.ofString "sum") p) [e] [] pos) env) (IsI ns.sum) :=
  ev_callB1 h0 h1 (fun v h' n' k l ⟨D, vs, ep, e, g, r⟩ => by
    subst e
    intro s Q E st tl q
    obtain ⟨xs, hx⟩ := (show IntsAre vs ns from r).allInts.items
    have hl : s.heap.IsList D vs.toArray := ⟨_, st _ _ g, rfl, ep, rfl⟩
    have hl' : s.heap.IsList D (intItems xs) := hx ▸ hl
    refine wpAny_mono (wpAny_toks_of (n := s.toks) (Nat.le_refl _) (sum_intListG (Q := fun v s' => ∃ h' tk t', s' = put s h' tk ∧ s.heap.StaysIn h' ∧ v = .int ns.sum t') hh hl' fun h' tk t' hk => ?_)) (fun v s' p => ?_) fun _ _ x => x.2
    · have e1 : ns = xs.toList.map (·.1) := by
        rw [← nums_intItems, ← hx]
        exact (show numsOf vs.toArray.toList = ns from (show IntsAre vs ns from r).numsOf).symm
      refine ⟨h', tk, t', rfl, hk, ?_⟩
      rw [preSum_eq, List.take_of_length_le (by simp), ← e1]
    · obtain ⟨l, h'', tk, t', rfl, k, rfl⟩ := p
      exact q _ h'' tk k l ⟨t', rfl⟩) he
variable {s : Shared} {h₀ : Heap} {m : Str → Option Value} {news : List (Addr × Obj)} {E : Value → Shared → Prop} {Q : Flow → Shared → Prop} {L : Addr}
/-- x = e, new objects into the ledger -/
theorem st_asgL {x : Str} {p pos : Pos} {e : Expr} {rest : List Stmt} (R : Value → List (Addr × Obj) → Nat → Prop) (up : ∀ v a t u, R v a t → t ≤ u → R v a u) (F : Fr h₀ L h m) (N : News h₀ L h news) (hL : env.locals = L) (he : Ev w A h n (eval e env) (fun v h' n' => ∃ add : List (Addr × Obj), (∀ p ∈ add, h'.get? p.1 = some p.2 ∧ h.get? p.1 = none) ∧ R v add n'))
    (k : ∀ v add h' tk, n < tk → R v add tk → Fr h₀ L h' (upd m x v) → News h₀ L h' (add ++ news) → wpAny (Mo w) A (execs rest env) Q E (put s h' tk))
    (hs : swapsWith e (some (.Name x p)) pos.line env = pure false) (hx : env.kindOf x = some .local) (hk : env.scope.kind = .function) :
    wpAny (Mo w) A (execs (.Assign [.Name x p] e pos :: rest) env) Q E (put s h n) :=
  st_asg F N hL he (fun v h₁ h' tk st tl ⟨add, ha, r⟩ sb F' N' => k v add h' (tk + 1) (Nat.succ_le_succ tl) (up _ _ _ _ r (Nat.le_succ _)) F' (fun p hp => by
    have := news_add F N st ha p hp
    exact ⟨(sb.2 _ this.2.1).trans this.1, this.2⟩)) hs hx hk
/-- x1, x2 = a pair, new objects into the ledger -/
theorem st_asgT2 {x1 x2 : Str} {p1 p2 tp pos : Pos} {k₀ : Nat} {e : Expr} {rest : List Stmt} (R : Value → Value → List (Addr × Obj) → Nat → Prop) (up : ∀ v v' a t u, R v v' a t → t ≤ u → R v v' a u) (F : Fr h₀ L h m) (N : News h₀ L h news) (hL : env.locals = L) (hh : A.handled = none)
    (he : Ev w A h n (eval e env) (fun v h' n' => ∃ D v1 v2 add, v = .ref D ∧ h'.get? D = some (tup [v1, v2] 0) ∧ (∀ p ∈ add, h'.get? p.1 = some p.2 ∧ h.get? p.1 = none) ∧ R v1 v2 add n'))
    (k : ∀ v1 v2 add h' tk, n ≤ tk → R v1 v2 add tk → Fr h₀ L h' (upd (upd m x1 v1) x2 v2) → News h₀ L h' (add ++ news) → wpAny (Mo w) A (execs rest env) Q E (put s h' tk))
    (hs : swapsWithSole [.Tuple [.Name x1 p1, .Name x2 p2] k₀ tp] e pos.line env = pure false) (hw : swappedStores [.Tuple [.Name x1 p1, .Name x2 p2] k₀ tp] e env = pure none)
    (h1 : env.kindOf x1 = some .local) (h2 : env.kindOf x2 = some .local) (hk : env.scope.kind = .function) :
    wpAny (Mo w) A (execs (.Assign [.Tuple [.Name x1 p1, .Name x2 p2] k₀ tp] e pos :: rest) env) Q E (put s h n) := by
  subst hL
  have hkk : (env.scope.kind == .class || (env.scope.kind == .module && env.locals != env.globals)) = false := by rw [hk]; rfl
  refine st_cons (Assign_Tuple (he.use (s := put s h n) fun v h₁ tk st tl pv => ?_) hs hw)
  obtain ⟨D, v1, v2, add, rfl, g, ha, r⟩ := pv
  refine unpackN_ (s := put s h₁ tk) (fr_grow F st) (news_add F N st ha) ⟨_, g, rfl, _, rfl⟩ hh rfl rfl fun h₂ F₂ N₂ => ?_
  refine assignInOrder_cons (wpAny_assign_Name (wpAny_storeName_local h1 F₂.ns (fun h₃ n₃ s₃ => ?_) hkk))
  have F₃ := F₂.set n₃ s₃
  have N₃ := N₂.set s₃
  refine assignInOrder_cons (wpAny_assign_Name (wpAny_storeName_local h2 F₃.ns (fun h₄ n₄ s₄ => ?_) hkk))
  have l : tk ≤ tk + 1 + 1 := by omega
  exact assignInOrder_nil (k v1 v2 add h₄ (tk + 1 + 1) (Nat.le_trans tl l) (up _ _ _ _ _ r l) (F₃.set n₄ s₄) (N₃.set s₄))
end

def numsF (ns : List Int) : List Int := if ns = [] then [0, 4, 7, 21] else (ns.take 6).map fun x => x.fmod 4294967296
def topF (ns : List Int) : Str := if ((ns.sum.fmod 2) == (0 : Int)) = true then sSl else Str.ofString ""
def sumTo (f : Nat → Int) : Nat → Int
  | 0 => 0
  | k + 1 => sumTo f k + f k
structure LawOk (nums : List Int) (ps ss : List Str) (S : Nat → Nat → Int) : Prop where
  tree : ∀ i x, nums[i]? = some x → TreeOk (treeF (nums.take i) (topF nums)) x
  res : treeF nums (topF nums) = (ps, ss)
  two : 2 ≤ ps.length
  few : ps.length ≤ 8
  eq : ss.length = ps.length
  len : ∀ x ∈ ps, x.length ≤ 100000
  meets : ∀ i j, j ≤ i → i < ps.length → MeetOk (ss.getD i (Str.ofString "")) (ss.getD j (Str.ofString "")) (ps.getD 0 (Str.ofString ""))
  hS : S = symF (stepF ps ss)
  heads : HeadsOk ps.length S
  due : ∀ k, k < ps.length → Bst S ps.length k k = dueF k
  dirs : ∀ x ∈ ps.drop 1, DirOk x
  small : ∀ i k, i < ps.length → k < ps.length → (S i k).natAbs < 1073741824
  undo : ∀ i j, i < ps.length → j < ps.length → sumTo (fun k => S i k * undoF ps k j) ps.length = if ((i : Int) == (j : Int)) = true then 2 * ((ps.length : Int) - 1) else 0
def LI (R : List Value → Heap → Nat → Prop) : Value → Heap → Nat → Prop := fun o h n => ∃ D vs, o = .ref D ∧ h.IsList D (List.toArray vs) ∧ R vs h n
theorem upLI {R : List Value → Heap → Nat → Prop} (u : Up R) : Up (LI R) := fun _ _ _ _ _ ⟨D, vs, e, g, r⟩ k l => ⟨D, vs, e, g.at fun o e => k _ _ e, u _ _ _ _ _ r k l⟩
section
variable {w : World} {A : Around} {h : Heap} {n : Nat} {env : Env}
theorem d_law : IsDef w "law" 231 := ⟨by with_unfolding_all rfl, by with_unfolding_all rfl⟩
theorem IR.map {n : Nat} {ns : List Int} {vs : List Value} (r : IR n (fun i => ns.getD i 0) vs) (e : n = ns.length) : IR ns.length (fun i => ns.getD i 0) vs := e ▸ r
theorem ev_takeI {value upper : Expr} {p pos : Pos} {R : List Value → Heap → Nat → Prop} {R' : List Value → Heap → Nat → Prop} {k : Nat} (h1 : Ev w A h n (eval value env) (LI R)) (h2 : Ev w A h n (eval upper env) (IsI (k : Int))) (up : Up R) (hz : ∀ vs h' n', R vs h' n' → vs.length ≤ sizeLine) (hR : ∀ vs h' n', R vs h' n' → R' (vs.take k) h' n') (up' : Up R')
    (ht : ∀ o r, letTemporaryGo value o r = pure ()) : Ev w A h n (eval (.Subscript value (.Slice none (some upper) none p) pos) env) (fun v h' n' => ∃ D vs, v = .ref D ∧ h'.get? D = some (lst vs 0) ∧ h.get? D = none ∧ R' vs h' n') :=
  fun s Q E st tl q => wpAny_Subscript_list_slice (h1 s _ E st tl fun o ha na sa la pa => by
    rw [evalPart_none]
    refine wpAny_pure (h2 _ _ E (stays_trans st sa) (Nat.le_trans tl la) fun vu hb nb sb lb pb => ?_)
    obtain ⟨D, vs, rfl, g, r⟩ := pa
    obtain ⟨t, rfl⟩ := pb
    have r' := up _ _ _ _ _ r sb lb
    refine ⟨D, vs.toArray, none, some (k : Int), rfl, g.at fun o e => sb _ _ e, by rw [List.size_toArray]; exact hz _ _ _ r', .none, .int _ _, ?_⟩
    have e : slicePick vs.toArray none (some (k : Int)) none = (vs.take k).toArray := slicePick_upto' _ _
    rw [e]
    have k2 := stays_trans (push_stays hb { cls := .type "slice", data := .fields #[.none, .int k t, .none] }) (push_stays _ (lst (vs.take k) 0))
    have g2 := Heap.get?_push_size (hb.push { cls := .type "slice", data := .fields #[.none, .int k t, .none] }) (o := lst (vs.take k) 0) rfl
    rw [Heap.size_push] at g2
    refine q _ _ _ (stays_trans sa (stays_trans sb k2)) (Nat.le_trans la lb) ⟨_, _, rfl, g2, ?_, up' _ _ _ _ _ (hR _ _ _ r') k2 (Nat.le_refl _)⟩
    cases q' : h.get? (hb.objs.size + 1) with
    | none => rfl
    | some o => exact absurd (Heap.lt_size (sb _ _ (sa _ _ (st _ _ q')))) (Nat.not_lt.mpr (Nat.le_succ _))) ht
set_option maxHeartbeats 2000000 in
theorem law_ev {ns : List Int} {ps ss : List Str} {S : Nat → Nat → Int} {v : Value} (W : Wd0 w h) (r : Rm 7 A) (pv : LI (IA ns) v h n) (h63 : ns.length ≤ 63) (ok : LawOk (numsF ns) ps ss S) : Ev w A h n (call (.ref 231) [v]) (IsB true) := by
  refine' ev_def0 (binds := [(Str.ofString "script", v)]) W ?ho ?hc r ?hb ?hl ?_ ?c2 ?c3 ?c4 ?c5
  walk_at "mine:def"
  intro A' L s₀ s h₀ n₀ Qf Ef r' st tl W' F N q
  have hh := r'.hh
  have pv₀ : LI (IA ns) v h₀ n₀ := upLI upIA _ _ _ _ _ pv (stays_trans st F.keep) tl
  refine st_asgL (fun v add _ => ∃ D vs ep, v = .ref D ∧ add = [(D, lst vs ep)] ∧ IntsAre vs (numsF ns)) (fun _ _ _ _ p _ => p) F N rfl ((ev_ifExp (P := NewR h₀ fun vs _ => IntsAre vs (numsF ns)) (c := !decide (ns = []))
    (ev_isCmp (P₁ := LI (IA ns)) (P₂ := LV (IA [])) (ev_local F.ns rfl pv₀ (upLI upIA) rfl rfl (by decide)) ((ev_list (R := IA []) ev_iaNil upIA (fun vs _ _ r => by rw [ints_len r]; exact Nat.zero_le _)).post fun v h' n' _ _ ⟨D, vs, e, g, _, r⟩ => ⟨D, vs, 0, e, g, r⟩) (upLI upIA) (fun a b h' n' k l ⟨D, vs, e, g, r1⟩ ⟨D2, vs2, ep2, e2, g2, r2⟩ => by
      subst e e2
      exact .val _ (fun s Q E st tl q => PySem.W.ke_ne_ints (g.at fun o e => st _ _ e) ⟨_, st _ _ g2, rfl, ep2, rfl⟩ r1 r2 (by have := r'.un; show A'.units + 64 < 9900; omega) q) (fun _ _ _ _ => rfl)) rfl)
    (fun e => by
      have hne : ns ≠ [] := by simpa using e
      refine (ev_compV (cl := []) (k := (ns.take 6).length) (It := fun i v => ∃ t x, (ns.take 6)[i]? = some x ∧ v = .int x t) (fun i ys _ => IR i (fun i => (numsF ns).getD i 0) ys) (fun i v _ _ => ∃ t, v = .int ((numsF ns).getD i 0) t) (fun _ => true) (fun i ys a b j l => j) (by rw [List.length_take, sizeLine_eq]; omega)
        (ev_takeI (R := IA ns) (R' := IA (ns.take 6)) (k := 6) (ev_local F.ns rfl pv₀ (upLI upIA) rfl rfl (by decide)) ev_int upIA (fun vs h' n' r => by rw [ints_len r, sizeLine_eq]; omega) (fun vs h' n' r => ints_take r 6) upIA (fun _ _ => rfl)) (fun v h' n' k l ⟨D, vs, e, g, _, r⟩ => by
          subst e
          have e := ints_len r
          rw [← e]
          refine (src_list hh g).mono fun i v hv => ?_
          obtain ⟨t, e2⟩ := (IR.of_ints r).2 i (by rw [← e]; exact (List.getElem?_eq_some_iff.mp hv).1)
          have hi : i < (ns.take 6).length := by rw [← e]; exact (List.getElem?_eq_some_iff.mp hv).1
          rw [hv] at e2
          exact ⟨t, _, show (ns.take 6)[i]? = some ((ns.take 6).getD i 0) from by rw [List.getD_eq_getElem?_getD, List.getElem?_eq_getElem hi]; rfl, Option.some.inj e2⟩) IR.nil (fun i v C m h' n' k l hi hv hn hm => ifs0) (fun i v C m h' n' k l hi hv hn hm _ => ?_) (fun i ys y h' n' hi l _ j ⟨t, e⟩ => e ▸ j.snoc) (fun i ys n' hi l e => nomatch e) rfl (fun y hy => by revert y; decide) rfl (fun y hy => by revert y; decide) rfl (fun _ => rfl)).post fun v h' n' _ _ ⟨D, ys, ep, e, g, nn, j⟩ => ⟨D, ys, ep, e, g, nn, ?_⟩
      · obtain ⟨t, x, hx, rfl⟩ := hv
        have e1 : (numsF ns).getD i 0 = x.fmod 4294967296 := by unfold numsF; rw [if_neg hne, List.getD_eq_getElem?_getD, List.getElem?_map, hx]; rfl
        rw [e1]
        exact ev_modI (ev_local (P := IsI x) hn hm ⟨t, rfl⟩ upI rfl rfl rfl) ev_pow32 (by decide)
      · have := j.ints
        have e2 : (List.range (ns.take 6).length).map (fun i => (numsF ns).getD i 0) = numsF ns := by
          have l : (numsF ns).length = (ns.take 6).length := by unfold numsF; rw [if_neg hne, List.length_map]
          rw [← l]
          apply List.ext_getElem
          · simp
          · intro i h1 h2
            simp [List.getD_eq_getElem?_getD, List.getElem?_eq_getElem h2]
        rw [e2] at this; exact this)
    (fun e => by
      have hne : ns = [] := by simpa using e
      exact (ev_list (R := IA [0, 4, 7, 21]) (ev_iaC (ev_iaC (ev_iaC (ev_iaC ev_iaNil)))) upIA (fun vs _ _ r => by rw [ints_len r]; exact (by decide : 4 ≤ sizeLine))).post fun v h' n' _ _ ⟨D, vs, e, g, nn, r⟩ => ⟨D, vs, 0, e, g, nn, by unfold numsF; rw [if_pos hne]; exact r⟩)).post fun v h' n' _ _ ⟨D, vs, ep, e, g, nn, r⟩ => ⟨[(D, lst vs ep)], all1 ⟨g, nn⟩, D, vs, ep, e, rfl, r⟩) ?_ rfl rfl rfl
  rintro _ _ h₁ n₁ l₁ ⟨D, nv, ep, rfl, rfl, ri⟩ F₁ N₁
  replace W' : Wd w s₀ (n₀ + 1) := ⟨W'.X, W'.T, Nat.succ_pos _⟩
  have W₂ := wd_at W' F₁ l₁
  have gD := (N₁ _ (.head _)).1
  have nE : ∀ {env : Env} {pos : Pos}, env.locals = L → env.scope.kind = .function → env.kindOf (Str.ofString "numbers") = some .local → Ev w A' h₁ n₁ (eval (.Name (Str.ofString "numbers") pos) env) (LV (IA (numsF ns))) := fun a b c => (lV F₁ (h := h₁) (n := n₁) rfl a b c (by decide)).post fun v h' n' k _ e => by cases e; exact ⟨D, nv, ep, rfl, k _ _ gD, ri⟩
  generalize numsF ns = nums at ok ri nE
  refine st_asgT2 (fun v1 v2 add tk => ∃ P S pv sv ep es, v1 = .ref P ∧ v2 = .ref S ∧ add = [(P, lst pv ep), (S, lst sv es)] ∧ SL ps pv tk ∧ SL ss sv tk) (fun _ _ _ _ _ ⟨P, S, pv, sv, ep, es, a, b, c, d, e⟩ l => ⟨P, S, pv, sv, ep, es, a, b, c, d.up l, e.up l⟩) F₁ N₁ rfl hh
    ((c2 d_tree W₂ (P₁ := LV (IRV nums.length fun i => nums.getD i 0)) (P₂ := IsS (topF nums)) (P := TreeN h₁ ps ss) ((nE rfl rfl rfl).post fun v h' n' _ _ ⟨D, vs, ep, e, g, r⟩ => ⟨D, vs, ep, e, g, IR.of_ints r⟩)
      (ev_ifExp (c := (nums.sum.fmod 2) == (0 : Int)) (ev_isCmp (ev_modI (ev_sum hh (ev_bi W₂ boot_sum) (nE rfl rfl rfl) rfl) ev_int (by decide)) ev_int upI (fun a b h' n' _ _ pa pb => cmp_eqI pa pb) rfl) (fun e => by unfold topF; rw [if_pos e]; exact ev_str W₂) (fun e => by unfold topF; rw [if_neg (ne_true_of_eq_false e)]; exact ev_str W₂))
      (upLV upIRV) (fun v₁ v₂ h' n' W k l p1 p2 => (tree_ev W (r'.le (by decide)) p1 p2 ok.tree).post fun v h n _ _ t => by
        rw [ok.res] at t
        obtain ⟨D, P, S, pv, sv, ep, es, e, g, ⟨g1, f1⟩, ⟨g2, f2⟩, s1, s2⟩ := t
        exact ⟨D, P, S, pv, sv, ep, es, e, g, ⟨g1, none_of k f1⟩, ⟨g2, none_of k f2⟩, s1, s2⟩)).post fun v h' n' _ _ ⟨D, P, S, pv, sv, ep, es, e, g, ⟨g1, f1⟩, ⟨g2, f2⟩, s1, s2⟩ => ⟨D, _, _, [(P, lst pv ep), (S, lst sv es)], e, g, allC ⟨g1, f1⟩ (all1 ⟨g2, f2⟩), P, S, pv, sv, ep, es, rfl, rfl, rfl, s1, s2⟩) ?_ rfl rfl rfl rfl rfl
  rintro _ _ _ h₂ n₂ l₂ ⟨P, Sa, pl, sp, e1, e2, rfl, rfl, rfl, rp, rs⟩ F₂ N₂
  have l₂' := Nat.le_trans l₁ l₂
  have W₃ := wd_at W' F₂ l₂'
  have gP := (N₂ _ (.head _)).1
  have gS := (N₂ _ (.tail _ (.head _))).1
  have few := ok.few
  have two := ok.two
  refine st_asgL (fun v add _ => ∃ T, v = .ref T ∧ Tab ps.length ps.length S T add) (fun _ _ _ _ p _ => p) F₂ N₂ rfl
    ((c2 d_steps W₃ (P₁ := LV (SLR ps)) (P₂ := LV (SLR ss)) (P := TabN h₂ ps.length ps.length S) (ev_atL (lV F₂) gP rp) (ev_atL (lV F₂) gS rs) (upLV upSLR) (fun v₁ v₂ h' n' W k l p1 p2 => (steps_ev W (r'.le (by decide)) p1 p2 (by omega) few ok.eq ok.len ok.meets).post fun v h n _ _ t => by
      rw [← ok.hS] at t; exact t.grow k)).post fun v h' n' _ _ ⟨T, nw, e, t, f⟩ => ⟨nw, f, T, e, t⟩) ?_ rfl rfl rfl
  rintro _ a₁ h₃ n₃ l₃ ⟨T₁, rfl, tab₁⟩ F₃ N₃
  replace l₃ := Nat.le_of_lt l₃
  have l₃' := Nat.le_trans l₂' l₃
  have W₄ := wd_at W' F₃ l₃'
  have gP₃ := (N₃ _ (List.mem_append_right _ (.head _))).1
  have tv₁ := tab₁.val (k := n₃) N₃ fun p hp => List.mem_append_left _ hp
  have lenE : ∀ {env : Env} {h' : Heap} {n' : Nat} {p1 p2 p3 : Pos} {m : Str → Option Value}, Fr s₀ L h' m → n₀ + 1 ≤ n' → h'.get? P = some (lst pl e1) → m (Str.ofString "plain") = some (.ref P) → env.kindOf (Str.ofString "len") = some .globalImplicit → env.scope.kind = .function → env.globals = mainGlobals → env.builtins = builtinsNs → env.locals = L → env.kindOf (Str.ofString "plain") = some .local → starEach [.Name (Str.ofString "plain") p2] env = [(false, eval (.Name (Str.ofString "plain") p2) env)] → Ev w A' h' n' (eval (.Call (.Name (Str.ofString "len") p1) [.Name (Str.ofString "plain") p2] [] p3) env) (IsI (ps.length : Int)) :=
    fun F l g hm d b hg hb e f e' => ev_len (ev_builtin (wd_at W' F l) (by with_unfolding_all rfl) boot_len (by decide) b d hg hb (by decide)) (lV F hm e b f (by decide)) (fun v h' n' k _ e => by cases e; exact ⟨P, pl, e1, rfl, k _ _ g, rp.len⟩) (by rw [sizeLine_eq]; omega) e'
  refine st_if (c := false) F₃ N₃ rfl (ev_isCmp (P₁ := LV (IRV ps.length fun k => Bst S ps.length k k)) (P₂ := LV (IRV ps.length dueF)) (c1 d_heads W₄ (P₁ := TabV ps.length ps.length S) ((lV F₃).post fun v h' n' k l e => by cases e; exact upTabV _ _ _ _ _ tv₁ k l) (fun v h' n' W k l p => heads_ev W (r'.le (by decide)) p two few ok.heads))
    (c1 d_due W₄ (lenE F₃ l₃' gP₃ rfl rfl rfl rfl rfl rfl rfl rfl) (fun v h' n' W k l p => due_ev W (r'.le (by decide)) p (by omega) few)) (upLV upIRV) (fun a b h' n' k l ⟨D, vs, ep, e, g, r1⟩ ⟨D2, vs2, ep2, e2, g2, r2⟩ => by
      subst e e2
      have e3 : (!decide ((List.range ps.length).map (fun k => Bst S ps.length k k) = (List.range ps.length).map dueF)) = false := by
        rw [show (List.range ps.length).map (fun k => Bst S ps.length k k) = (List.range ps.length).map dueF from List.map_congr_left fun k hk => ok.due k (List.mem_range.mp hk)]; simp
      rw [← e3]
      exact .val _ (fun s Q E st tl q => PySem.W.ke_ne_ints ⟨_, st _ _ g, rfl, ep, rfl⟩ ⟨_, st _ _ g2, rfl, ep2, rfl⟩ (IR.ints r1) (IR.ints r2) (by have := r'.un; show A'.units + 64 < 9900; omega) q) (fun _ _ _ _ => rfl)) rfl) (fun e => nomatch e) ?_
  intro _ h₄ n₄ l₄ F₄ N₄
  refine st_nil ?_
  have l₄' := Nat.le_trans l₃' l₄
  have W₅ := wd_at W' F₄ l₄'
  have gP₄ := (N₄ _ (List.mem_append_right _ (.head _))).1
  refine st_asgL (fun v add _ => ∃ T, v = .ref T ∧ Tab ps.length ps.length (undoF ps) T add) (fun _ _ _ _ p _ => p) F₄ N₄ rfl
    ((c1 d_undo W₅ (P₁ := LV (SLR ps)) (P := TabN h₄ ps.length ps.length (undoF ps)) (ev_atL (lV F₄) gP₄ (rp.up (Nat.le_trans l₃ l₄))) (fun v h' n' W k l p => (undo_ev W (r'.le (by decide)) p (by omega) few ok.dirs).post fun v h n _ _ t => t.grow k)).post fun v h' n' _ _ ⟨T, nw, e, t, f⟩ => ⟨nw, f, T, e, t⟩) ?_ rfl rfl rfl
  rintro _ a₂ h₅ n₅ l₅ ⟨T₂, rfl, tab₂⟩ F₅ N₅
  replace l₅ := Nat.le_of_lt l₅
  have l₅' := Nat.le_trans l₄' l₅
  have W₆ := wd_at W' F₅ l₅'
  have mP : (P, lst pl e1) ∈ a₂ ++ (a₁ ++ ([(P, lst pl e1), (Sa, lst sp e2)] ++ ([(D, lst nv ep)] ++ []))) := List.mem_append_right _ (List.mem_append_right _ (.head _))
  have m₁ : ∀ p ∈ a₁, p ∈ a₂ ++ (a₁ ++ ([(P, lst pl e1), (Sa, lst sp e2)] ++ ([(D, lst nv ep)] ++ []))) := fun p hp => List.mem_append_right _ (List.mem_append_left _ hp)
  have m₂ : ∀ p ∈ a₂, p ∈ a₂ ++ (a₁ ++ ([(P, lst pl e1), (Sa, lst sp e2)] ++ ([(D, lst nv ep)] ++ []))) := fun p hp => List.mem_append_left _ hp
  generalize (a₂ ++ (a₁ ++ ([(P, lst pl e1), (Sa, lst sp e2)] ++ ([(D, lst nv ep)] ++ []))) : List (Addr × Obj)) = own at N₅ mP m₁ m₂
  refine st_forR (a := 0) (k := ps.length) (nw := []) (own := own) (fun i _ m nw => nw = [] ∧ m (Str.ofString "plain") = some (.ref P) ∧ m (Str.ofString "steps") = some (.ref T₁) ∧ m (Str.ofString "undoing") = some (.ref T₂)) (fun _ _ _ _ _ j _ => j) F₅ N₅ (fun _ hp => nomatch hp) rfl hh
    (by rw [Nat.zero_add]; exact ev_range1 (ev_bi W₆ boot_range) (lenE F₅ l₅' (N₅ _ mP).1 rfl rfl rfl rfl rfl rfl rfl rfl) rfl) (by omega) ⟨rfl, rfl, rfl, rfl⟩ ?_ ?_ rfl rfl (fun _ => rfl)
  · rintro I i t m₁' _ oI ha na la hi ⟨rfl, b1, b2, b3⟩ - Fa Na
    rw [Nat.zero_add] at Fa
    have la' := Nat.le_trans l₅' la
    have Wa := wd_at W' Fa la'
    refine st_forR (a := 0) (k := ps.length) (nw := []) (own := own ++ [(I, oI)]) (fun j _ m nw => nw = [] ∧ m (Str.ofString "plain") = some (.ref P) ∧ m (Str.ofString "steps") = some (.ref T₁) ∧ m (Str.ofString "undoing") = some (.ref T₂) ∧ m (Str.ofString "i") = some (.int (i : Int) t)) (fun _ _ _ _ _ j _ => j) Fa Na (fun _ hp => nomatch hp) rfl hh
      (by rw [Nat.zero_add]; exact ev_range1 (ev_bi Wa boot_range) (lenE Fa la' (Na (P, lst pl e1) (List.mem_append_right [] (List.mem_append_left _ mP))).1 (Eq.trans (by rfl) b1) rfl rfl rfl rfl rfl rfl rfl) rfl) (by omega) ⟨rfl, Eq.trans (by rfl) b1, Eq.trans (by rfl) b2, Eq.trans (by rfl) b3, rfl⟩ ?_ ?_ rfl rfl (fun _ => rfl)
    · rintro I2 j u m₂' _ o2 hb nb lb hj ⟨rfl, c1', c2', c3, c4⟩ - Fb Nb
      rw [Nat.zero_add] at Fb
      have lb' := Nat.le_trans la' lb
      refine st_asgV Fb Nb rfl ev_int ufI ?_ rfl rfl rfl
      intro v0 hc nc lc p0 Fc Nc
      have lc' := Nat.le_trans lb' lc
      have Wc := wd_at W' Fc lc'
      refine st_forR (a := 0) (k := ps.length) (nw := []) (own := (own ++ [(I, oI)]) ++ [(I2, o2)]) (fun k _ m nw => nw = [] ∧ (m (Str.ofString "plain") = some (.ref P) ∧ m (Str.ofString "steps") = some (.ref T₁) ∧ m (Str.ofString "undoing") = some (.ref T₂) ∧ m (Str.ofString "i") = some (.int (i : Int) t) ∧ m (Str.ofString "j") = some (.int (j : Int) u)) ∧ ∃ vt, m (Str.ofString "total") = some vt ∧ ∃ z, vt = .int (sumTo (fun k => S i k * undoF ps k j) k) z) (fun _ _ _ _ _ j _ => j) Fc Nc (fun _ hp => nomatch hp) rfl hh
        (by rw [Nat.zero_add]; exact ev_range1 (ev_bi Wc boot_range) (lenE Fc lc' (Nc (P, lst pl e1) (List.mem_append_right [] (List.mem_append_left _ (List.mem_append_left _ mP)))).1 (Eq.trans (by rfl) c1') rfl rfl rfl rfl rfl rfl rfl) rfl) (by omega) ⟨rfl, ⟨Eq.trans (by rfl) c1', Eq.trans (by rfl) c2', Eq.trans (by rfl) c3, Eq.trans (by rfl) c4, rfl⟩, v0, rfl, p0⟩ ?_ ?_ rfl rfl (fun _ => rfl)
      · rintro I3 k x m₃ _ o3 hd nd ld hk ⟨rfl, ⟨d1, d2, d3, d4, d5⟩, vt, d6, z, rfl⟩ - Fd Nd
        rw [Nat.zero_add] at Fd
        have ld' := Nat.le_trans lc' ld
        have Wd' := wd_at W' Fd ld'
        have mo : ∀ p ∈ own, p ∈ [] ++ (((own ++ [(I, oI)]) ++ [(I2, o2)]) ++ [(I3, o3)]) := fun p hp => List.mem_append_right [] (List.mem_append_left _ (List.mem_append_left _ (List.mem_append_left _ hp)))
        have tv₁ := tab₁.val (k := nd) Nd fun p hp => mo _ (m₁ p hp)
        have tv₂ := tab₂.val (k := nd) Nd fun p hp => mo _ (m₂ p hp)
        have sm := ok.small i k hi hk
        refine st_asgV (P := IsI (sumTo (fun k => S i k * undoF ps k j) (k + 1))) Fd Nd rfl (c2 d_add Wd' (lI Fd (i := sumTo (fun k => S i k * undoF ps k j) k) ⟨z, rfl⟩ (Eq.trans (by rfl) d6)) (c2 d_mul Wd'
          (ev_cellT (N := ps.length) (k := ps.length) (M := S) ((lV Fd (Eq.trans (by rfl) d2)).post fun v h' n' k l e => by cases e; exact upTabV _ _ _ _ _ tv₁ k l) (lI Fd (i := (i : Int)) ⟨t, rfl⟩ (Eq.trans (by rfl) d4)) (lI Fd (i := (k : Int)) ⟨x, rfl⟩) hi hk (by omega) (by omega) (fun _ _ => rfl) (fun _ _ => rfl))
          (ev_cellT (N := ps.length) (k := ps.length) (M := undoF ps) ((lV Fd (Eq.trans (by rfl) d3)).post fun v h' n' k l e => by cases e; exact upTabV _ _ _ _ _ tv₂ k l) (lI Fd (i := (k : Int)) ⟨x, rfl⟩) (lI Fd (i := (j : Int)) ⟨u, rfl⟩ (Eq.trans (by rfl) d5)) hk hj (by omega) (by omega) (fun _ _ => rfl) (fun _ _ => rfl))
          upI (fun v₁ v₂ h' n' W k l p1 p2 => mul_ev W (r'.le (by decide)) p1 p2 sm)) upI (fun v₁ v₂ h' n' W k l p1 p2 => add_ev W (r'.le (by decide)) p1 p2)) ufI ?_ rfl rfl rfl
        rintro _ he ne le ⟨z', rfl⟩ Fe Ne
        exact st_nil ⟨he, ne, _, [], rfl, Fe, Ne, (fun _ hp => nomatch hp), rfl, ⟨Eq.trans (by rfl) d1, Eq.trans (by rfl) d2, Eq.trans (by rfl) d3, Eq.trans (by rfl) d4, Eq.trans (by rfl) d5⟩, _, rfl, z', rfl⟩
      · rintro m₃ _ hd nd ld ⟨rfl, ⟨d1, d2, d3, d4, d5⟩, vt, d6, z, rfl⟩ Fd Nd -
        have ld' := Nat.le_trans lc' ld
        rw [ok.undo i j hi hj] at d6
        refine st_if (c := false) Fd Nd rfl ?_ (fun e => nomatch e) ?_
        · have gPd := (Nd (P, lst pl e1) (List.mem_append_right [] (List.mem_append_left _ (List.mem_append_left _ mP)))).1
          exact ev_isCmp (lI Fd (i := if ((i : Int) == (j : Int)) = true then 2 * ((ps.length : Int) - 1) else 0) ⟨z, rfl⟩ d6) (ev_ifExp (P := IsI (if ((i : Int) == (j : Int)) = true then 2 * ((ps.length : Int) - 1) else 0)) (c := (i : Int) == (j : Int)) (ev_isCmp (lI Fd (i := (i : Int)) ⟨t, rfl⟩ d4) (lI Fd (i := (j : Int)) ⟨u, rfl⟩ d5) upI (fun a b h' n' _ _ pa pb => cmp_eqI pa pb) rfl)
            (fun e => by rw [if_pos e]; exact ev_mulI ev_int (ev_subI (lenE Fd ld' gPd d1 rfl rfl rfl rfl rfl rfl rfl) ev_int) (mulOk (by decide))) (fun e => by rw [if_neg (ne_true_of_eq_false e)]; exact ev_int)) upI (fun a b h' n' _ _ pa pb => by have e := cmp_neI (w := w) (A := A') pa pb; rw [bne_self_eq_false] at e; exact e) rfl
        · intro _ he ne le Fe Ne
          exact st_nil (st_nil ⟨he, ne, _, [], rfl, Fe, Ne, (fun _ hp => nomatch hp), rfl, d1, d2, d3, d4⟩)
    · rintro m₂' _ hb nb lb ⟨rfl, c1', c2', c3, c4⟩ Fb Nb -
      exact st_nil ⟨hb, nb, _, [], rfl, Fb, Nb, (fun _ hp => nomatch hp), rfl, c1', c2', c3⟩
  · rintro m₁' _ ha na la ⟨rfl, b1, b2, b3⟩ Fa Na -
    exact st_ret ev_bool fun v h' tk st' tl' e => q v h' tk (stays_trans Fa.keep st') (Nat.le_of_succ_le (Nat.le_trans l₅' (Nat.le_trans la tl'))) e
end

/-- the plain law: texts as lists of code points -/
def L8 (x : Str) : List Nat := x.cps.toList
theorem L8_inj {x y : Str} (h : L8 x = L8 y) : x = y := Str.ext' (Array.toList_inj.mp h)
theorem L8_append (x y : Str) : L8 (x ++ y) = L8 x ++ L8 y := by show (x ++ y).cps.toList = _; rw [Str.cps_append, Array.toList_append]; rfl
theorem L8_len (x : Str) : (L8 x).length = x.length := by simp [L8, Str.length]
theorem L8_sl : L8 sSl = [47] := by decide
def jl : List (List Nat) → List Nat
  | [] => []
  | [a] => a
  | a :: r => a ++ 47 :: jl r
theorem L8_join : ∀ xs : List Str, L8 (Str.join sSl xs) = jl (xs.map L8)
  | [] => rfl
  | [x] => rfl
  | x :: y :: r => by
    show L8 (x ++ sSl ++ Str.join sSl (y :: r)) = L8 x ++ 47 :: jl (L8 y :: r.map L8)
    rw [L8_append, L8_append, L8_sl, L8_join (y :: r)]; simp
theorem cut_free : ∀ {a b c d : List Nat}, 47 ∉ a → 47 ∉ b → a ++ 47 :: c = b ++ 47 :: d → a = b ∧ c = d
  | [], [], _, _, _, _, h => by simpa using h
  | [], y :: b, _, _, _, hb, h => by simp at h; exact absurd (h.1 ▸ .head _) hb
  | x :: a, [], _, _, ha, _, h => by simp at h; exact absurd (h.1 ▸ .head _) ha
  | x :: a, y :: b, c, d, ha, hb, h => by
    simp only [List.cons_append, List.cons.injEq] at h
    obtain ⟨e1, e2⟩ := cut_free (fun m => ha (.tail _ m)) (fun m => hb (.tail _ m)) h.2
    exact ⟨by rw [h.1, e1], e2⟩
theorem jl_inj : ∀ {xs ys : List (List Nat)}, (∀ p ∈ xs, 47 ∉ p) → (∀ p ∈ ys, 47 ∉ p) → xs ≠ [] → ys ≠ [] → jl xs = jl ys → xs = ys
  | [], _, _, _, h, _, _ => absurd rfl h
  | _, [], _, _, _, h, _ => absurd rfl h
  | [a], [b], _, _, _, _, h => by rw [show a = b from h]
  | [a], b :: c :: r, ha, _, _, _, h => by
    have : 47 ∈ a := by rw [show a = b ++ 47 :: jl (c :: r) from h]; simp
    exact absurd this (ha a (.head _))
  | a :: c :: r, [b], _, hb, _, _, h => by
    have : 47 ∈ b := by rw [← show a ++ 47 :: jl (c :: r) = b from h]; simp
    exact absurd this (hb b (.head _))
  | a :: c :: r, b :: d :: t, ha, hb, _, _, h => by
    obtain ⟨e1, e2⟩ := cut_free (ha a (.head _)) (hb b (.head _)) (show a ++ 47 :: jl (c :: r) = b ++ 47 :: jl (d :: t) from h)
    rw [e1, jl_inj (fun p hp => ha p (.tail _ hp)) (fun p hp => hb p (.tail _ hp)) (by simp) (by simp) e2]
theorem split_eq {x : Str} {ps : List Str} (hf : ∀ p ∈ ps, 47 ∉ L8 p) (hne : ps ≠ []) (h : L8 x = jl (ps.map L8)) : Txt.split x sSl = ps := by
  have h1 : L8 (Str.join sSl (Txt.split x sSl)) = L8 x := by rw [show Str.join sSl (Txt.split x sSl) = x from StrLaws.join_split x sSl]
  rw [L8_join, h] at h1
  have h2 : ∀ p ∈ Txt.split x sSl, 47 ∉ L8 p := fun p hp => StrLaws.split_free x 47 p (show p ∈ Txt.split x ⟨#[47]⟩ from hp)
  have h3 : Txt.split x sSl ≠ [] := fun e => by have := PyProof.Rows.split_pos x sSl; rw [e] at this; exact absurd this (by decide)
  have := jl_inj (fun p hp => by obtain ⟨q, hq, e⟩ := List.mem_map.mp hp; exact e ▸ h2 q hq) (fun p hp => by obtain ⟨q, hq, e⟩ := List.mem_map.mp hp; exact e ▸ hf q hq) (by simpa using h3) (by simpa using hne) h1
  exact (List.map_inj_right fun a b e => L8_inj e).mp this

theorem sumTo_congr {f g : Nat → Int} : ∀ {n : Nat}, (∀ k, k < n → f k = g k) → sumTo f n = sumTo g n
  | 0, _ => rfl
  | n + 1, h => by show sumTo f n + f n = sumTo g n + g n; rw [sumTo_congr fun k hk => h k (Nat.lt_succ_of_lt hk), h n (Nat.lt_succ_self n)]
theorem sumTo_add (f g : Nat → Int) : ∀ n, sumTo (fun k => f k + g k) n = sumTo f n + sumTo g n
  | 0 => rfl
  | n + 1 => by simp only [sumTo, sumTo_add f g n]; omega
theorem sumTo_sub (f g : Nat → Int) : ∀ n, sumTo (fun k => f k - g k) n = sumTo f n - sumTo g n
  | 0 => rfl
  | n + 1 => by simp only [sumTo, sumTo_sub f g n]; omega
theorem sumTo_mul (c : Int) (f : Nat → Int) : ∀ n, sumTo (fun k => c * f k) n = c * sumTo f n
  | 0 => by simp [sumTo]
  | n + 1 => by simp only [sumTo, sumTo_mul c f n, Int.mul_add]
theorem sumTo_zero : ∀ n, sumTo (fun _ => 0) n = 0
  | 0 => rfl
  | n + 1 => by simp [sumTo, sumTo_zero n]
theorem sumTo_none {f : Nat → Int} {n : Nat} (h : ∀ k, k < n → f k = 0) : sumTo f n = 0 := (sumTo_congr h).trans (sumTo_zero n)
theorem sumTo_const (c : Int) : ∀ n, sumTo (fun _ => c) n = n * c
  | 0 => by simp [sumTo]
  | n + 1 => by simp only [sumTo, sumTo_const c n]; grind
theorem sumTo_one (f : Nat → Int) (a : Nat) : ∀ n, sumTo (fun k => if k = a then f k else 0) n = if a < n then f a else 0
  | 0 => by simp [sumTo]
  | n + 1 => by simp only [sumTo, sumTo_one f a n]; grind
theorem sumTo_from (f : Nat → Int) (k : Nat) (n : Nat) : sumTo (fun t => if k ≤ t then f t else 0) n = (if k < n then f k else 0) + sumTo (fun t => if k + 1 ≤ t then f t else 0) n := by
  rw [← sumTo_one f k n, ← sumTo_add]
  refine sumTo_congr fun t _ => ?_
  grind
theorem sumTo_bound {f : Nat → Int} : ∀ {n : Nat}, (∀ k, k < n → 0 ≤ f k ∧ f k ≤ 1) → 0 ≤ sumTo f n ∧ sumTo f n ≤ n
  | 0, _ => by simp [sumTo]
  | n + 1, h => by
    have h1 := sumTo_bound (n := n) fun k hk => h k (Nat.lt_succ_of_lt hk)
    have h2 := h n (Nat.lt_succ_self n)
    simp only [sumTo]; omega
/-- t is i or stands above i, p the place above -/
def anc (p : Nat → Nat) (t i : Nat) : Int := (if t = i then 1 else 0) + (if h : p i < i then anc p t (p i) else 0)
termination_by i
section
variable {p : Nat → Nat} {n : Nat}
theorem anc_zero (t : Nat) : anc p t 0 = if t = 0 then 1 else 0 := by unfold anc; simp
theorem anc_step {t i : Nat} (h : p i < i) : anc p t i = (if t = i then 1 else 0) + anc p t (p i) := by
  conv => lhs; unfold anc
  rw [dif_pos h]
theorem anc_lt {t i : Nat} (h : i < t) : anc p t i = 0 := by
  induction i using Nat.strongRecOn with
  | ind i ih =>
    unfold anc
    rw [if_neg (by omega)]
    by_cases c : p i < i
    · rw [dif_pos c, ih _ c (by omega)]; rfl
    · rw [dif_neg c]; rfl
theorem anc_self (i : Nat) : anc p i i = 1 := by
  unfold anc
  rw [if_pos rfl]
  by_cases c : p i < i
  · rw [dif_pos c, anc_lt c]; rfl
  · rw [dif_neg c]; rfl
theorem anc_01 (t i : Nat) : anc p t i = 0 ∨ anc p t i = 1 := by
  induction i using Nat.strongRecOn with
  | ind i ih =>
    by_cases e : t = i
    · exact .inr (e ▸ anc_self t)
    · unfold anc
      rw [if_neg e]
      by_cases c : p i < i
      · rw [dif_pos c]; have := ih _ c; omega
      · rw [dif_neg c]; exact .inl rfl
theorem anc_top (H : ∀ i, 0 < i → i < n → p i < i) {i : Nat} (hi : i < n) : anc p 0 i = 1 := by
  induction i using Nat.strongRecOn with
  | ind i ih =>
    by_cases e : i = 0
    · rw [e]; exact anc_self 0
    · have c := H i (by omega) hi
      rw [anc_step c, if_neg (by omega), ih _ c (by omega)]; rfl
def upA (p : Nat → Nat) (n k i : Nat) : Int := sumTo (fun t => if k ≤ t then anc p t i else 0) n
def upC (p : Nat → Nat) (n k i j : Nat) : Int := sumTo (fun t => if k ≤ t then anc p t i * anc p t j else 0) n
theorem upA_succ {k : Nat} (h : k < n) (i : Nat) : upA p n k i = anc p k i + upA p n (k + 1) i := by unfold upA; rw [sumTo_from, if_pos h]
theorem upC_succ {k : Nat} (h : k < n) (i j : Nat) : upC p n k i j = anc p k i * anc p k j + upC p n (k + 1) i j := by unfold upC; rw [sumTo_from (fun t => anc p t i * anc p t j), if_pos h]
theorem upA_lt {k i : Nat} (h : i < k) : upA p n k i = 0 := by
  unfold upA
  refine sumTo_none fun t _ => ?_
  by_cases c : k ≤ t
  · rw [if_pos c, anc_lt (by omega)]
  · rw [if_neg c]
theorem upC_sym (k i j : Nat) : upC p n k i j = upC p n k j i := by
  unfold upC
  refine sumTo_congr fun t _ => ?_
  rw [Int.mul_comm]
theorem upC_lt {k i : Nat} (h : i < k) (j : Nat) : upC p n k i j = 0 := by
  unfold upC
  refine sumTo_none fun t _ => ?_
  by_cases c : k ≤ t
  · rw [if_pos c, anc_lt (by omega)]; exact Int.zero_mul _
  · rw [if_neg c]
theorem upA_self {k : Nat} (h : k < n) : upA p n k k = 1 := by rw [upA_succ h, anc_self, upA_lt (Nat.lt_succ_self k)]; rfl
theorem upC_self {k : Nat} (h : k < n) (i : Nat) : upC p n k i k = anc p k i := by rw [upC_succ h, anc_self, upC_sym, upC_lt (Nat.lt_succ_self k)]; omega
theorem upC_same (k i : Nat) : upC p n k i i = upA p n k i := by
  unfold upC upA
  refine sumTo_congr fun t _ => ?_
  rcases anc_01 (p := p) t i with e | e <;> rw [e] <;> rfl
theorem upA_step {k i : Nat} (h : p i < i) (hi : i < n) (hk : k ≤ i) : upA p n k i = 1 + upA p n k (p i) := by
  unfold upA
  have : (1 : Int) = sumTo (fun t => if t = i then 1 else 0) n := by rw [sumTo_one (fun _ => 1), if_pos hi]
  rw [this, ← sumTo_add]
  refine sumTo_congr fun t _ => ?_
  rw [anc_step h]
  grind
theorem upC_step {k i : Nat} (h : p i < i) (hi : i < n) (hk : k ≤ i) (j : Nat) : upC p n k i j = anc p i j + upC p n k (p i) j := by
  unfold upC
  have : anc p i j = sumTo (fun t => if t = i then anc p t j else 0) n := by rw [sumTo_one (fun t => anc p t j), if_pos hi]
  rw [this, ← sumTo_add]
  refine sumTo_congr fun t _ => ?_
  rw [anc_step h]
  grind
theorem upA_bound (k i : Nat) : 0 ≤ upA p n k i ∧ upA p n k i ≤ n := sumTo_bound fun t _ => by rcases anc_01 (p := p) t i with e | e <;> rw [e] <;> split <;> omega
theorem upC_bound (k i j : Nat) : 0 ≤ upC p n k i j ∧ upC p n k i j ≤ n := sumTo_bound fun t _ => by rcases anc_01 (p := p) t i with e | e <;> rcases anc_01 (p := p) t j with e' | e' <;> rw [e, e'] <;> split <;> omega
def dist (p : Nat → Nat) (n i j : Nat) : Int := upA p n 1 i + upA p n 1 j - 2 * upC p n 1 i j
theorem dist_sym (i j : Nat) : dist p n i j = dist p n j i := by unfold dist; rw [upC_sym 1 i j]; omega
theorem dist_self (i : Nat) : dist p n i i = 0 := by unfold dist; rw [upC_same]; omega
theorem dist_step (H : ∀ i, 0 < i → i < n → p i < i) {i : Nat} (h0 : 0 < i) (hi : i < n) (j : Nat) : dist p n i j = dist p n (p i) j + 1 - 2 * anc p i j := by
  unfold dist; rw [upA_step (k := 1) (H i h0 hi) hi h0, upC_step (k := 1) (H i h0 hi) hi h0]; omega
theorem dist_zero (i : Nat) : dist p n i 0 = upA p n 1 i := by unfold dist; rw [upC_sym, upC_lt (i := 0) (k := 1) (by decide), upA_lt (i := 0) (k := 1) (by decide)]; omega
theorem dist_bound (i j : Nat) : (dist p n i j).natAbs ≤ 2 * n := by
  have h1 := upA_bound (p := p) (n := n) 1 i
  have h2 := upA_bound (p := p) (n := n) 1 j
  have h3 := upC_bound (p := p) (n := n) 1 i j
  unfold dist; omega
theorem dist_of (H : ∀ i, 0 < i → i < n → p i < i) {S : Nat → Nat → Int} (h1 : ∀ i, i < n → S i i = 0) (h2 : ∀ i j, i < n → j < n → S i j = S j i) (h3 : ∀ i j, j < i → i < n → S i j = S (p i) j + 1) : ∀ m i j, i + j ≤ m → i < n → j < n → S i j = dist p n i j := by
  intro m
  induction m with
  | zero => intro i j h hi hj; obtain rfl : i = 0 := by omega
            obtain rfl : j = 0 := by omega
            rw [h1 _ hi, dist_self]
  | succ m ih =>
    have key : ∀ i j, i + j ≤ m + 1 → j < i → i < n → S i j = dist p n i j := fun i j h c hi => by
      have q := H i (by omega) hi
      rw [h3 i j c hi, ih (p i) j (by omega) (by omega) (by omega), dist_step H (by omega) hi, anc_lt c]; omega
    intro i j h hi hj
    rcases Nat.lt_trichotomy i j with c | c | c
    · rw [h2 i j hi hj, dist_sym, key j i (by omega) c hj]
    · rw [c, h1 _ hj, dist_self]
    · exact key i j h c hi
/-- how many hang below j -/
def kids (p : Nat → Nat) (n j : Nat) : Int := sumTo (fun m => if 1 ≤ m ∧ p m = j then 1 else 0) n
def tiesP (p : Nat → Nat) (n j : Nat) : Int := kids p n j + if j = 0 then 0 else 1
def tieP (p : Nat → Nat) (n k j : Nat) : Int := if k = j then -(tiesP p n k) else if (0 < k ∧ p k = j) ∨ (0 < j ∧ p j = k) then 1 else 0
theorem kids_sum (H : ∀ i, 0 < i → i < n → p i < i) (f : Nat → Int) : ∀ M, M ≤ n → sumTo (fun k => f k * sumTo (fun m => if 1 ≤ m ∧ p m = k then 1 else 0) M) n = sumTo (fun m => if 1 ≤ m then f (p m) else 0) M
  | 0, _ => by exact sumTo_none fun _ _ => Int.mul_zero _
  | M + 1, h => by
    have e : sumTo (fun k => if 1 ≤ M ∧ p M = k then f k else 0) n = if 1 ≤ M then f (p M) else 0 := by
      by_cases c : 1 ≤ M
      · have := sumTo_one f (p M) n
        rw [if_pos (by have := H M c (by omega); omega)] at this
        rw [if_pos c, ← this]
        exact sumTo_congr fun k _ => by grind
      · rw [if_neg c]
        exact sumTo_none fun k _ => by grind
    show _ = sumTo (fun m => if 1 ≤ m then f (p m) else 0) M + if 1 ≤ M then f (p M) else 0
    rw [← kids_sum H f M (by omega), ← e, ← sumTo_add]
    refine sumTo_congr fun k _ => ?_
    simp only [sumTo]
    grind
theorem kids_anc (H : ∀ i, 0 < i → i < n → p i < i) (j : Nat) : ∀ i, i < n → sumTo (fun k => if 1 ≤ k ∧ p k = j then anc p k i else 0) n = anc p j i - if j = i then 1 else 0 := by
  intro i
  induction i using Nat.strongRecOn with
  | ind i ih =>
    intro hi
    by_cases e : i = 0
    · subst e
      rw [anc_zero, Int.sub_self]
      refine sumTo_none fun k _ => ?_
      rw [anc_zero]; grind
    · have c := H i (by omega) hi
      have h1 := ih _ c (by omega)
      have h2 := sumTo_one (fun k => if 1 ≤ k ∧ p k = j then 1 else 0) i n
      rw [if_pos hi] at h2
      have h3 : sumTo (fun k => if 1 ≤ k ∧ p k = j then anc p k i else 0) n = sumTo (fun k => (if k = i then (if 1 ≤ k ∧ p k = j then 1 else 0) else 0) + if 1 ≤ k ∧ p k = j then anc p k (p i) else 0) n := sumTo_congr fun k _ => by rw [anc_step c]; grind
      rw [h3, sumTo_add, h1, h2, anc_step c]
      grind
theorem tie_sum (H : ∀ i, 0 < i → i < n → p i < i) {i j : Nat} (hi : i < n) (hj : j < n) : sumTo (fun k => dist p n i k * tieP p n k j) n = (if i = j then 2 else 0) - (2 - tiesP p n j) := by
  have h1 : sumTo (fun k => dist p n i k * tieP p n k j) n = sumTo (fun k => (if k = j then dist p n i k * -(tiesP p n k) else 0) + ((if k = p j then (if 0 < j then dist p n i k else 0) else 0) + ((dist p n i j + 1) * (if 1 ≤ k ∧ p k = j then 1 else 0) - 2 * (if 1 ≤ k ∧ p k = j then anc p k i else 0)))) n := sumTo_congr fun k hk => by
    unfold tieP
    by_cases c1 : k = j
    · subst c1
      have q := H k
      rw [if_pos rfl, if_pos rfl]
      have : ¬ (1 ≤ k ∧ p k = k) := fun x => by have := q x.1 hk; omega
      rw [if_neg this, if_neg this]
      by_cases c : 0 < k
      · rw [if_neg (by have := q c hk; omega)]; omega
      · rw [if_neg c]; split <;> omega
    · rw [if_neg c1, if_neg c1]
      by_cases c2 : 0 < k ∧ p k = j
      · have q := H k c2.1 hk
        rw [if_pos (.inl c2), if_pos (show 1 ≤ k ∧ p k = j from c2), if_pos (show 1 ≤ k ∧ p k = j from c2)]
        have d := dist_step H c2.1 hk i
        rw [c2.2, dist_sym k i, dist_sym j i] at d
        by_cases c : 0 < j
        · rw [if_neg (by have := H j c hj; omega)]; omega
        · rw [if_neg c]; split <;> omega
      · rw [if_neg (show ¬ (1 ≤ k ∧ p k = j) from c2), if_neg (show ¬ (1 ≤ k ∧ p k = j) from c2)]
        by_cases c3 : 0 < j ∧ p j = k
        · rw [if_pos (.inr c3), if_pos c3.2.symm, if_pos c3.1]; omega
        · rw [if_neg (by rintro (x | x) <;> contradiction)]
          by_cases c : k = p j
          · rw [if_pos c, if_neg (fun x => c3 ⟨x, c.symm⟩)]; omega
          · rw [if_neg c]; omega
  rw [h1, sumTo_add, sumTo_add, sumTo_sub, sumTo_mul, sumTo_mul, kids_anc H j i hi, sumTo_one (fun k => dist p n i k * -(tiesP p n k)), sumTo_one (fun k => if 0 < j then dist p n i k else 0), if_pos hj]
  show dist p n i j * -(tiesP p n j) + (_ + ((dist p n i j + 1) * kids p n j - _)) = _
  by_cases c : 0 < j
  · have q := H j c hj
    have d := dist_step H c hj i
    rw [dist_sym j i, dist_sym (p j) i] at d
    rw [if_pos (show p j < n by omega), if_pos c]
    unfold tiesP
    rw [if_neg (by omega)]
    grind
  · have e : j = 0 := by omega
    subst e
    have a := anc_top H hi
    unfold tiesP
    rw [if_neg (show ¬ 0 < 0 by decide), a]
    simp only [if_pos]
    grind
theorem tau_sum (H : ∀ i, 0 < i → i < n → p i < i) {i : Nat} (hi : i < n) : sumTo (fun k => dist p n i k * (2 - tiesP p n k)) n = (n : Int) - 1 := by
  have h1 : sumTo (fun k => dist p n i k * (2 - tiesP p n k)) n = sumTo (fun k => ((if k = 0 then dist p n i k else 0) + dist p n i k) - dist p n i k * kids p n k) n := sumTo_congr fun k _ => by unfold tiesP; grind
  have h2 := kids_sum H (dist p n i) n (Nat.le_refl n)
  have h2' : sumTo (fun k => dist p n i k * kids p n k) n = sumTo (fun m => if 1 ≤ m then dist p n i (p m) else 0) n := h2
  rw [h1, sumTo_sub, h2', sumTo_add, sumTo_one (dist p n i), if_pos (by omega)]
  have h3 : sumTo (dist p n i) n = sumTo (fun k => if 0 ≤ k then dist p n i k else 0) n := sumTo_congr fun k _ => by rw [if_pos (Nat.zero_le k)]
  rw [h3, sumTo_from (dist p n i) 0 n, if_pos (by omega)]
  have h4 : sumTo (fun k => if 0 + 1 ≤ k then dist p n i k else 0) n - sumTo (fun m => if 1 ≤ m then dist p n i (p m) else 0) n = sumTo (fun k => (if 1 ≤ k then 1 else 0) - 2 * (if 1 ≤ k then anc p k i else 0)) n := by
    rw [← sumTo_sub]
    refine sumTo_congr fun k hk => ?_
    by_cases c : 1 ≤ k
    · have d := dist_step H c hk i
      rw [dist_sym k i, dist_sym (p k) i] at d
      simp only [if_pos c, Nat.zero_add]; omega
    · simp only [if_neg c, Nat.zero_add]; rfl
  rw [sumTo_sub, sumTo_mul] at h4
  have h5 : sumTo (fun k => if 1 ≤ k then anc p k i else 0) n = upA p n 1 i := rfl
  have h6 := sumTo_from (fun _ => 1) 0 n
  have h7 : sumTo (fun t => if 0 ≤ t then (1 : Int) else 0) n = n := by rw [show (fun t => if 0 ≤ t then (1 : Int) else 0) = fun _ => 1 from by funext t; simp]; rw [sumTo_const]; omega
  rw [h7, if_pos (by omega)] at h6
  rw [h5] at h4
  have h8 := dist_zero (p := p) (n := n) i
  simp only [Nat.zero_add] at h4 h6 ⊢
  omega
theorem undo_sum (H : ∀ i, 0 < i → i < n → p i < i) {i j : Nat} (hi : i < n) (hj : j < n) : sumTo (fun k => dist p n i k * (((n : Int) - 1) * tieP p n k j + (2 - tiesP p n k) * (2 - tiesP p n j))) n = if i = j then 2 * ((n : Int) - 1) else 0 := by
  have h1 : sumTo (fun k => dist p n i k * (((n : Int) - 1) * tieP p n k j + (2 - tiesP p n k) * (2 - tiesP p n j))) n = sumTo (fun k => ((n : Int) - 1) * (dist p n i k * tieP p n k j) + (2 - tiesP p n j) * (dist p n i k * (2 - tiesP p n k))) n := sumTo_congr fun k _ => by grind
  rw [h1, sumTo_add, sumTo_mul, sumTo_mul, tie_sum H hi hj, tau_sum H hi]
  split <;> grind
end

theorem pw_ne : ∀ m, pw m ≠ 0
  | 0 => by decide
  | m + 1 => fun e => by have := pw_ne m; simp only [pw] at e; omega
section
variable {p : Nat → Nat} {n : Nat} {T : Nat → Nat → Int}
theorem elim_base (H : ∀ i, 0 < i → i < n → p i < i) (hT : ∀ i j, i < n → j < n → T i j = dist p n i j) (h2 : 2 ≤ n) : (∀ b, b < n → Bst T 0 0 b = upA p n 1 b + 1 - 2 * anc p 1 b) ∧ (∀ a, a < n → Bst T 1 a 0 = T (swp a) 0) ∧ (∀ b, 1 ≤ b → b < n → Bst T 1 1 b = upA p n 1 b) ∧
    (∀ a b, 2 ≤ a → a < n → 1 ≤ b → b < n → Bst T 1 a b = dist p n a b - dist p n a 0 * dist p n 1 b) ∧ Bst T 1 0 0 = 1 := by
  have p1 : p 1 = 0 := by have := H 1 (by decide) (by omega); omega
  have a1 : upA p n 1 1 = 1 := upA_self (by omega)
  have c1 : ∀ b, b < n → dist p n 1 b = upA p n 1 b + 1 - 2 * anc p 1 b := fun b hb => by
    unfold dist
    rw [a1, upC_sym, upC_self (by omega)]; omega
  have d10 : dist p n 1 0 = 1 := by rw [dist_zero, a1]
  have b0 : ∀ a b, Bst T 0 a b = T (swp a) b := fun _ _ => rfl
  have l0 : lastB T 0 = 1 := rfl
  have s : ∀ a b, 1 ≤ a → a < n → 1 ≤ b → b < n → Bst T 1 a b = dist p n (swp a) b - dist p n (swp a) 0 * dist p n 1 b := fun a b x1 x2 y1 y2 => by
    have hs : swp a < n := by unfold swp; split <;> (try split) <;> omega
    rw [Bst_succ, if_pos ⟨by omega, by omega⟩]
    unfold stepB
    rw [b0, b0, b0, b0, l0, Int.fdiv_one, show swp 0 = 1 from rfl, hT 1 0 (by omega) (by omega), hT 1 b (by omega) y2, hT _ _ hs y2, hT _ _ hs (by omega), d10]; omega
  refine ⟨fun b hb => ?_, fun a ha => ?_, fun b hb hb' => ?_, fun a b x1 x2 y1 y2 => ?_, ?_⟩
  · rw [b0, show swp 0 = 1 from rfl, hT 1 b (by omega) hb, c1 b hb]
  · rw [Bst_succ, if_neg (by omega)]; rfl
  · rw [s 1 b (Nat.le_refl 1) (by omega) hb hb', show swp 1 = 0 from rfl, dist_self, dist_sym, dist_zero]; omega
  · rw [s a b (by omega) x2 y1 y2, show swp a = a from by unfold swp; rw [if_neg (by omega), if_neg (by omega)]]
  · rw [Bst_succ, if_neg (by omega), b0, show swp 0 = 1 from rfl, hT 1 0 (by omega) (by omega), d10]
theorem elim_form (H : ∀ i, 0 < i → i < n → p i < i) (hT : ∀ i j, i < n → j < n → T i j = dist p n i j) (h2 : 2 ≤ n) : ∀ m, m + 2 ≤ n → lastB T (m + 2) = dueF (m + 1) ∧ ∀ a b, m + 2 ≤ a → a < n → m + 2 ≤ b → b < n → Bst T (m + 2) a b = pw (m + 1) * (((m : Int) + 1) * upC p n (m + 2) a b + upA p n (m + 2) a * upA p n (m + 2) b) := by
  obtain ⟨e1, e2, e3, e4, e5⟩ := elim_base H hT h2
  have a1 : upA p n 1 1 = 1 := upA_self (by omega)
  intro m
  induction m with
  | zero =>
    intro _
    have l1 : lastB T 1 = 1 := e5
    have q : Bst T 1 1 1 = 1 := by rw [e3 1 (Nat.le_refl 1) (by omega), a1]
    refine ⟨?_, fun a b x1 x2 y1 y2 => ?_⟩
    · rw [lastB_succ, Bst_succ, if_neg (by omega), q]; rfl
    · rw [Bst_succ, if_pos ⟨by omega, by omega⟩]
      unfold stepB
      rw [q, l1, Int.fdiv_one, e4 a b x1 x2 (by omega) y2, e4 a 1 x1 x2 (Nat.le_refl 1) (by omega), e3 b (by omega) y2, dist_self, dist_zero]
      have ha := upA_succ (p := p) (n := n) (k := 1) (by omega) a
      have hb := upA_succ (p := p) (n := n) (k := 1) (by omega) b
      have hc := upC_succ (p := p) (n := n) (k := 1) (by omega) a b
      have ha1 : upC p n 1 a 1 = anc p 1 a := upC_self (by omega) a
      have hb1 : upC p n 1 1 b = anc p 1 b := by rw [upC_sym]; exact upC_self (by omega) b
      unfold dist
      rw [ha1, hb1, a1]
      show _ = (1 * -2) * _
      simp only [Nat.zero_add] at *
      grind
  | succ m ih =>
    intro hm
    obtain ⟨l, f⟩ := ih (by omega)
    have hk : m + 2 < n := by omega
    have aa := upA_self (p := p) hk
    have q : Bst T (m + 2) (m + 2) (m + 2) = pw (m + 1) * ((m : Int) + 2) := by
      rw [f _ _ (Nat.le_refl _) hk (Nat.le_refl _) hk, upC_self hk, anc_self, aa]; grind
    refine ⟨?_, fun a b x1 x2 y1 y2 => ?_⟩
    · rw [lastB_succ, Bst_succ, if_neg (by omega), q]
      unfold dueF
      rw [if_neg (by omega), Nat.add_sub_cancel]
      grind
    · rw [Bst_succ, if_pos ⟨by omega, by omega⟩]
      unfold stepB
      have ha := upA_succ (p := p) hk a
      have hb := upA_succ (p := p) hk b
      have hc := upC_succ (p := p) hk a b
      have hac : upC p n (m + 2) a (m + 2) = anc p (m + 2) a := upC_self hk a
      have hbc : upC p n (m + 2) (m + 2) b = anc p (m + 2) b := by rw [upC_sym]; exact upC_self hk b
      rw [q, l, f a b (by omega) x2 (by omega) y2, f a (m + 2) (by omega) x2 (Nat.le_refl _) hk, f (m + 2) b (Nat.le_refl _) hk (by omega) y2, aa, hac, hbc]
      have d : dueF (m + 1) = ((m : Int) + 1) * pw m := by unfold dueF; rw [if_neg (by omega), Nat.add_sub_cancel]; push_cast; rfl
      have dn : dueF (m + 1) ≠ 0 := by
        rw [d]; exact Int.mul_ne_zero (by omega) (pw_ne m)
      have key : pw (m + 1) * ((m : Int) + 2) * (pw (m + 1) * (((m : Int) + 1) * upC p n (m + 2) a b + upA p n (m + 2) a * upA p n (m + 2) b)) - pw (m + 1) * (((m : Int) + 1) * anc p (m + 2) a + upA p n (m + 2) a * 1) * (pw (m + 1) * (((m : Int) + 1) * anc p (m + 2) b + 1 * upA p n (m + 2) b)) = dueF (m + 1) * (pw (m + 1 + 1) * (((m + 1 : Nat) + 1 : Int) * upC p n (m + 1 + 2) a b + upA p n (m + 1 + 2) a * upA p n (m + 1 + 2) b)) := by
        rw [d, ha, hb, hc]
        simp only [pw]
        push_cast
        grind
      rw [key, Int.mul_fdiv_cancel_left _ dn]
theorem head_at (H : ∀ i, 0 < i → i < n → p i < i) (hT : ∀ i j, i < n → j < n → T i j = dist p n i j) (h2 : 2 ≤ n) {k : Nat} (hk : k < n) : Bst T k k k = dueF k := by
  obtain ⟨e1, e2, e3, e4, e5⟩ := elim_base H hT h2
  match k, hk with
  | 0, _ => exact (show Bst T 0 0 0 = Bst T 1 0 0 from by rw [Bst_succ, if_neg (by omega)]).trans e5
  | 1, _ => rw [e3 1 (Nat.le_refl 1) (by omega), upA_self (by omega)]; rfl
  | m + 2, hk =>
    rw [(elim_form H hT h2 m (by omega)).2 _ _ (Nat.le_refl _) hk (Nat.le_refl _) hk, upC_self hk, anc_self, upA_self hk]
    unfold dueF
    rw [if_neg (by omega), show m + 2 - 1 = m + 1 from rfl]
    grind
theorem row_stays {a b : Nat} : ∀ k, a ≤ k → Bst T k a b = Bst T a a b
  | 0, h => by obtain rfl : a = 0 := by omega
               rfl
  | k + 1, h => by
    by_cases e : a = k + 1
    · rw [e]
    · rw [Bst_succ, if_neg (by omega), row_stays k (by omega)]
theorem head_due (H : ∀ i, 0 < i → i < n → p i < i) (hT : ∀ i j, i < n → j < n → T i j = dist p n i j) (h2 : 2 ≤ n) {k : Nat} (hk : k < n) : Bst T n k k = dueF k := by
  rw [row_stays n (Nat.le_of_lt hk), head_at H hT h2 hk]
theorem last_is (H : ∀ i, 0 < i → i < n → p i < i) (hT : ∀ i j, i < n → j < n → T i j = dist p n i j) (h2 : 2 ≤ n) : ∀ {k : Nat}, k < n → lastB T k = if k = 0 then 1 else dueF (k - 1)
  | 0, _ => rfl
  | k + 1, hk => by
    rw [lastB_succ, Bst_succ, if_neg (by omega), head_at H hT h2 (by omega), if_neg (by omega), Nat.add_sub_cancel]
theorem due_small : ∀ k, k < 8 → dueF k ≠ 0 ∧ (dueF k).natAbs < 1073741824 := by decide
theorem pw_small : ∀ k, k < 8 → (pw k).natAbs ≤ 128 := by decide
theorem form_small {m : Nat} {c a b : Int} (hm : m < 8) (h : n ≤ 8) (hc : 0 ≤ c ∧ c ≤ n) (ha : 0 ≤ a ∧ a ≤ n) (hb : 0 ≤ b ∧ b ≤ n) : (pw (m + 1) * (((m : Int) + 1) * c + a * b)).natAbs < 1073741824 := by
  have h1 : (pw (m + 1)).natAbs ≤ 256 := (by decide : ∀ k, k < 9 → (pw k).natAbs ≤ 256) _ (by omega)
  have h2 : 0 ≤ ((m : Int) + 1) * c ∧ ((m : Int) + 1) * c ≤ 8 * 8 := ⟨Int.mul_nonneg (by omega) hc.1, Int.mul_le_mul (by omega) (by omega) hc.1 (by decide)⟩
  have h3 : 0 ≤ a * b ∧ a * b ≤ 8 * 8 := ⟨Int.mul_nonneg ha.1 hb.1, Int.mul_le_mul (by omega) (by omega) hb.1 (by decide)⟩
  rw [Int.natAbs_mul]
  have h4 : (((m : Int) + 1) * c + a * b).natAbs ≤ 128 := by omega
  have := Nat.mul_le_mul h1 h4
  omega
theorem heads_ok (H : ∀ i, 0 < i → i < n → p i < i) (hT : ∀ i j, i < n → j < n → T i j = dist p n i j) (h2 : 2 ≤ n) (h8 : n ≤ 8) : HeadsOk n T := by
  obtain ⟨e1, e2, e3, e4, e5⟩ := elim_base H hT h2
  have row : ∀ a b, a < n → b < n → a ≤ b → (Bst T a a b).natAbs < 1073741824 := fun a b ha hb hab => by
    have u := upA_bound (p := p) (n := n) 1 b
    match a, ha, hab with
    | 0, _, _ => rw [e1 b hb]; rcases anc_01 (p := p) 1 b with e | e <;> rw [e] <;> omega
    | 1, _, hab => rw [e3 b hab hb]; omega
    | m + 2, ha, hab =>
      rw [(elim_form H hT h2 m (by omega)).2 _ _ (Nat.le_refl _) ha hab hb]
      exact form_small (by omega) h8 (upC_bound _ _ _) (upA_bound _ _) (upA_bound _ _)
  refine ⟨fun k hk => ?_, fun k hk => ?_, fun k hk => ?_, fun k i hk hi => ?_⟩
  · rw [head_at H hT h2 hk]; exact (due_small k (by omega)).2
  · rw [last_is H hT h2 hk]; split
    · decide
    · exact (due_small (k - 1) (by omega)).1
  · rw [last_is H hT h2 hk]; split
    · decide
    · exact (due_small (k - 1) (by omega)).2
  · by_cases c : i ≤ k
    · rw [row_stays k c]; exact row i k hi hk c
    · match k, hk, c with
      | 0, _, _ =>
        have hs : swp i < n := by unfold swp; split <;> (try split) <;> omega
        show (T (swp i) 0).natAbs < _
        rw [hT _ _ hs (by omega)]
        have := dist_bound (p := p) (n := n) (swp i) 0
        omega
      | 1, _, c =>
        rw [e4 i 1 (by omega) hi (Nat.le_refl 1) (by omega), dist_self]
        have := dist_bound (p := p) (n := n) i 1
        omega
      | m + 2, hk, c =>
        rw [(elim_form H hT h2 m (by omega)).2 _ _ (by omega) hi (Nat.le_refl _) hk]
        exact form_small (by omega) h8 (upC_bound _ _ _) (upA_bound _ _) (upA_bound _ _)
end

/-- the plain law's texts: a text from its code points -/
def mk (l : List Nat) : Str := ⟨l.toArray⟩
theorem L8_mk (l : List Nat) : L8 (mk l) = l := rfl
theorem mk_L8 (x : Str) : mk (L8 x) = x := L8_inj (L8_mk _)
theorem mk_len (l : List Nat) : (mk l).length = l.length := by rw [← L8_len, L8_mk]
theorem len_L8 (x : Str) : x.length = (L8 x).length := (L8_len x).symm
theorem mk_inj {a b : List Nat} (h : mk a = mk b) : a = b := by rw [← L8_mk a, h, L8_mk]
theorem eq_mk {x : Str} {l : List Nat} (h : L8 x = l) : x = mk l := by rw [← h, mk_L8]
theorem sSl_mk : sSl = mk [47] := L8_inj L8_sl
theorem sDot_mk : sDot = mk [46] := by decide
theorem sDD_mk : sDD = mk [46, 46] := by decide
theorem emp_mk : Str.ofString "" = mk [] := by decide
def ontoHd (c : Nat) : List (List Nat) → List (List Nat)
  | [] => [[c]]
  | h :: t => (c :: h) :: t
/-- the pieces between the slashes -/
def sp : List Nat → List (List Nat)
  | [] => [[]]
  | c :: r => if c = 47 then [] :: sp r else ontoHd c (sp r)
theorem sp_ne : ∀ l, sp l ≠ []
  | [] => by simp [sp]
  | c :: r => by
    unfold sp; split
    · simp
    · cases h : sp r <;> simp [ontoHd]
theorem jl_cons (a : List Nat) {r : List (List Nat)} (h : r ≠ []) : jl (a :: r) = a ++ 47 :: jl r := by
  cases r with
  | nil => exact absurd rfl h
  | cons b t => rfl
theorem jl_sp : ∀ l, jl (sp l) = l
  | [] => rfl
  | c :: r => by
    have ih := jl_sp r
    unfold sp; split
    · next e => rw [jl_cons _ (sp_ne r), ih, e]; rfl
    · cases h : sp r with
      | nil => exact absurd h (sp_ne r)
      | cons a t =>
        rw [h] at ih
        cases t with
        | nil => show c :: a = _; rw [show a = r from ih]
        | cons b t => show (c :: a) ++ 47 :: jl (b :: t) = _; rw [List.cons_append, show a ++ 47 :: jl (b :: t) = r from ih]
theorem sp_free : ∀ l, ∀ p ∈ sp l, 47 ∉ p
  | [] => by simp [sp]
  | c :: r => by
    have ih := sp_free r
    unfold sp; split
    · intro p hp; rcases List.mem_cons.mp hp with e | hp
      · rw [e]; exact List.not_mem_nil
      · exact ih p hp
    · next e =>
      cases h : sp r with
      | nil => exact absurd h (sp_ne r)
      | cons a t =>
        rw [h] at ih
        intro p hp
        rcases List.mem_cons.mp hp with e' | hp
        · rw [e']; intro m
          rcases List.mem_cons.mp m with m | m
          · exact e m.symm
          · exact ih a (.head _) m
        · exact ih p (.tail _ hp)
theorem sp_jl {xs : List (List Nat)} (hf : ∀ p ∈ xs, 47 ∉ p) (hne : xs ≠ []) : sp (jl xs) = xs := jl_inj (sp_free _) hf (sp_ne _) hne (jl_sp _)
theorem jl_app : ∀ {xs ys : List (List Nat)}, xs ≠ [] → ys ≠ [] → jl (xs ++ ys) = jl xs ++ 47 :: jl ys
  | [], _, h, _ => absurd rfl h
  | [a], ys, _, h => jl_cons a h
  | a :: b :: r, ys, _, h => by
    show jl (a :: (b :: r ++ ys)) = (a ++ 47 :: jl (b :: r)) ++ 47 :: jl ys
    rw [jl_cons a (by simp), jl_app (xs := b :: r) (by simp) h]; simp
theorem sp_app (a b : List Nat) : sp (a ++ 47 :: b) = sp a ++ sp b := by
  refine jl_inj (sp_free _) (fun p hp => ?_) (sp_ne _) (by simp [sp_ne]) ?_
  · rcases List.mem_append.mp hp with h | h
    · exact sp_free a p h
    · exact sp_free b p h
  · rw [jl_sp, jl_app (sp_ne a) (sp_ne b), jl_sp, jl_sp]
theorem split_sp (x : Str) : Txt.split x sSl = (sp (L8 x)).map mk := by
  refine split_eq (fun p hp => ?_) (by simpa using sp_ne _) ?_
  · obtain ⟨q, hq, rfl⟩ := List.mem_map.mp hp; exact sp_free _ q hq
  · rw [List.map_map, show L8 ∘ mk = id from funext L8_mk, List.map_id, jl_sp]
def keepC (c : List Nat) : Bool := (c.length != 0) && (c != [46])
/-- the names in a path -/
def cp (l : List Nat) : List (List Nat) := (sp l).filter keepC
theorem cp_app (a b : List Nat) : cp (a ++ 47 :: b) = cp a ++ cp b := by unfold cp; rw [sp_app, List.filter_append]
theorem comps_cp (x : Str) : comps x = (cp (L8 x)).map mk := by
  unfold comps cp
  rw [split_sp, List.filter_map]
  congr 1
  refine List.filter_congr fun c _ => ?_
  show ((mk c).length != 0 && mk c != sDot) = keepC c
  unfold keepC
  rw [mk_len, sDot_mk]
  congr 1
  by_cases e : c = [46]
  · subst e; decide
  · rw [show (c != [46]) = true from by simpa using e, show (mk c != mk [46]) = true from by simpa using fun h => e (mk_inj h)]
structure Good (c : List Nat) : Prop where
  keep : keepC c = true
  dd : c ≠ [46, 46]
  free : 47 ∉ c
theorem Good.ne {c : List Nat} (g : Good c) : c ≠ [] := fun e => by have := g.keep; rw [e] at this; exact absurd this (by decide)
theorem cp_one {c : List Nat} (g : Good c) : cp c = [c] := by
  have : sp c = [c] := sp_jl (xs := [c]) (fun p hp => by rw [List.mem_singleton.mp hp]; exact g.free) (by simp)
  unfold cp; rw [this, List.filter_cons_of_pos g.keep]; rfl
theorem cp_nil : cp [] = [] := by decide
theorem cp_dot : cp [46] = [] := by decide
theorem cp_jl {xs : List (List Nat)} (g : ∀ c ∈ xs, Good c) : cp (jl xs) = xs := by
  by_cases e : xs = []
  · subst e; decide
  · unfold cp; rw [sp_jl (fun p hp => (g p hp).free) e]; exact List.filter_eq_self.mpr fun c hc => (g c hc).keep
theorem jl_inj_good {xs ys : List (List Nat)} (g : ∀ c ∈ xs, Good c) (g' : ∀ c ∈ ys, Good c) (h : jl xs = jl ys) : xs = ys := by rw [← cp_jl g, h, cp_jl g']
theorem join_L8 (xs : List (List Nat)) : L8 (Txt.join sSl (xs.map mk)) = jl xs := by
  show L8 (Builtin.Str.glued sSl (xs.map mk)) = _
  rw [StrLaws.glued_eq_join, L8_join, List.map_map, show L8 ∘ mk = id from funext L8_mk, List.map_id]
theorem at_iff (x : Str) (i : Nat) : StrLaws.At x sSl x.length i ↔ (L8 x)[i]? = some 47 := StrLaws.subAt_one x 47 i
theorem starts_iff (x : Str) : Txt.startswith x sSl = true ↔ (L8 x).head? = some 47 := by
  have := StrLaws.subAt_one x 47 0
  unfold Txt.startswith
  rw [Bool.and_eq_true, decide_eq_true_iff, List.head?_eq_getElem?]
  exact this
theorem ends_iff (x : Str) (h : L8 x ≠ []) : Txt.endswith x sSl = true ↔ (L8 x).getLast? = some 47 := by
  have l : 0 < (L8 x).length := List.length_pos_iff.mpr h
  have e := len_L8 x
  have := StrLaws.subAt_one x 47 (x.length - 1)
  unfold Txt.endswith
  rw [Bool.and_eq_true, decide_eq_true_iff, List.getLast?_eq_getElem?, ← e]
  refine Iff.trans ⟨fun ⟨a, b⟩ => ⟨?_, b⟩, fun ⟨a, b⟩ => ⟨?_, b⟩⟩ this
  · show x.length - 1 + 1 ≤ x.length; omega
  · show 0 + 1 ≤ x.length; omega
theorem slice_to {x : Str} {k : Nat} (h : k ≤ x.length) : Txt.slice x none (some (k : Int)) = mk ((L8 x).take k) := by
  have := eq_of_beq (slice_closes_toL (x := x) (j := (k : Int)) (by omega) (by omega))
  rw [this]; show mk _ = _; congr 1
theorem slice_from {x : Str} (h : 1 ≤ x.length) : Txt.slice x (some 1) none = mk ((L8 x).drop 1) := by
  rw [slice_from_eq (b := (x.length : Int)) (by omega) (by omega) rfl]
  show mk _ = _
  congr 1
  show ((L8 x).drop 1).take ((x.length : Int) - 1).toNat = (L8 x).drop 1
  apply List.take_of_length_le
  rw [List.length_drop, L8_len]; omega
theorem slice_12 {x : Str} (h : 2 ≤ x.length) : Txt.slice x (some 1) (some 2) = mk (((L8 x).drop 1).take 1) := by
  have := eq_of_beq (slice_closesL (x := x) (i := 1) (j := 2) (by decide) (by decide) (by omega))
  rw [this]; rfl

theorem rfind_at {x : Str} {a nm : List Nat} (h : L8 x = a ++ 47 :: nm) (hn : 47 ∉ nm) : Txt.rfind x sSl = (a.length : Int) := by
  have at_a : StrLaws.At x sSl x.length a.length := (at_iff _ _).mpr (by rw [h]; simp)
  unfold Txt.rfind
  rcases StrLaws.last_spec x sSl with ⟨_, q⟩ | ⟨i, e, q1, q2⟩
  · exact absurd at_a (q _)
  · rw [e]
    have h1 := (at_iff _ _).mp q1
    rw [h] at h1
    have : i = a.length := by
      rcases Nat.lt_trichotomy i a.length with c | c | c
      · exact absurd at_a (q2 _ c)
      · exact c
      · rw [List.getElem?_append_right (Nat.le_of_lt c), List.getElem?_cons, if_neg (by omega)] at h1
        exact absurd (List.mem_of_getElem? h1) hn
    rw [this]
theorem rfind_no {x : Str} (h : 47 ∉ L8 x) : Txt.rfind x sSl = -1 := by
  unfold Txt.rfind
  rcases StrLaws.last_spec x sSl with ⟨e, _⟩ | ⟨i, e, q1, _⟩
  · rw [e]
  · exact absurd (List.mem_of_getElem? ((at_iff _ _).mp q1)) h
theorem head_at_sl {x : Str} {a nm : List Nat} (h : L8 x = a ++ 47 :: nm) (hn : 47 ∉ nm) : dirHead x = mk (a ++ [47]) := by
  unfold dirHead
  rw [rfind_at h hn, show (a.length : Int) + 1 = ((a.length + 1 : Nat) : Int) from rfl, slice_to (by rw [len_L8, h]; simp), h]
  congr 1
  rw [show a ++ 47 :: nm = (a ++ [47]) ++ nm from by simp]
  exact List.take_left' (by simp)
theorem head_no_sl {x : Str} (h : 47 ∉ L8 x) : dirHead x = mk [] := by
  unfold dirHead
  rw [rfind_no h, show (-1 : Int) + 1 = ((0 : Nat) : Int) from rfl, slice_to (Nat.zero_le _)]
  simp
theorem rstrip_sl {b : List Nat} {c : Nat} (hc : c ≠ 47) : Txt.rstripChars (mk ((b ++ [c]) ++ [47])) sSl = mk (b ++ [c]) := by
  have e1 : sSl.cps.contains 47 = true := by rw [sSl_mk]; simp [mk]
  have e2 : sSl.cps.contains c = false := by
    rw [sSl_mk]
    simp [mk, hc]
  have hi : stripHi sSl.cps.contains true (mk ((b ++ [c]) ++ [47])) 0 = (b ++ [c]).length := by
    unfold stripHi
    rw [if_pos rfl, mk_len, List.drop_zero]
    show _ - ((((b ++ [c]) ++ [47]).reverse).takeWhile _).length = _
    rw [List.reverse_append, List.reverse_append]
    show _ - ((47 :: c :: b.reverse).takeWhile _).length = _
    rw [List.takeWhile_cons_of_pos e1, List.takeWhile_cons_of_neg (by rw [e2]; decide)]
    simp
  have lo : stripLo sSl.cps.contains false (mk ((b ++ [c]) ++ [47])) = 0 := rfl
  unfold Txt.rstripChars Txt.stripBy
  rw [if_neg]
  · apply L8_inj
    show (PySem.stripped _ _ _ _).cps.toList = _
    unfold PySem.stripped
    rw [lo, hi, StrLaws.strSub_toList]
    show (((b ++ [c]) ++ [47]).drop 0).take ((b ++ [c]).length - 0) = b ++ [c]
    rw [List.drop_zero, Nat.sub_zero]
    exact List.take_left' rfl
  · unfold PySem.stripSame
    rw [lo, hi, mk_len]
    simp
theorem foldl_cps (v : Nat) : ∀ (n : Nat) (acc : Array Nat), List.foldl (fun x1 x2 => x1 ++ x2) acc (List.replicate n #[v]) = acc ++ (List.replicate n v).toArray
  | 0, acc => by simp
  | n + 1, acc => by rw [List.replicate_succ, List.foldl_cons, foldl_cps v n]; apply Array.toList_inj.mp; simp [List.replicate_succ]
theorem mul_all (n : Int) : ∀ c ∈ L8 (Txt.mul sSl n), c = 47 := by
  unfold Txt.mul
  split
  · intro c hc; exact absurd hc (by simp [L8, Str.empty])
  · split
    · intro c hc; rw [L8_sl] at hc; exact List.mem_singleton.mp hc
    · intro c hc
      have e : sSl.cps = #[47] := by decide
      rw [e, foldl_cps] at hc
      simp [L8] at hc
      exact hc.2
theorem mulOk_sl {k : Nat} (h : k ≤ 1000) : MulOk sSl (k : Int) := by
  have e : sSl.length = 1 := by decide
  refine ⟨by simp; omega, fun h1 _ => ?_, fun _ _ => ?_⟩
  · rw [e, gt_iff_lt, Int.not_lt]
    exact (Int.le_ediv_iff_mul_le (by omega)).mpr (by omega)
  · rw [e, Int.toNat_natCast]
    unfold Builtin.Str.tooLong
    rw [sizeLine_eq]
    exact decide_eq_false (by omega)
theorem last_ne {c : List Nat} (g : Good c) : ∃ b d, c = b ++ [d] ∧ d ≠ 47 :=
  ⟨c.dropLast, c.getLast g.ne, (List.dropLast_concat_getLast g.ne).symm, fun e => g.free (e ▸ List.getLast_mem g.ne)⟩
theorem jl_last : ∀ {cs : List (List Nat)}, cs ≠ [] → (∀ c ∈ cs, Good c) → ∃ b d, jl cs = b ++ [d] ∧ d ≠ 47
  | [], h, _ => absurd rfl h
  | [a], _, g => last_ne (g a (.head _))
  | a :: b :: r, _, g => by
    obtain ⟨u, d, e, h⟩ := jl_last (cs := b :: r) (by simp) fun c hc => g c (.tail _ hc)
    exact ⟨a ++ 47 :: u, d, by show a ++ 47 :: jl (b :: r) = _; rw [e]; simp, h⟩
theorem jl_snoc {cs : List (List Nat)} (h : cs ≠ []) (nm : List Nat) : jl (cs ++ [nm]) = jl cs ++ 47 :: nm := jl_app h (by simp)
theorem idx_len {k n : Nat} (h : k ≤ n) : (Builtin.Str.strSliceIndices none (some (k : Int)) 1 n).length = k := by
  rw [StrLaws.sliceIdx_none_lo, show (0 : Int) = ((0 : Nat) : Int) from rfl, StrLaws.strSliceIndices_plain (Nat.zero_le k) h]; simp
/-- the place above -/
theorem dir_of {x : Str} {T : List Nat} {cs : List (List Nat)} {nm : List Nat} (hT : T = [] ∨ T = [47]) (g : ∀ c ∈ cs, Good c) (gn : Good nm) (h : L8 x = T ++ jl (cs ++ [nm])) (hx : x.length ≤ 1000) : dirnameF x = mk (T ++ jl cs) ∧ DirOk x := by
  have nl : 0 < nm.length := List.length_pos_iff.mpr gn.ne
  have key : ∀ a, L8 x = a ++ 47 :: nm → DirOk x := fun a ha => by
    have l : x.length = a.length + 1 + nm.length := by rw [len_L8, ha]; simp; omega
    refine ⟨by omega, ?_, ?_⟩
    · rw [rfind_at ha gn.free, show (a.length : Int) + 1 = ((a.length + 1 : Nat) : Int) from rfl, idx_len (by omega)]; omega
    · rw [head_at_sl ha gn.free, mk_len]; exact mulOk_sl (by simp; omega)
  by_cases e : cs = []
  · subst e
    rcases hT with rfl | rfl
    · have h' : L8 x = nm := h
      have f : 47 ∉ L8 x := h' ▸ gn.free
      refine ⟨?_, by omega, ?_, ?_⟩
      · unfold dirnameF; rw [head_no_sl f]; rfl
      · rw [rfind_no f, show (-1 : Int) + 1 = ((0 : Nat) : Int) from rfl, idx_len (Nat.zero_le _), len_L8, h']; omega
      · rw [head_no_sl f, mk_len]; exact mulOk_sl (by simp)
    · have h' : L8 x = [] ++ 47 :: nm := h
      refine ⟨?_, key _ h'⟩
      unfold dirnameF; rw [head_at_sl h' gn.free]
      have : Txt.mul sSl (((mk ([] ++ [47])).length : Nat) : Int) = mk ([] ++ [47]) := by decide
      rw [this, if_neg (by simp)]; rfl
  · have h' : L8 x = (T ++ jl cs) ++ 47 :: nm := by rw [h, jl_snoc e]; simp
    refine ⟨?_, key _ h'⟩
    obtain ⟨b, d, e1, e2⟩ := jl_last e g
    have e3 : T ++ jl cs = (T ++ b) ++ [d] := by rw [e1]; simp
    unfold dirnameF
    rw [head_at_sl h' gn.free, if_pos, e3, rstrip_sl e2]
    rw [e3]
    have n1 : ((mk (T ++ b ++ [d] ++ [47])).length != 0) = true := by rw [mk_len]; simp
    have n2 : (mk (T ++ b ++ [d] ++ [47]) != Txt.mul sSl ((mk (T ++ b ++ [d] ++ [47])).length : Int)) = true := by
      rw [bne_iff_ne]
      intro q
      have := mul_all ((mk (T ++ b ++ [d] ++ [47])).length : Int) d (by rw [← q, L8_mk]; simp)
      exact e2 this
    rw [n1, n2]; rfl
theorem slashes_count (x : Str) : slashes x = (L8 x).count 47 := by
  unfold slashes
  rw [List.countP_map, List.count_eq_countP]
  refine List.countP_congr fun c _ => ?_
  show ((mk [c] == sSl) = true ↔ (c == 47) = true)
  rw [beq_iff_eq, beq_iff_eq, sSl_mk]
  exact ⟨fun e => by simpa using mk_inj e, fun e => by rw [e]⟩
theorem count_jl : ∀ {cs : List (List Nat)}, cs ≠ [] → (∀ c ∈ cs, 47 ∉ c) → (jl cs).count 47 + 1 = cs.length
  | [], h, _ => absurd rfl h
  | [a], _, g => by
    show a.count 47 + 1 = 1
    rw [List.count_eq_zero_of_not_mem (g a (.head _))]
  | a :: b :: r, _, g => by
    have ih := count_jl (cs := b :: r) (by simp) fun c hc => g c (.tail _ hc)
    show (a ++ 47 :: jl (b :: r)).count 47 + 1 = _
    rw [List.count_append, List.count_eq_zero_of_not_mem (g a (.head _)), List.count_cons_self]
    simp only [List.length_cons] at ih ⊢
    omega
/-- the depth -/
theorem depth_of {x top : Str} {T : List Nat} {cs : List (List Nat)} (hT : T = [] ∨ T = [47]) (ht : L8 top = T) (g : ∀ c ∈ cs, Good c) (h : L8 x = T ++ jl cs) : depthF x top = (cs.length : Int) := by
  have ex := eq_mk h
  have et := eq_mk ht
  unfold depthF
  rw [slashes_count, slashes_count, ht]
  have st : Txt.startswith (Str.ofString "") sSl = false := by decide
  unfold joinF
  rw [st, Bool.false_or]
  by_cases e : cs = []
  · subst e
    subst ex
    rcases hT with rfl | rfl <;> decide
  · obtain ⟨b, d, e1, e2⟩ := jl_last e g
    have hl : L8 x ≠ [] := by rw [h, e1]; simp
    have hlen : x.length ≠ 0 := by rw [len_L8]; exact fun q => hl (List.length_eq_zero_iff.mp q)
    have hend : ¬ (Txt.endswith x sSl = true) := by
      rw [ends_iff x hl, h, e1, ← List.append_assoc, List.getLast?_append]; simpa using e2
    rw [if_neg (by simpa using hlen), if_neg hend, L8_append, L8_append, L8_sl, emp_mk, L8_mk, h]
    have := count_jl e fun c hc => (g c hc).free
    rcases hT with rfl | rfl <;> simp [List.count_append] <;> omega

theorem cp_sl (r : List Nat) : cp (47 :: r) = cp r := by rw [show 47 :: r = [] ++ 47 :: r from rfl, cp_app, cp_nil]; rfl
theorem cp_top {T : List Nat} (hT : T = [] ∨ T = [47]) (r : List Nat) : cp (T ++ r) = cp r := by
  rcases hT with rfl | rfl
  · rfl
  · exact cp_sl r
theorem partsFrom_len (x : Str) (w : Nat) : ∀ (cuts : List Nat) (a : Nat), (StrLaws.partsFrom x w a cuts).length = cuts.length + 1
  | [], a => rfl
  | c :: r, a => by show (StrLaws.partsFrom x w (c + w) r).length + 1 = _; rw [partsFrom_len x w r]; rfl
theorem split_ok {x : Str} (h : x.length ≤ 700) : SplitOk x := by
  refine ⟨by omega, ?_, ?_, fun c hc => ?_⟩
  · rw [StrLaws.partsBetween_eq, partsFrom_len]
    have := StrLaws.occ_length_le_len x sSl 0 x.length (x.length + 1)
    rw [sizeLine_eq]; omega
  · have := split_le x sSl; omega
  · have := part_short hc; omega
theorem comps_short {x : Str} (h : x.length ≤ 700) : (comps x).length ≤ 702 ∧ ∀ c ∈ comps x, c.length ≤ 702 := by
  refine ⟨?_, fun c hc => ?_⟩
  · have h1 := split_le x sSl
    have h2 : (comps x).length ≤ (Txt.split x sSl).length := List.length_filter_le _ _
    omega
  · have := part_short (List.mem_filter.mp hc).1; omega
theorem joinOk_of {xs : List Str} (h : xs.length ≤ 702) (h' : ∀ c ∈ xs, c.length ≤ 702) : JoinOk sSl xs = true := by
  unfold JoinOk
  rw [StrLaws.joinFits h' (by rw [show sSl.length = 1 from by decide]; omega)]; rfl
def sumL (xs : List (List Nat)) : Nat := (xs.map (·.length + 1)).sum
theorem jl_le : ∀ xs : List (List Nat), (jl xs).length ≤ sumL xs
  | [] => Nat.zero_le _
  | [a] => by simp [jl, sumL]
  | a :: b :: r => by
    have := jl_le (b :: r)
    show (a ++ 47 :: jl (b :: r)).length ≤ _
    simp only [sumL, List.map_cons, List.sum_cons, List.length_append, List.length_cons] at this ⊢
    omega
theorem jl_eq : ∀ {xs : List (List Nat)}, xs ≠ [] → (jl xs).length + 1 = sumL xs
  | [], h => absurd rfl h
  | [a], _ => by simp [jl, sumL]
  | a :: b :: r, _ => by
    have := jl_eq (xs := b :: r) (by simp)
    show (a ++ 47 :: jl (b :: r)).length + 1 = _
    simp only [sumL, List.map_cons, List.sum_cons, List.length_append, List.length_cons] at this ⊢
    omega
theorem sumL_filter (q : List Nat → Bool) : ∀ xs : List (List Nat), sumL (xs.filter q) ≤ sumL xs
  | [] => Nat.le_refl _
  | a :: r => by
    have := sumL_filter q r
    by_cases c : q a = true
    · rw [List.filter_cons_of_pos c]; simp only [sumL, List.map_cons, List.sum_cons] at this ⊢; omega
    · rw [List.filter_cons_of_neg c]; simp only [sumL, List.map_cons, List.sum_cons] at this ⊢; omega
theorem jl_cp_le (l : List Nat) : (jl (cp l)).length ≤ l.length + 1 := by
  have h1 := jl_le (cp l)
  have h2 := sumL_filter keepC (sp l)
  have h3 := jl_eq (sp_ne l)
  rw [jl_sp] at h3
  unfold cp at *
  omega
theorem rest_of {x : Str} {T r : List Nat} (hT : T = [] ∨ T = [47]) (h : L8 x = T ++ r) (hr : r.head? ≠ some 47) (hne : r ≠ []) : rootF x = mk T ∧ restF x = mk r ∧ rootOk x = true := by
  have l : 1 ≤ x.length := by rw [len_L8, h]; have := List.length_pos_iff.mpr hne; simp; omega
  have s1 : Txt.slice x none (some 1) = mk ((L8 x).take 1) := slice_to (k := 1) l
  unfold rootF restF rootOk
  cases r with
  | nil => exact absurd rfl hne
  | cons c r =>
    have hc : c ≠ 47 := by simpa using hr
    rcases hT with rfl | rfl
    · have e : (Txt.slice x none (some 1) != sSl) = true := by
        rw [s1, h, sSl_mk, bne_iff_ne]; intro q; exact hc (by simpa using mk_inj q)
      rw [e, if_pos rfl, if_pos rfl]
      exact ⟨emp_mk, eq_mk h, rfl⟩
    · have e : (Txt.slice x none (some 1) != sSl) = false := by
        rw [s1, h, sSl_mk]; exact bne_self_eq_false _
      have e2 : (Txt.slice x (some 1) (some 2) != sSl) = true := by
        rw [slice_12 (by rw [len_L8, h]; simp), h, sSl_mk, bne_iff_ne]; intro q; exact hc (by simpa using mk_inj q)
      rw [e, e2, if_neg (by simp), if_neg (by simp), slice_from l, h]
      exact ⟨sSl_mk, rfl, rfl⟩
/-- what normpath makes of a spelled path -/
theorem norm_of {x : Str} {T r : List Nat} {C : List (List Nat)} (hT : T = [] ∨ T = [47]) (h : L8 x = T ++ r) (hr : r.head? ≠ some 47) (hC : cp (L8 x) = C) (g : ∀ c ∈ C, Good c) (hne : C ≠ []) (hx : x.length ≤ 700) : normF x = mk (T ++ jl C) ∧ NormOk x := by
  have cr : cp r = C := by rw [h, cp_top hT] at hC; exact hC
  have rne : r ≠ [] := fun e => by rw [e, cp_nil] at cr; exact hne cr.symm
  obtain ⟨e1, e2, e3⟩ := rest_of hT h hr rne
  have ec : comps (restF x) = C.map mk := by rw [comps_cp, e2, L8_mk, cr]
  have en : normF x = mk (T ++ jl C) := by
    unfold normF
    apply L8_inj
    rw [L8_append, ec, join_L8, e1, L8_mk, L8_mk]
  have lr : (restF x).length ≤ 700 := by rw [e2, mk_len]; rw [len_L8, h] at hx; simp at hx; omega
  have so := split_ok lr
  have cs := comps_short lr
  refine ⟨en, by omega, ?_, e3, fun c hc => ?_, ?_, so.num, so.parts, joinOk_of cs.1 cs.2, ?_, so.each⟩
  · rw [len_L8, h, List.length_append]; have := List.length_pos_iff.mpr rne; omega
  · rw [ec] at hc
    obtain ⟨q, hq, rfl⟩ := List.mem_map.mp hc
    rw [sDD_mk]; exact fun e => (g q hq).dd (mk_inj e)
  · obtain ⟨b, d, e, _⟩ := jl_last hne g
    rw [en, mk_len, e]; simp
  · rw [ec, len_L8, join_L8, ← cr]
    have := jl_cp_le r
    rw [e2, mk_len] at lr
    omega
theorem good_name (code : Int) : Good (L8 (pName code)) := by
  have m8 := fmod_nat (a := code) 8 (by decide)
  have m := fmod_nat (a := code.fdiv 8) 55295 (by decide)
  have key : ∀ x : Str, (x = pName0 code) → Good (L8 (if pBad x = true then Str.ofString "c" else x)) := by
    intro x hx
    have hk : ∃ k, k < 8 ∧ pName0 code = (pNames code).getD k (Str.ofString "") := ⟨_, by omega, rfl⟩
    obtain ⟨k, hk, e⟩ := hk
    rw [e] at hx
    match k, hk with
    | 0, _ => rw [show x = Str.ofString "a" from hx]; exact ⟨by decide, by decide, by decide⟩
    | 1, _ => rw [show x = Str.ofString "b" from hx]; exact ⟨by decide, by decide, by decide⟩
    | 2, _ => rw [show x = Str.ofString "ab" from hx]; exact ⟨by decide, by decide, by decide⟩
    | 3, _ => rw [show x = Str.ofString "a-" from hx]; exact ⟨by decide, by decide, by decide⟩
    | 4, _ => rw [show x = Str.ofString "..." from hx]; exact ⟨by decide, by decide, by decide⟩
    | 5, _ => rw [show x = Str.ofString "a.b" from hx]; exact ⟨by decide, by decide, by decide⟩
    | 6, _ => rw [show x = Str.ofString "..a" from hx]; exact ⟨by decide, by decide, by decide⟩
    | 7, _ =>
      replace hx : x = mk [(1 + (code.fdiv 8).fmod 55295).toNat] := hx
      generalize hc : (1 + (code.fdiv 8).fmod 55295).toNat = c at hx
      by_cases b : pBad x = true
      · rw [if_pos b]; exact ⟨by decide, by decide, by decide⟩
      · rw [if_neg b, hx, L8_mk]
        have b1 : c ≠ 47 := fun q => b (by rw [hx, q]; decide)
        have b2 : c ≠ 46 := fun q => b (by rw [hx, q]; decide)
        exact ⟨by unfold keepC; simpa using b2, by simp, by simpa using b1.symm⟩
  exact key _ rfl
theorem pre_of : ∀ {A : Str}, A ∈ pPre → (∀ y, cp (L8 A ++ y) = cp y) ∧ (L8 A).head? ≠ some 47 := by
  intro A hA
  simp only [pPre, List.mem_cons, List.not_mem_nil, or_false] at hA
  rcases hA with rfl | rfl | rfl
  · exact ⟨fun y => rfl, by decide⟩
  · refine ⟨fun y => ?_, by decide⟩
    rw [show L8 (Str.ofString "./") = [46, 47] from by decide, show [46, 47] ++ y = [46] ++ 47 :: y from rfl, cp_app, cp_dot]; rfl
  · refine ⟨fun y => ?_, by decide⟩
    rw [show L8 (Str.ofString ".//") = [46, 47, 47] from by decide, show [46, 47, 47] ++ y = [46] ++ 47 :: (47 :: y) from rfl, cp_app, cp_dot, cp_sl]; rfl
theorem suf_of : ∀ {B : Str}, B ∈ pSuf → ∀ y, cp (y ++ L8 B) = cp y := by
  intro B hB y
  simp only [pSuf, List.mem_cons, List.not_mem_nil, or_false] at hB
  have key : ∀ z, cp z = [] → cp (y ++ 47 :: z) = cp y := fun z hz => by rw [cp_app, hz, List.append_nil]
  rcases hB with rfl | rfl | rfl | rfl | rfl
  · rw [show L8 (Str.ofString "") = [] from by decide, List.append_nil]
  · exact key [] (by decide)
  · exact key [47] (by decide)
  · exact key [46, 47] (by decide)
  · exact key [46] (by decide)
theorem piece_of (code : Int) : cp (L8 (pieceF code)) = [L8 (pName code)] ∧ (L8 (pieceF code)).head? ≠ some 47 ∧ L8 (pieceF code) ≠ [] := by
  have m3 := fmod_nat (a := code) 3 (by decide)
  have m5 := fmod_nat (a := code) 5 (by decide)
  have g := good_name code
  have hA := pre_of (List.mem_of_getElem? (getD_some (xs := pPre) (i := (code.fmod 3).toNat) (by show _ < 3; omega)))
  have hB := suf_of (List.mem_of_getElem? (getD_some (xs := pSuf) (i := (code.fmod 5).toNat) (by show _ < 5; omega)))
  unfold pieceF
  rw [L8_append, L8_append]
  refine ⟨?_, ?_, ?_⟩
  · rw [hB, hA.1, cp_one g]
  · cases e : L8 (pPre.getD (code.fmod 3).toNat (Str.ofString "")) with
    | nil =>
      obtain ⟨c, r, e'⟩ := List.exists_cons_of_ne_nil g.ne
      have := g.free
      rw [e'] at this ⊢
      simp at this ⊢
      exact fun q => this.1 q.symm
    | cons c r => rw [e] at hA; exact hA.2
  · have := g.ne
    simp [this]
/-- a piece laid on a spelled path -/
theorem join_of {s b : Str} {T r nm : List Nat} {D : List (List Nat)} (hT : T = [] ∨ T = [47]) (h : L8 s = T ++ r) (hr : r.head? ≠ some 47) (hD : cp (L8 s) = D) (hb : (L8 b).head? ≠ some 47) (hb0 : L8 b ≠ []) (hc : cp (L8 b) = [nm]) :
    (∃ r', L8 (joinF s b) = T ++ r' ∧ r'.head? ≠ some 47) ∧ cp (L8 (joinF s b)) = D ++ [nm] ∧ (joinF s b).length ≤ s.length + b.length + 1 := by
  have nb : Txt.startswith b sSl = false := by rw [← Bool.not_eq_true]; exact fun e => hb ((starts_iff b).mp e)
  have hd : ∀ y z : List Nat, y ≠ [] → (y ++ z).head? = y.head? := fun y z h => by cases y with | nil => exact absurd rfl h | cons c r => rfl
  unfold joinF
  rw [nb, Bool.false_or]
  by_cases c0 : s.length = 0
  · have e0 : L8 s = [] := List.length_eq_zero_iff.mp (by rw [← len_L8]; exact c0)
    rw [if_pos (by simpa using c0)]
    have eT : T = [] := by rw [e0] at h; exact (List.append_eq_nil_iff.mp h.symm).1
    refine ⟨⟨L8 b, by rw [eT]; rfl, hb⟩, ?_, by omega⟩
    rw [← hD, e0, cp_nil, hc]; rfl
  · rw [if_neg (by simpa using c0)]
    have n0 : L8 s ≠ [] := fun e => c0 (by rw [len_L8, e]; rfl)
    by_cases c1 : Txt.endswith s sSl = true
    · rw [if_pos c1, L8_append]
      have e1 := (ends_iff s n0).mp c1
      have e2 : L8 s = (L8 s).dropLast ++ [47] := by
        have := List.dropLast_concat_getLast n0
        rw [List.getLast?_eq_some_getLast n0] at e1
        rw [Option.some.inj e1] at this; exact this.symm
      refine ⟨⟨r ++ L8 b, by rw [h]; simp, ?_⟩, ?_, by rw [Str.length_append]; omega⟩
      · cases r with
        | nil => exact hb
        | cons c r => exact hr
      · have e3 : L8 s ++ L8 b = (L8 s).dropLast ++ 47 :: L8 b := by
          conv => lhs; rw [e2]
          simp
        rw [e3, cp_app, hc, ← hD]
        congr 1
        conv => rhs; rw [e2]
        rw [cp_app, cp_nil, List.append_nil]
    · rw [if_neg c1, L8_append, L8_append, L8_sl]
      have rn : r ≠ [] := fun e => by
        rw [e, List.append_nil] at h
        rcases hT with rfl | rfl
        · exact n0 h
        · exact c1 ((ends_iff s n0).mpr (by rw [h]; rfl))
      refine ⟨⟨r ++ 47 :: L8 b, by rw [h]; simp, by rw [hd _ _ rn]; exact hr⟩, ?_, by rw [Str.length_append, Str.length_append, show sSl.length = 1 from by decide]; omega⟩
      show cp (L8 s ++ 47 :: L8 b) = _
      rw [cp_app, hc, hD]

theorem lcp_comm : ∀ xs ys : List Str, lcp xs ys = lcp ys xs
  | [], [] => rfl
  | [], _ :: _ => rfl
  | _ :: _, [] => rfl
  | x :: xs, y :: ys => by
    unfold lcp
    by_cases e : x = y
    · rw [if_pos e, if_pos e.symm, lcp_comm xs ys, e]
    · rw [if_neg e, if_neg fun q => e q.symm]
theorem ltS_tri {x y : Str} (h1 : ltS x y = false) (h2 : ltS y x = false) : x = y := by
  unfold ltS at h1 h2
  have h1 := of_decide_eq_false h1
  have h2 := of_decide_eq_false h2
  exact L8_inj (List.le_antisymm (List.not_lt.mp h2) (List.not_lt.mp h1))
theorem ltS_asym {x y : Str} (h1 : ltS x y = true) : ltS y x = false := by
  unfold ltS at *
  exact decide_eq_false (List.lt_asymm (of_decide_eq_true h1))
theorem gtL_lt : ∀ xs ys : List Str, gtL xs ys = ltL ys xs
  | [], [] => rfl
  | [], _ :: _ => rfl
  | _ :: _, [] => rfl
  | x :: xs, y :: ys => by
    unfold gtL ltL
    by_cases e : x = y
    · rw [if_pos e, if_pos e.symm, gtL_lt xs ys]
    · rw [if_neg e, if_neg fun q => e q.symm]
theorem ltL_tri : ∀ xs ys : List Str, ltL xs ys = false → ltL ys xs = false → xs = ys
  | [], [], _, _ => rfl
  | [], _ :: _, h, _ => nomatch h
  | _ :: _, [], _, h => nomatch h
  | x :: xs, y :: ys, h1, h2 => by
    unfold ltL at h1 h2
    by_cases e : x = y
    · rw [if_pos e] at h1; rw [if_pos e.symm] at h2; rw [e, ltL_tri xs ys h1 h2]
    · rw [if_neg e] at h1; rw [if_neg fun q => e q.symm] at h2; exact absurd (ltS_tri h1 h2) e
theorem ltL_asym : ∀ xs ys : List Str, ltL xs ys = true → ltL ys xs = false
  | [], [], _ => rfl
  | [], _ :: _, _ => rfl
  | _ :: _, [], h => nomatch h
  | x :: xs, y :: ys, h => by
    unfold ltL at h ⊢
    by_cases e : x = y
    · rw [if_pos e] at h; rw [if_pos e.symm, ltL_asym xs ys h]
    · rw [if_neg e] at h; rw [if_neg fun q => e q.symm]; exact ltS_asym h
theorem lt_pre : ∀ (i : Nat) (xs ys : List Str), ltL xs ys = true → i < xs.length → xs.take i = ys.take i → i < ys.length
  | _, [], _, _, h, _ => nomatch h
  | _, _ :: _, [], h, _, _ => nomatch h
  | 0, _ :: _, _ :: _, _, _, _ => Nat.succ_pos _
  | i + 1, x :: xs, y :: ys, h, hi, e => by
    simp only [List.take_succ_cons, List.cons.injEq] at e
    unfold ltL at h
    rw [if_pos e.1] at h
    exact Nat.succ_lt_succ (lt_pre i xs ys h (Nat.lt_of_succ_lt_succ hi) e.2)
theorem lo_hi (a b : List Str) : (lo2 a b = hi2 a b ∧ a = b) ∨ (ltL (lo2 a b) (hi2 a b) = true ∧ ((lo2 a b = a ∧ hi2 a b = b) ∨ (lo2 a b = b ∧ hi2 a b = a))) := by
  unfold lo2 hi2
  rw [gtL_lt]
  by_cases c1 : ltL b a = true
  · have := ltL_asym b a c1
    rw [if_pos c1, if_neg (by rw [this]; decide)]
    exact .inr ⟨c1, .inr ⟨rfl, rfl⟩⟩
  · rw [if_neg c1]
    by_cases c2 : ltL a b = true
    · rw [if_pos c2]; exact .inr ⟨c2, .inl ⟨rfl, rfl⟩⟩
    · rw [if_neg c2]
      exact .inl ⟨rfl, ltL_tri a b (by simpa using c2) (by simpa using c1)⟩
theorem lcp_self : ∀ xs : List Str, lcp xs xs = xs
  | [] => rfl
  | x :: xs => by unfold lcp; rw [if_pos rfl, lcp_self xs]
theorem lo_hi_lcp (a b : List Str) : lcp (lo2 a b) (hi2 a b) = lcp a b := by
  rcases lo_hi a b with ⟨h1, h2⟩ | ⟨_, ⟨h1, h2⟩ | ⟨h1, h2⟩⟩
  · rw [← h2] at h1 ⊢
    have : lo2 a a = a := by unfold lo2; split <;> rfl
    rw [← h1, this]
  · rw [h1, h2]
  · rw [h1, h2, lcp_comm]
theorem lo_hi_pre (a b : List Str) : ∀ i, i < (lo2 a b).length → (lo2 a b).take i = (hi2 a b).take i → i < (hi2 a b).length := by
  intro i hi e
  rcases lo_hi a b with ⟨h1, _⟩ | ⟨h, _⟩
  · rw [← h1]; exact hi
  · exact lt_pre i _ _ h hi e
/-- the common front of two lists of names -/
def lcpN : List (List Nat) → List (List Nat) → List (List Nat)
  | x :: xs, y :: ys => if x = y then x :: lcpN xs ys else []
  | _, _ => []
theorem lcp_mk : ∀ xs ys : List (List Nat), lcp (xs.map mk) (ys.map mk) = (lcpN xs ys).map mk
  | [], [] => rfl
  | [], _ :: _ => rfl
  | _ :: _, [] => rfl
  | x :: xs, y :: ys => by
    show (if mk x = mk y then mk x :: lcp (xs.map mk) (ys.map mk) else []) = _
    unfold lcpN
    by_cases e : x = y
    · rw [if_pos e, if_pos (congrArg mk e), lcp_mk xs ys]; rfl
    · rw [if_neg e, if_neg fun q => e (mk_inj q)]; rfl
theorem lcpN_pre : ∀ xs ys : List (List Nat), lcpN xs ys <+: xs
  | [], _ => by unfold lcpN; exact List.nil_prefix
  | _ :: _, [] => List.nil_prefix
  | x :: xs, y :: ys => by
    unfold lcpN
    by_cases e : x = y
    · rw [if_pos e]; exact (List.prefix_cons_inj x).mpr (lcpN_pre xs ys)
    · rw [if_neg e]; exact List.nil_prefix
theorem lcpN_comm : ∀ xs ys : List (List Nat), lcpN xs ys = lcpN ys xs
  | [], [] => rfl
  | [], _ :: _ => rfl
  | _ :: _, [] => rfl
  | x :: xs, y :: ys => by
    unfold lcpN
    by_cases e : x = y
    · rw [if_pos e, if_pos e.symm, lcpN_comm xs ys, e]
    · rw [if_neg e, if_neg fun q => e q.symm]
theorem lcpN_self : ∀ xs : List (List Nat), lcpN xs xs = xs
  | [] => rfl
  | x :: xs => by unfold lcpN; rw [if_pos rfl, lcpN_self xs]
theorem lcpN_snoc : ∀ (a b : List (List Nat)) (c : List Nat), ¬ (a ++ [c] <+: b) → lcpN (a ++ [c]) b = lcpN a b
  | [], [], c, _ => rfl
  | [], y :: ys, c, h => by
    show (if c = y then _ else _) = _
    rw [if_neg]
    · rfl
    · intro e; exact h (by rw [e]; exact ⟨ys, rfl⟩)
  | x :: a, [], c, _ => rfl
  | x :: a, y :: ys, c, h => by
    show (if x = y then x :: lcpN (a ++ [c]) ys else []) = if x = y then x :: lcpN a ys else []
    by_cases e : x = y
    · rw [if_pos e, if_pos e, lcpN_snoc a ys c fun q => h (by rw [e]; exact (List.prefix_cons_inj y).mpr q)]
    · rw [if_neg e, if_neg e]
/-- one spelled path of the tree -/
structure Spell (T : List Nat) (s : Str) (C : List (List Nat)) : Prop where
  head : ∃ r, L8 s = T ++ r ∧ r.head? ≠ some 47
  cps : cp (L8 s) = C
  good : ∀ c ∈ C, Good c
  len : s.length ≤ 700
theorem Spell.starts {T : List Nat} {s : Str} {C : List (List Nat)} (hT : T = [] ∨ T = [47]) (h : Spell T s C) : Txt.startswith s sSl = decide (T = [47]) := by
  obtain ⟨r, e, hr⟩ := h.head
  rcases hT with rfl | rfl
  · rw [show decide (([] : List Nat) = [47]) = false from by decide, ← Bool.not_eq_true]
    exact fun q => hr (by have := (starts_iff s).mp q; rw [e] at this; exact this)
  · rw [show decide (([47] : List Nat) = [47]) = true from by decide]
    exact (starts_iff s).mpr (by rw [e]; rfl)
theorem spell_comps {T : List Nat} {s : Str} {C : List (List Nat)} (h : Spell T s C) : comps s = C.map mk := by rw [comps_cp, h.cps]
theorem comX_of {T : List Nat} {a b : Str} {C D : List (List Nat)} (ha : Spell T a C) (hb : Spell T b D) : comX a b = (lcpN C D).map mk := by
  unfold comX; rw [lo_hi_lcp, spell_comps ha, spell_comps hb, lcp_mk]
theorem common_of {T : List Nat} {a b : Str} {C D : List (List Nat)} (hT : T = [] ∨ T = [47]) (ha : Spell T a C) (hb : Spell T b D) : L8 (commonF a b) = T ++ jl (lcpN C D) := by
  unfold commonF
  rw [L8_append, comX_of ha hb, join_L8, ha.starts hT]
  rcases hT with rfl | rfl
  · rw [if_neg (by decide), emp_mk, L8_mk]
  · rw [if_pos (by decide), L8_sl]
theorem meet_ok {T : List Nat} {a b top : Str} {C D : List (List Nat)} (hT : T = [] ∨ T = [47]) (ha : Spell T a C) (hb : Spell T b D) : MeetOk a b top := by
  have sh := comps_short ha.len
  have hp : lcpN C D <+: C := lcpN_pre C D
  have e1 := comX_of ha hb
  have e2 : (lcpN C D).map mk <+: comps a := by rw [spell_comps ha]; obtain ⟨t, e⟩ := hp; exact ⟨t.map mk, by rw [← List.map_append, e]⟩
  have hj : (jl (lcpN C D)).length ≤ 701 + 702 := by
    have h1 := jl_le (lcpN C D)
    have h2 : sumL (lcpN C D) ≤ sumL C := by
      obtain ⟨t, e⟩ := hp
      unfold sumL
      conv => rhs; rw [← e]
      rw [List.map_append, List.sum_append]; omega
    have h3 : sumL C ≤ a.length + 1 := by
      have h4 := sumL_filter keepC (sp (L8 a))
      have h5 := jl_eq (sp_ne (L8 a))
      rw [jl_sp, ← len_L8] at h5
      rw [← ha.cps]; unfold cp; omega
    have := ha.len
    omega
  have lT : T.length ≤ 1 := by rcases hT with rfl | rfl <;> decide
  refine ⟨split_ok ha.len, split_ok hb.len, by rw [ha.starts hT, hb.starts hT], lo_hi_pre _ _, ?_, ?_, ?_⟩
  · rw [e1]
    obtain ⟨t, e⟩ := e2
    refine joinOk_of ?_ fun c hc => sh.2 c (by rw [← e]; exact List.mem_append_left _ hc)
    have := sh.1; rw [← e, List.length_append] at this; omega
  · rw [e1, len_L8, join_L8]; omega
  · rw [len_L8, common_of hT ha hb, List.length_append]; omega

/-- the tree after k numbers: cs are the lists of names -/
structure Inv (T : List Nat) (k : Nat) (ps ss : List Str) (cs : List (List (List Nat))) : Prop where
  ps : ps = cs.map fun C => Mine.mk (T ++ jl C)
  len : ss.length = cs.length
  sp : ∀ i s, ss[i]? = some s → Spell T s (cs.getD i []) ∧ s.length ≤ 1 + 101 * k
  zero : cs[0]? = some []
  up : ∀ i C, cs[i]? = some C → 0 < i → ∃ j nm D, j < i ∧ cs[j]? = some D ∧ C = D ++ [nm]
  nodup : cs.Nodup
  few : cs.length ≤ 1 + k
  two : 1 ≤ k → 2 ≤ cs.length
theorem Inv.good {T : List Nat} {k : Nat} {ps ss : List Str} {cs : List (List (List Nat))} (h : Inv T k ps ss cs) {C : List (List Nat)} (hC : C ∈ cs) : ∀ c ∈ C, Good c := by
  obtain ⟨i, hi⟩ := List.mem_iff_getElem?.mp hC
  have l : i < ss.length := by rw [h.len]; exact (List.getElem?_eq_some_iff.mp hi).1
  have := (h.sp i _ (getD_some l)).1.good
  rw [List.getD_eq_getElem?_getD, hi] at this
  exact this
theorem place_inj {T : List Nat} {C D : List (List Nat)} (g : ∀ c ∈ C, Good c) (g' : ∀ c ∈ D, Good c) (h : mk (T ++ jl C) = mk (T ++ jl D)) : C = D := jl_inj_good g g' (List.append_cancel_left (mk_inj h))
theorem top_spell {T : List Nat} (hT : T = [] ∨ T = [47]) : Spell T (mk T) [] := by
  refine ⟨⟨[], by rw [L8_mk, List.append_nil], by simp⟩, ?_, (fun _ h => nomatch h), ?_⟩
  · rcases hT with rfl | rfl <;> decide
  · rcases hT with rfl | rfl <;> decide
theorem inv0 {T : List Nat} (hT : T = [] ∨ T = [47]) : Inv T 0 [mk T] [mk T] [[]] := by
  refine ⟨?_, rfl, fun i s e => ?_, rfl, fun i C e h => ?_, by simp, Nat.le_refl _, fun h => absurd h (by decide)⟩
  · show [mk T] = [mk (T ++ [])]; rw [List.append_nil]
  · match i, e with
    | 0, e =>
      cases e
      exact ⟨top_spell hT, by rcases hT with rfl | rfl <;> decide⟩
    | i + 1, e => exact absurd e (by simp)
  · match i, e, h with
    | i + 1, e, _ => exact absurd e (by simp)
theorem inv_step {T : List Nat} {k : Nat} {ps ss : List Str} {cs : List (List (List Nat))} (hT : T = [] ∨ T = [47]) (h : Inv T k ps ss cs) (hk : k ≤ 5) (x : Int) : TreeOk (ps, ss) x ∧ ∃ cs', Inv T (k + 1) (treeStep (ps, ss) x).1 (treeStep (ps, ss) x).2 cs' := by
  have pl : ps.length = cs.length := by rw [h.ps, List.length_map]
  have c1 : 1 ≤ cs.length := (List.getElem?_eq_some_iff.mp h.zero).1
  have m := fmod_nat (a := x) (ps.length : Int) (by omega)
  have hi : (x.fmod (ps.length : Int)).toNat < ss.length := by rw [h.len]; omega
  obtain ⟨hs, hl⟩ := h.sp _ _ (getD_some hi)
  have hc : cs[(x.fmod (ps.length : Int)).toNat]? = some (cs.getD (x.fmod (ps.length : Int)).toNat []) := by
    rw [List.getD_eq_getElem?_getD, List.getElem?_eq_getElem (by rw [← h.len]; exact hi)]; rfl
  have hone : oneF ps ss x = joinF (ss.getD (x.fmod (ps.length : Int)).toNat (Str.ofString "")) (pieceF (x.fdiv (ps.length : Int))) := rfl
  generalize hi0 : (x.fmod (ps.length : Int)).toNat = i0 at hi hs hl hc hone
  generalize ss.getD i0 (Str.ofString "") = s at hs hl hone
  generalize cs.getD i0 [] = D at hs hc
  generalize hb : x.fdiv (ps.length : Int) = code at hone
  obtain ⟨q1, q2, q3⟩ := piece_of code
  have gn := good_name code
  have lp := piece_len code
  obtain ⟨r, e1, e2⟩ := hs.head
  obtain ⟨⟨r', f1, f2⟩, f3, f4⟩ := join_of hT e1 e2 hs.cps q2 q3 q1
  rw [← hone] at f1 f3 f4
  generalize L8 (pName code) = nm at gn f3
  have gC : ∀ c ∈ D ++ [nm], Good c := fun c hc => by
    rcases List.mem_append.mp hc with hc | hc
    · exact hs.good c hc
    · rw [List.mem_singleton.mp hc]; exact gn
  have l7 : (oneF ps ss x).length ≤ 700 := by omega
  obtain ⟨n1, n2⟩ := norm_of hT f1 f2 f3 gC (by simp) l7
  refine ⟨⟨by show ss.length = ps.length; rw [h.len, pl], by show 1 ≤ ps.length; omega, by show ps.length ≤ 8; rw [pl]; have := h.few; omega, fun s hs => ?_, n2⟩, ?_⟩
  · obtain ⟨i, hi⟩ := List.mem_iff_getElem?.mp hs
    have := (h.sp i s hi).2
    omega
  · unfold treeStep
    have hany : (ps.any (· == normF (oneF ps ss x))) = true ↔ D ++ [nm] ∈ cs := by
      rw [List.any_eq_true, n1, h.ps]
      constructor
      · rintro ⟨y, hy, e⟩
        obtain ⟨C, hC, rfl⟩ := List.mem_map.mp hy
        rw [← place_inj (h.good hC) gC (eq_of_beq e)]; exact hC
      · intro hC
        exact ⟨_, List.mem_map.mpr ⟨_, hC, rfl⟩, beq_self_eq_true _⟩
    by_cases c : D ++ [nm] ∈ cs
    · rw [if_pos (hany.mpr c)]
      refine ⟨cs, h.ps, h.len, fun i s e => ⟨(h.sp i s e).1, by have := (h.sp i s e).2; omega⟩, h.zero, h.up, h.nodup, by have := h.few; omega, fun _ => ?_⟩
      by_cases k0 : k = 0
      · have hz := h.zero
        have hf := h.few
        rw [k0] at hf
        match cs, hz, hf, c with
        | [C], hz, _, c =>
          have e1 : D ++ [nm] = C := List.mem_singleton.mp c
          have e2 : C = [] := Option.some.inj hz
          exact absurd (e1.trans e2) (by simp)
      · exact h.two (by omega)
    · rw [if_neg fun q => c (hany.mp q)]
      refine ⟨cs ++ [D ++ [nm]], ?_, ?_, fun i s e => ?_, ?_, fun i C e h0 => ?_, ?_, ?_, fun _ => ?_⟩
      · show ps ++ [_] = _; rw [List.map_append, n1, h.ps]; rfl
      · show (ss ++ [_]).length = _; rw [List.length_append, List.length_append, h.len]; rfl
      · replace e : (ss ++ [oneF ps ss x])[i]? = some s := e
        rw [List.getD_eq_getElem?_getD]
        by_cases ci : i < ss.length
        · rw [List.getElem?_append_left ci] at e
          rw [List.getElem?_append_left (by rw [← h.len]; exact ci), ← List.getD_eq_getElem?_getD]
          exact ⟨(h.sp i s e).1, by have := (h.sp i s e).2; omega⟩
        · have ei : i = ss.length := by have := (List.getElem?_eq_some_iff.mp e).1; rw [List.length_append] at this; replace this : i < ss.length + 1 := this; omega
          subst ei
          rw [List.getElem?_append_right (Nat.le_refl _), Nat.sub_self] at e
          cases e
          rw [List.getElem?_append_right (by rw [h.len]; exact Nat.le_refl _), h.len, Nat.sub_self]
          exact ⟨⟨⟨r', f1, f2⟩, f3, gC, l7⟩, by omega⟩
      · rw [List.getElem?_append_left c1]; exact h.zero
      · by_cases ci : i < cs.length
        · rw [List.getElem?_append_left ci] at e
          obtain ⟨j, nm', D', a, b, c⟩ := h.up i C e h0
          exact ⟨j, nm', D', a, by rw [List.getElem?_append_left (by omega)]; exact b, c⟩
        · have ei : i = cs.length := by have := (List.getElem?_eq_some_iff.mp e).1; rw [List.length_append] at this; replace this : i < cs.length + 1 := this; omega
          subst ei
          rw [List.getElem?_append_right (Nat.le_refl _), Nat.sub_self] at e
          cases e
          exact ⟨i0, nm, D, by rw [← h.len]; exact hi, by rw [List.getElem?_append_left (by rw [← h.len]; exact hi)]; exact hc, rfl⟩
      · exact List.nodup_append.mpr ⟨h.nodup, by simp, fun a ha b hb e => c (by rw [List.mem_singleton.mp hb] at e; rw [← e]; exact ha)⟩
      · rw [List.length_append]; have := h.few; show _ + 1 ≤ _; omega
      · rw [List.length_append]; show _ ≤ _ + 1; omega
theorem inv_all {T : List Nat} (hT : T = [] ∨ T = [47]) (nums : List Int) (hn : nums.length ≤ 6) : ∀ i, i ≤ nums.length → ∃ cs, Inv T i (treeF (nums.take i) (mk T)).1 (treeF (nums.take i) (mk T)).2 cs
  | 0, _ => ⟨[[]], inv0 hT⟩
  | i + 1, h => by
    obtain ⟨cs, v⟩ := inv_all hT nums hn i (by omega)
    have e : nums[i]? = some nums[i] := List.getElem?_eq_getElem (by omega)
    rw [treeF_next e]
    exact (inv_step hT v (by omega) nums[i]).2
theorem tree_all {T : List Nat} (hT : T = [] ∨ T = [47]) (nums : List Int) (hn : nums.length ≤ 6) : ∀ i x, nums[i]? = some x → TreeOk (treeF (nums.take i) (mk T)) x := by
  intro i x e
  have hi := (List.getElem?_eq_some_iff.mp e).1
  obtain ⟨cs, v⟩ := inv_all hT nums hn i (by omega)
  exact (inv_step hT v (by omega) x).1

theorem sumTo_shift (G : Nat → Int) : ∀ k, sumTo G (k + 1) = G 0 + sumTo (fun m => G (m + 1)) k
  | 0 => by simp [sumTo]
  | k + 1 => by
    show sumTo G (k + 1) + G (k + 1) = G 0 + (sumTo (fun m => G (m + 1)) k + G (k + 1))
    rw [sumTo_shift G k]; omega
theorem countP_sum (q : Str → Bool) (l : List Str) : ∀ k, k ≤ l.length → ((l.take k).countP q : Int) = sumTo (fun m => if q (l.getD m (Str.ofString "")) = true then 1 else 0) k
  | 0, _ => by simp [sumTo]
  | k + 1, h => by
    rw [List.take_succ_eq_append_getElem (by omega), List.countP_append]
    show _ = sumTo _ k + _
    rw [← countP_sum q l k (by omega)]
    show _ = _ + if q (l.getD k (Str.ofString "")) = true then (1 : Int) else 0
    rw [List.getD_eq_getElem?_getD, List.getElem?_eq_getElem (by omega)]
    by_cases c : q l[k] = true <;> simp [c]
/-- a tree of lists of names, p the place above -/
structure Shape (n : Nat) (C : Nat → List (List Nat)) (p : Nat → Nat) : Prop where
  lt : ∀ i, 0 < i → i < n → p i < i
  up : ∀ i, 0 < i → i < n → ∃ nm, C i = C (p i) ++ [nm]
  zero : C 0 = []
  inj : ∀ i j, i < n → j < n → C i = C j → i = j
section
variable {n : Nat} {C : Nat → List (List Nat)} {p : Nat → Nat}
theorem Shape.front (h : Shape n C p) (i : Nat) : i < n → ∀ P, P <+: C i → ∃ k, k ≤ i ∧ C k = P := by
  induction i using Nat.strongRecOn with
  | ind i ih =>
    intro hi P hP
    by_cases e : i = 0
    · subst e
      rw [h.zero] at hP
      exact ⟨0, Nat.le_refl 0, by rw [h.zero, List.prefix_nil.mp hP]⟩
    · obtain ⟨nm, q⟩ := h.up i (by omega) hi
      have l := h.lt i (by omega) hi
      rw [q] at hP
      rcases List.prefix_concat_iff.mp hP with c | c
      · exact ⟨i, Nat.le_refl i, by rw [q, c]⟩
      · obtain ⟨k, a, b⟩ := ih (p i) l (by omega) P c
        exact ⟨k, by omega, b⟩
theorem Shape.not_front (h : Shape n C p) {i j : Nat} (hj : j < i) (hi : i < n) : ¬ C i <+: C j := fun q => by
  obtain ⟨k, a, b⟩ := h.front j (by omega) _ q
  have := h.inj k i (by omega) hi b
  omega
theorem Shape.steps (h : Shape n C p) {S : Nat → Nat → Int} (hS : ∀ i j, i < n → j < n → S i j = ((C i).length : Int) + (C j).length - 2 * ((lcpN (C i) (C j)).length : Int)) {i j : Nat} (hi : i < n) (hj : j < n) : S i j = dist p n i j := by
  refine dist_of h.lt (fun i hi => ?_) (fun i j hi hj => ?_) (fun i j hj hi => ?_) (i + j) i j (Nat.le_refl _) hi hj
  · rw [hS i i hi hi, lcpN_self]; omega
  · rw [hS i j hi hj, hS j i hj hi, lcpN_comm]; omega
  · have l := h.lt i (by omega) hi
    obtain ⟨nm, q⟩ := h.up i (by omega) hi
    rw [hS i j hi (by omega), hS (p i) j (by omega) (by omega)]
    have nf := h.not_front hj hi
    rw [q] at nf ⊢
    rw [lcpN_snoc _ _ _ nf, List.length_append]
    simp only [List.length_cons, List.length_nil]
    push_cast
    omega
end
theorem plain_of {T : List Nat} (hT : T = [] ∨ T = [47]) {nums : List Int} (h0 : 1 ≤ nums.length) (h6 : nums.length ≤ 6) (ht : topF nums = mk T) : ∃ ps ss S, LawOk nums ps ss S := by
  obtain ⟨cs, v⟩ := inv_all hT nums h6 nums.length (Nat.le_refl _)
  have tr := tree_all hT nums h6
  rw [← ht] at v tr
  rw [List.take_length] at v
  generalize hr : treeF nums (topF nums) = res at v
  obtain ⟨ps, ss⟩ := res
  replace v : Inv T nums.length ps ss cs := v
  have pl : ps.length = cs.length := by rw [v.ps, List.length_map]
  have sl : ss.length = cs.length := v.len
  have two := v.two h0
  have few := v.few
  generalize hn : cs.length = n at pl sl two few
  -- places and names
  have hget : ∀ i, i < n → cs[i]? = some (cs.getD i []) := fun i hi => by rw [List.getD_eq_getElem?_getD, List.getElem?_eq_getElem (by omega)]; rfl
  have gC : ∀ i, i < n → ∀ c ∈ cs.getD i [], Good c := fun i hi => v.good (List.mem_of_getElem? (hget i hi))
  have hps : ∀ i, i < n → ps.getD i (Str.ofString "") = mk (T ++ jl (cs.getD i [])) := fun i hi => by
    rw [v.ps, List.getD_eq_getElem?_getD, List.getElem?_map, hget i hi]; rfl
  have hss : ∀ i, i < n → Spell T (ss.getD i (Str.ofString "")) (cs.getD i []) := fun i hi => (v.sp i _ (getD_some (by omega))).1
  have hz : cs.getD 0 [] = [] := by rw [List.getD_eq_getElem?_getD, v.zero]; rfl
  have ht0 : L8 (ps.getD 0 (Str.ofString "")) = T := by rw [hps 0 (by omega), hz, L8_mk]; exact List.append_nil T
  have lps : ∀ i, i < n → (ps.getD i (Str.ofString "")).length ≤ 1000 := fun i hi => by
    have h1 := jl_cp_le (L8 (ss.getD i (Str.ofString "")))
    rw [(hss i hi).cps, ← len_L8] at h1
    have h2 := (hss i hi).len
    have h3 : T.length ≤ 1 := by rcases hT with rfl | rfl <;> decide
    rw [hps i hi, mk_len, List.length_append]; omega
  have mem_ps : ∀ x ∈ ps, ∃ i, i < n ∧ x = ps.getD i (Str.ofString "") := fun x hx => by
    obtain ⟨i, hi⟩ := List.mem_iff_getElem?.mp hx
    exact ⟨i, by have := (List.getElem?_eq_some_iff.mp hi).1; omega, by rw [List.getD_eq_getElem?_getD, hi]; rfl⟩
  -- the place above
  have hup : ∀ i, ∃ j, 0 < i → i < n → j < i ∧ ∃ nm, cs.getD i [] = cs.getD j [] ++ [nm] := fun i => by
    by_cases c : 0 < i ∧ i < n
    · obtain ⟨j, nm, D, a, b, e⟩ := v.up i _ (hget i c.2) c.1
      refine ⟨j, fun _ _ => ⟨a, nm, ?_⟩⟩
      rw [hget j (by omega)] at b
      rw [e, Option.some.inj b]
    · exact ⟨0, fun a b => absurd ⟨a, b⟩ c⟩
  obtain ⟨p, hp⟩ : ∃ p : Nat → Nat, ∀ i, 0 < i → i < n → p i < i ∧ ∃ nm, cs.getD i [] = cs.getD (p i) [] ++ [nm] := ⟨fun i => Classical.choose (hup i), fun i => Classical.choose_spec (hup i)⟩
  have sh : Shape n (fun i => cs.getD i []) p := ⟨fun i a b => (hp i a b).1, fun i a b => (hp i a b).2, hz, fun i j hi hj e => by
    have e : cs.getD i [] = cs.getD j [] := e
    exact (List.getElem?_inj (by omega) v.nodup).mp (by rw [hget i hi, hget j hj, e])⟩
  have H := sh.lt
  have dir : ∀ i, 0 < i → i < n → dirnameF (ps.getD i (Str.ofString "")) = ps.getD (p i) (Str.ofString "") ∧ DirOk (ps.getD i (Str.ofString "")) := fun i a b => by
    obtain ⟨l, nm, e⟩ := hp i a b
    have g := gC i b
    rw [e] at g
    have := dir_of (x := ps.getD i (Str.ofString "")) (cs := cs.getD (p i) []) (nm := nm) hT (fun c hc => g c (List.mem_append_left _ hc)) (g nm (List.mem_append_right _ (.head _))) (by rw [hps i b, L8_mk, e]) (lps i b)
    rw [← hps (p i) (by omega)] at this
    exact this
  have same : ∀ i j, i < n → j < n → ((ps.getD i (Str.ofString "") == ps.getD j (Str.ofString "")) = true ↔ i = j) := fun i j hi hj => by
    rw [beq_iff_eq]
    constructor
    · intro e
      rw [hps i hi, hps j hj] at e
      exact sh.inj i j hi hj (place_inj (gC i hi) (gC j hj) e)
    · intro e; rw [e]
  -- the table of steps
  have hstep : ∀ i j, i < n → j < n → stepF ps ss i j = ((cs.getD i []).length : Int) + (cs.getD j []).length - 2 * ((lcpN (cs.getD i []) (cs.getD j [])).length : Int) := fun i j hi hj => by
    unfold stepF
    rw [depth_of hT ht0 (gC i hi) (by rw [hps i hi, L8_mk]), depth_of hT ht0 (gC j hj) (by rw [hps j hj, L8_mk]), depth_of hT ht0 (fun c hc => gC i hi c ((lcpN_pre _ _).subset hc)) (common_of hT (hss i hi) (hss j hj))]
  have hS : ∀ i j, i < n → j < n → symF (stepF ps ss) i j = dist p n i j := fun i j hi hj => by
    refine sh.steps (S := symF (stepF ps ss)) (fun i j hi hj => ?_) hi hj
    unfold symF
    split
    · exact hstep i j hi hj
    · rw [hstep j i hj hi, lcpN_comm]; omega
  -- the ties
  have hab : ∀ m, 0 < m → m < n → (aboveF ps).getD (m - 1) (Str.ofString "") = ps.getD (p m) (Str.ofString "") := fun m a b => by
    rw [← (dir m a b).1]
    unfold aboveF
    rw [List.getD_eq_getElem?_getD, List.getElem?_map, List.getElem?_drop, show 1 + (m - 1) = m from by omega, getD_some (xs := ps) (i := m) (by omega)]; rfl
  have la : (aboveF ps).length = n - 1 := by unfold aboveF; rw [List.length_map, List.length_drop, pl]
  have hties : ∀ i, i < n → tiesF ps i = tiesP p n i := fun i hi => by
    unfold tiesF tiesP
    congr 1
    · have h1 := countP_sum (fun y => y == ps.getD i (Str.ofString "")) (aboveF ps) (n - 1) (by omega)
      rw [← la, List.take_length, la] at h1
      rw [h1]
      unfold kids
      obtain ⟨k, rfl⟩ : ∃ k, n = k + 1 := ⟨n - 1, by omega⟩
      rw [sumTo_shift, if_neg (by omega), Int.zero_add]
      refine sumTo_congr fun m hm => ?_
      have hm : m < k := hm
      have e := hab (m + 1) (by omega) (by omega)
      rw [Nat.add_sub_cancel] at e
      have l := H (m + 1) (by omega) (by omega)
      have s := same (p (m + 1)) i (by omega) hi
      rw [e]
      by_cases c : p (m + 1) = i
      · rw [if_pos (s.mpr c), if_pos ⟨by omega, c⟩]
      · rw [if_neg fun q => c (s.mp q), if_neg fun q => c q.2]
    · have s := same i 0 hi (by omega)
      by_cases c : i = 0
      · rw [if_pos (s.mpr c), if_pos c]
      · rw [if_neg fun q => c (s.mp q), if_neg c]
  have htie : ∀ i j, i < n → j < n → tieF ps i j = tieP p n i j := fun i j hi hj => by
    unfold tieF tieP
    rw [hties i hi]
    have e1 : ((i : Int) == (j : Int)) = true ↔ i = j := by rw [beq_iff_eq]; omega
    have half : ∀ a b, a < n → b < n → ((decide ((0 : Int) < (a : Int)) && ((aboveF ps).getD (a - 1) (Str.ofString "") == ps.getD b (Str.ofString ""))) = true ↔ (0 < a ∧ p a = b)) := fun a b ha hb => by
      rw [Bool.and_eq_true, decide_eq_true_iff]
      constructor
      · rintro ⟨x, y⟩
        have x : 0 < a := by omega
        rw [hab a x ha] at y
        have := H a x ha
        exact ⟨x, (same _ _ (by omega) hb).mp y⟩
      · rintro ⟨x, y⟩
        refine ⟨by omega, ?_⟩
        have := H a x ha
        rw [hab a x ha]
        exact (same _ _ (by omega) hb).mpr y
    have e2 : tiedF ps i j = true ↔ (0 < i ∧ p i = j) ∨ (0 < j ∧ p j = i) := by
      unfold tiedF
      rw [Bool.or_eq_true, half i j hi hj, half j i hj hi]
    by_cases c : i = j
    · rw [if_pos (e1.mpr c), if_pos c]
    · rw [if_neg fun q => c (e1.mp q), if_neg c]
      by_cases c2 : (0 < i ∧ p i = j) ∨ (0 < j ∧ p j = i)
      · rw [if_pos (e2.mpr c2), if_pos c2]
      · rw [if_neg fun q => c2 (e2.mp q), if_neg c2]
  have n8 : n ≤ 8 := by omega
  refine ⟨ps, ss, symF (stepF ps ss), ?_⟩
  refine { tree := tr, res := hr, two := by omega, few := by omega, eq := by omega, len := fun x hx => ?_, meets := fun i j hj hi => ?_, hS := rfl, heads := ?_, due := fun k hk => ?_, dirs := fun x hx => ?_, small := fun i k hi hk => ?_, undo := fun i j hi hj => ?_ }
  · obtain ⟨i, hi, rfl⟩ := mem_ps x hx
    have := lps i hi; omega
  · exact meet_ok hT (hss i (by omega)) (hss j (by omega))
  · rw [pl]; exact heads_ok H hS two n8
  · rw [pl] at hk ⊢; exact head_due H hS two hk
  · obtain ⟨i, hi⟩ := List.mem_iff_getElem?.mp hx
    rw [List.getElem?_drop] at hi
    have l := (List.getElem?_eq_some_iff.mp hi).1
    have : x = ps.getD (1 + i) (Str.ofString "") := by rw [List.getD_eq_getElem?_getD, hi]; rfl
    rw [this]
    exact (dir (1 + i) (by omega) (by omega)).2
  · rw [pl] at hi hk
    rw [hS i k hi hk]
    have := dist_bound (p := p) (n := n) i k
    omega
  · rw [pl] at hi hj ⊢
    have e1 : ((i : Int) == (j : Int)) = true ↔ i = j := by rw [beq_iff_eq]; omega
    have := undo_sum H hi hj
    rw [sumTo_congr (g := fun k => dist p n i k * (((n : Int) - 1) * tieP p n k j + (2 - tiesP p n k) * (2 - tiesP p n j))) fun k hk => ?_, this]
    · by_cases c : i = j
      · rw [if_pos (e1.mpr c), if_pos c]
      · rw [if_neg fun q => c (e1.mp q), if_neg c]
    · rw [hS i k hi hk]
      unfold undoF
      rw [pl, htie k j hk hj, hties k hk, hties j hj]
theorem plain_law (ns : List Int) (h : ns.length ≤ 63) : ∃ ps ss S, LawOk (numsF ns) ps ss S := by
  have hl : 1 ≤ (numsF ns).length ∧ (numsF ns).length ≤ 6 := by
    unfold numsF
    by_cases e : ns = []
    · rw [if_pos e]; decide
    · rw [if_neg e, List.length_map, List.length_take]
      have := List.length_pos_iff.mpr e
      omega
  by_cases c : (((numsF ns).sum.fmod 2) == (0 : Int)) = true
  · exact plain_of (.inr rfl) hl.1 hl.2 (by unfold topF; rw [if_pos c]; exact sSl_mk)
  · exact plain_of (.inl rfl) hl.1 hl.2 (by unfold topF; rw [if_neg c]; exact emp_mk)

/-- the view of the top: the statements that law reaches -/
def pick (l : List Stmt) (ks : List Nat) : List Stmt := ks.filterMap fun i => l[i]?
def view0 : Program := { PySem.Challenge.pw_pd0142_01 with main := { PySem.Challenge.pw_pd0142_01.main with body := pick PySem.Challenge.pw_pd0142_01.main.body [0,2,4,6,7,9,11,13,14,15,16,17,18,20,21,22,23,24,25,27,28,29,30,31,32,33,34] } }
noncomputable def kH : Hook := kHook K0 [2, 3, 93, 94, 107, 108, 114, 115, 121, 122, 128, 129, 135, 136, 140, 141, 147, 148, 154, 155, 161, 162, 168, 169, 175, 176, 182, 183, 189, 190, 196, 197, 203, 204, 208, 209, 213, 214, 220, 221, 225, 226, 230, 231] K0_as
theorem boot0 : ∀ w : World, (fencedOpening treeTable PySem.Challenge.pw_pd0142_01 w 2814).map (fun s => (s.heap, s.gens, s.drawn, s.toks)) = some (boot_heap w.params, Array.mk [], boot_drawn, boot_toks) :=
  boot_open (by kernel_rfl) (by decide +kernel) (fun s => by kernel_rfl)
/-- the top's run over a tree of objects, by the library's quick twins -/
noncomputable def topRunT (p : Program) (w : World) (n₀ : Nat) (ann : Option Value) : Nat → SharedT → Thread → Option SharedT
  | 0, _, _ => none
  | n + 1, s, t => match through t with
    | true => some s
    | false => match PySem.W.Fast.tw6613529449190102663 n₀ ann t with
      | false => none
      | true => match PySem.W.Fast.tw10156331382660048174 (PySem.W.Fast.tw11892475500146522536 PySem.W.Fast.tw14364793385576792824) p w s t with
        | some (s', t') => topRunT p w n₀ ann n s' t'
        | none => none
theorem topRun_tree {p : Program} {w : World} {n₀ : Nat} {ann : Option Value} : ∀ {n : Nat} {s s' : SharedT} {t : Thread}, topRunT p w n₀ ann n s t = some s' → topRun treeTable p w n₀ ann n s.abs t = some s'.abs
  | 0, _, _, _, h => by cases h
  | n + 1, s, s', t, h => by
    unfold topRunT at h
    rw [← PySem.W.Fast.te6613529449190102663, ← PySem.W.Fast.te10156331382660048174, ← PySem.W.Fast.te11892475500146522536, ← PySem.W.Fast.te14364793385576792824] at h
    unfold topRun
    cases ht : through t with
    | true => rw [ht] at h; cases h; rfl
    | false =>
      rw [ht] at h
      cases hk : stepOk n₀ ann t with
      | false => rw [hk] at h; cases h
      | true =>
        rw [hk] at h
        cases hs : stepT (denote treeTable) p w s t with
        | none => rw [hs] at h; cases h
        | some x =>
          obtain ⟨s₂, t₂⟩ := x
          rw [hs] at h
          rw [stepT_spec hs]
          exact topRun_tree h
def treeOf (l : List Obj) : BT := (l.foldl (fun (x : BT × Nat) o => (x.1.ins x.2 o, x.2 + 1)) (.nil, 0)).1
theorem left_tree {p q : Program} {loose : List Str} {Xt : Shared → Bool} {α : Type} {Yf : Shared → α} {Ya : World → α} {N : Nat} {g0 : Bool} {H₀ : Params → Heap} {gs₀ : Array GenState} {d₀ : Drawn} {k₀ m₀ : Nat} {ann : Option Value} {life : Life}
    (bo : ∀ w : World, (fencedOpening treeTable p w N).map (fun s => (s.heap, s.gens, s.drawn, s.toks)) = some (H₀ w.params, gs₀, d₀, k₀))
    (tr : ∀ P : Params, absHeap (treeOf (H₀ P).objs.toList) m₀ life = H₀ P)
    (size : ∀ P : Params, ((H₀ P).isNs mainGlobals && gs₀.size == 0, (H₀ P).objs.size, (H₀ P).nsMap mainGlobals "__annotations__") = (true, m₀, ann))
    (run : ∀ (w : World) (os : OsState), (topRunT p w m₀ ann N ⟨treeOf (H₀ w.params).objs.toList, m₀, life, gs₀, d₀, k₀, os⟩ (topStub p)).map (fun t => (fun s : Shared => (staticsOk (importedModules p.main.body) (H₀ w.params) s.heap && namesBound p s.heap && gensDone s && laidKept (H₀ w.params) s.heap,
        PySem.W.Fast.tw4187177175401517315 q loose (importedModules p.main.body) Xt g0 s, Yf s)) t.abs) = some (true, openGood q loose, Ya w)) : LeftO p q loose Xt Yf Ya N g0 := fun w => by
  obtain ⟨⟨h, gs, d, k, os⟩, e, e'⟩ := Option.map_eq_some_iff.mp (bo w)
  obtain ⟨rfl, rfl, rfl, rfl⟩ : h = H₀ w.params ∧ gs = gs₀ ∧ d = d₀ ∧ k = k₀ := by simpa using e'
  obtain ⟨z1, z2, z3⟩ : _ ∧ _ ∧ _ := by simpa only [Prod.mk.injEq] using size w.params
  obtain ⟨t, ht, l⟩ := Option.map_eq_some_iff.mp (run w os)
  rw [← PySem.W.Fast.te4187177175401517315] at l
  obtain ⟨l1, l2, l3⟩ : _ ∧ _ ∧ _ := by simpa only [Prod.mk.injEq] using l
  have r := topRun_tree ht
  have ea : SharedT.abs ⟨treeOf (H₀ w.params).objs.toList, m₀, life, gs, d, k, os⟩ = ⟨H₀ w.params, gs, d, k, os⟩ := by
    unfold SharedT.abs; rw [tr]
  rw [ea] at r
  have tf : topFrom treeTable p w N ⟨H₀ w.params, gs, d, k, os⟩ = some t.abs := by
    unfold topFrom
    dsimp only
    rw [z1, z2, z3, r]
    show (match staticsOk (importedModules p.main.body) (H₀ w.params) t.abs.heap && namesBound p t.abs.heap && gensDone t.abs && laidKept (H₀ w.params) t.abs.heap with | true => _ | false => _) = _
    rw [l1]
  unfold openEnds
  rw [e]
  show (topFrom treeTable p w N _).map _ = _
  rw [tf]
  exact congrArg some (Prod.ext l2 l3)
set_option maxHeartbeats 0 in
theorem left0 : LeftO PySem.Challenge.pw_pd0142_01 view0 [] (fun s => xlAt view0 [] s && recOk (RowW.records PySem.Challenge.rw_pd0142_01.row.toRowW) s) kH.obs kH.val 2814 :=
  left_tree (m₀ := 11) (ann := some (.ref 6)) (life := {}) boot0 (fun P => by kernel_rfl) (fun P => by kernel_rfl) (fun w os => by kernel_rfl)
theorem fa_of {w : World} {h : Heap} {p : Program} {loose : List Str} {mean : ExcName → Option Value} {mg mb : Str → Option Value} {fa : Addr} (X : (K0 w.params).In h) (T : Top p loose mean mg mb h) (e : mg (Str.ofString "law") = some (.ref fa)) : fa = 231 := by
  have := mg_of X T.g (d_law (w := w)).ns
  rw [e] at this; simpa using this
theorem post_ok (xs ys : List WData) : PySem.Challenge.rw_pd0142_01.row.claim.post xs (WData.bool true) ys = true := by with_unfolding_all rfl
theorem fin_walk {w : World} {s : Shared} {p : Program} {loose : List Str} {mean : ExcName → Option Value} {mg mb : Str → Option Value} {l : Addr} {vs : List Value} {ns : List Int} {Q : Value → Shared → Prop} {E : Value → Shared → Prop} (X : (K0 w.params).In s.heap) (T : Top p loose mean mg mb s.heap) (hl : s.heap.IsList l vs.toArray) (hi : IntsAre vs ns) (h63 : ns.length ≤ 63)
    (q : ∀ h' tk, s.heap.StaysIn h' → Q (.bool true) (put s h' tk)) : wpAny (Mo w) callerA (call (.ref 231) [.ref l]) Q E s := by
  obtain ⟨ps, ss, S, ok⟩ := plain_law ns h63
  have W : Wd0 w s.heap := ⟨X, _, _, _, _, _, T⟩
  have r : Rm 7 callerA := ⟨rfl, by decide, by decide⟩
  exact law_ev W r (v := .ref l) (n := s.toks) ⟨l, vs, rfl, hl, hi⟩ h63 ok s Q E (stays_refl _) (Nat.le_refl _) fun v h' tk st _ e => by cases e; exact q h' tk st
set_option maxHeartbeats 8000000 in
theorem fin : PySem.Challenge.rw_pd0142_01.Holds := by
  w_on; o_law
  refine holds_open (q := view0) (loose := []) (Xt := fun s => xlAt view0 [] s && recOk (RowW.records PySem.Challenge.rw_pd0142_01.row.toRowW) s) (XP := XL view0 []) (Yf := kH.obs) (Ya := kH.val) (YP := kH.says) (N := 2814) left0 (Hook.of kH) (Hook.keeps kH) (fun s e => xl_of s (Bool.and_eq_true_iff.mp e).1) XL.keeps (by rfl) (by rfl) (by rfl) (fun s e => recFacts_of (Bool.and_eq_true_iff.mp e).2) (by rfl) (by assumption) (by decide +kernel) ⟨rfl, rfl, rfl, rfl, rfl, by decide +kernel⟩ ?hw ?hc
  case hw => w_witness2
  k_fill
  intro w s₀ s₁ mg mb G Y fa o pm cd doc dV kV ho hd hcd hD hmg hg args vals as hpre hlay hrd hwl hlo
  have KX := kIn_of Y
  have X := (Ground.X G).1
  have V := (Ground.X G).2
  refine Ground.open G ?_
  intro T B D TE TW
  try (refine guard_noD D (by decide +kernel) ?_; clear D)
  clear hcd hd hD
  replace hmg : mg (Str.ofString "law") = some (.ref fa) := hmg
  have hfa : fa = 231 := fa_of KX T hmg
  subst hfa
  clear hmg
  wrow_args hpre hlay hrd hwl hlo
  rename_i nsx _ _ _ _ _ _ _ la vsx _ hLx _ _ _ hIx _ hcx _
  refine fin_walk KX T hLx hIx (by omega) fun h' tk st => ?_
  exact ⟨.inl ⟨_, _, _, rfl, (fun _ => rfl), .bool true, post_ok _ _, (fun _ => ⟨.nil, (fun _ h => nomatch h)⟩)⟩, .of_keep st, rfl, .of_eq hg⟩

end Mine
theorem PySem.Challenge.cw_pd0142_01_holds : PySem.Challenge.rw_pd0142_01.Holds := by
  exact Mine.fin
