import PyProof.Rows.All
import Wide.All
import OpenK.AllK
import Wide.FinOn
import Flt.RightMore
import Lean
import PySem.Challenge.RW_zn0015_01
set_option Elab.async false
set_option maxRecDepth 100000
set_option maxHeartbeats 8000000
set_option linter.unusedVariables false
set_option compiler.extract_closed false
open PySem PySem.W PyProof.Rows
namespace Mine
theorem slot_ba_setitem : Slot "bytearray" "__setitem__" "bytearray.__setitem__" :=
  .of (owner := "bytearray") (n := "__setitem__") (by rw [typeLookup_type, builtinLookup_eq_fast]; kernel_rfl) (by decide +kernel) (by decide +kernel) (by decide +kernel)
    (by first | exact .inl (by decide +kernel) | exact .inr (by decide +kernel)) (by rw [isSubtype_type]; kernel_rfl)
theorem entry_ba_setitem : entryFor table "bytearray.__setitem__" = some Builtin.«bytearray.__setitem__» := by first | exact entryFor_of_fast (by kernel_rfl) | exact entryFor_of_tree (by kernel_rfl)
theorem args_ba_setitem (a b c : Value) : argsOk "bytearray.__setitem__" ⟨[a, b, c], []⟩ := by unfold argsOk; kernel_rfl
noncomputable def baObj (b : Array UInt8) : Obj := { cls := .type "bytearray", data := .bytearray b }
section
variable {prog : Program} {w : World} {A : Around} {E : Value → Shared → Prop} {s : Shared}
theorem ba_setAt {D : Addr} {b : Array UInt8} {k x : Int} {t u : Tok} {Q : Unit → Shared → Prop} (ho : s.heap.get? D = some (baObj b)) (h0 : 0 ≤ k) (hn : k < b.size) (hz : b.size ≤ sizeLine) (hx0 : 0 ≤ x) (hx1 : x < 256)
    (hQ : Q () { s with heap := s.heap.update D (Obj.mapBytearray (·.setIfInBounds k.toNat x.toNat.toUInt8)) }) : wpAny (model prog w) A (setItem (.ref D) (.int k t) (.int x u)) Q E s := by
  have hfit : k < 2 ^ 63 := by rw [sizeLine_eq] at hz; lia
  have hT : s.TypeIs (.ref D) "bytearray" := ⟨_, ho, rfl⟩
  unfold setItem
  try with_reducible refine wpAny_holding ?_
  first | refine wpAny_bind (wpAny_pure ?_) | skip
  refine wpAny_bind (wpAny_sequenceKey hT (by decide) ?_)
  refine wpAny_bind (wpAny_callSpecial?_slot (name := Str.ofString "__setitem__") hT slot_ba_setitem
    (wpAny_call_entry slot_ba_setitem hT entry_ba_setitem ?_ (args_ba_setitem _ _ _)))
  show wpAny _ _ (Builtin.Bytes.subscript? (.int k t) >>= _) _ _ s
  refine wpAny_bind ?_
  unfold Builtin.Bytes.subscript?
  refine wpAny_bind (wpAny_specialOf (T := "int") (typeIs_int s k t) int_index ?_)
  show wpAny _ _ (asIndex (.int k t) >>= _) _ _ s
  refine wpAny_bind (wpAny_of_eq (a := k) rfl ?_)
  show wpAny _ _ (if (!Builtin.Bytes.fitsIndex k) = true then _ else _) _ _ s
  have hf : Builtin.Bytes.fitsIndex k = true := by unfold Builtin.Bytes.fitsIndex; simp only [Bool.and_eq_true, decide_eq_true_eq]; lia
  rw [if_neg (by rw [hf]; decide)]
  refine wpAny_pure ?_
  show wpAny _ _ (Builtin.Bytes.byteValue (.int x u) >>= _) _ _ s
  refine wpAny_bind ?_
  unfold Builtin.Bytes.byteValue
  show wpAny _ _ (asIndex (.int x u) >>= _) _ _ s
  refine wpAny_bind (wpAny_of_eq (a := x) rfl ?_)
  show wpAny _ _ (if (decide (x < 0) || decide (x ≥ 256)) = true then _ else _) _ _ s
  rw [if_neg (by simp; lia)]
  refine wpAny_pure ?_
  show wpAny _ _ (Builtin.Bytes.payload (.ref D) >>= _) _ _ s
  refine wpAny_bind ?_
  unfold Builtin.Bytes.payload Builtin.Bytes.payload?
  show wpAny _ _ ((load D >>= _) >>= _) _ _ s
  refine wpAny_bind (wpAny_bind (wpAny_load ho ?_))
  show wpAny _ _ (pure (some b)) _ _ s
  refine wpAny_pure (wpAny_pure ?_)
  have hsx : seqIndex? k b.size = some k.toNat := by
    unfold seqIndex?
    have e1 : (if k < 0 then k + (b.size : Int) else k) = k := if_neg (by lia)
    simp only [e1]
    rw [if_pos (by simp only [Bool.and_eq_true, decide_eq_true_eq]; lia)]
  rw [hsx]
  show wpAny _ _ (updateBytearray D _ >>= _) _ _ s
  refine wpAny_bind ?_
  unfold updateBytearray
  refine wpAny_bind (wpAny_load ho ?_)
  show wpAny _ _ (update D _ >>= _) _ _ s
  refine wpAny_bind (wpAny_update ho ?_)
  have hg : (s.heap.update D (Obj.mapBytearray (·.setIfInBounds k.toNat x.toNat.toUInt8))).get? D = some (baObj (b.setIfInBounds k.toNat x.toNat.toUInt8)) := Heap.get?_update_self (Obj.mapBytearray (·.setIfInBounds k.toNat x.toNat.toUInt8)) ho rfl
  refine wpAny_lookBehind hg ?_ ?_
  · show (if (b.setIfInBounds k.toNat x.toNat.toUInt8).size > sizeLine then some "bytearray:memory" else none) = none
    rw [if_neg]
    rw [Array.size_setIfInBounds]
    lia
  first
    | exact wpAny_pure ⟨.none, rfl, wpAny_pure hQ⟩
    | exact wpAny_bind (wpAny_pure (wpAny_pure ⟨.none, rfl, wpAny_pure hQ⟩))
theorem ba_no_bytes : typeLookup (.type "bytearray") "__bytes__" = pure none := by rw [typeLookup_type, builtinLookup_eq_fast]; kernel_rfl
theorem ba_no_index : typeLookup (.type "bytearray") "__index__" = pure none := by rw [typeLookup_type, builtinLookup_eq_fast]; kernel_rfl
theorem ba_buffer : typeLookup (.type "bytearray") "__buffer__" = pure (some (.builtin "bytearray.__buffer__")) := by rw [typeLookup_type, builtinLookup_eq_fast]; kernel_rfl
theorem ba_release : typeLookup (.type "bytearray") "__release_buffer__" = pure (some (.builtin "bytearray.__release_buffer__")) := by rw [typeLookup_type, builtinLookup_eq_fast]; kernel_rfl
theorem ba_sub : isSubtype (.type "bytearray") (.type "bytearray") = pure true := by rw [isSubtype_type]; kernel_rfl
theorem ba_own {M : Model} {D : Addr} {b : Array UInt8} {name id : String} {Q : Bool → Shared → Prop} (ho : s.heap.get? D = some (baObj b)) (look : typeLookup (.type "bytearray") (name : PySem.Str) = pure (some (.builtin id))) (he : id.endsWith ("." ++ name) = true) (hd : id.dropRight (name.length + 1) = "bytearray")
    (h : Q true s) : wpAny M A (Builtin.Bytes.slotIsOwn (.ref D) name) Q E s := by
  have hT : s.TypeIs (.ref D) "bytearray" := ⟨_, ho, rfl⟩
  unfold Builtin.Bytes.slotIsOwn
  refine wpAny_bind (wpAny_specialOf hT look ?_)
  dsimp only
  rw [he, hd]
  exact wpAny_isInstance hT ba_sub h
theorem ba_buf {M : Model} {D : Addr} {b : Array UInt8} {id : String} {full : Bool} {Q : Option (Array UInt8) → Shared → Prop} (ho : s.heap.get? D = some (baObj b)) (h : Q (some b) s) : wpAny M A (Builtin.Bytes.buffer? id (.ref D) full) Q E s := by
  have hT : s.TypeIs (.ref D) "bytearray" := ⟨_, ho, rfl⟩
  unfold Builtin.Bytes.buffer?
  refine wpAny_bind (wpAny_specialOf hT ba_buffer ?_)
  dsimp only
  refine wpAny_bind (ba_own ho ba_buffer (by decide +kernel) (by decide +kernel) ?_)
  refine bm_if_false rfl ?_
  refine wpAny_bind (wpAny_specialOf hT ba_buffer ?_)
  try dsimp only
  unfold Builtin.Bytes.ownRelease
  refine wpAny_bind (wpAny_bind (ba_own ho ba_release (by decide +kernel) (by decide +kernel) ?_))
  refine wpAny_pure ?_
  refine bm_if_false rfl ?_
  refine wpAny_bind ?_
  unfold Builtin.Bytes.payload Builtin.Bytes.payload?
  show wpAny _ _ ((load D >>= _) >>= _) _ _ s
  refine wpAny_bind (wpAny_bind (wpAny_load ho ?_))
  exact wpAny_pure (wpAny_pure (wpAny_pure h))
theorem bytes_new {D : Addr} {b : Array UInt8} {Q : Value → Shared → Prop} (ho : s.heap.get? D = some (baObj b)) (hz : b.size ≤ sizeLine)
    (hQ : ∀ t k, Q (.bytes b t) { s with toks := k }) :
    codeAny (model prog w) A (.call (.builtin "bytes.__new__") ⟨[.type "bytes", .ref D], []⟩) (wants Q E) s := by
  refine codeAny_of_tree ?_
  show wpAny _ A.in1 (do checkBuiltinCall "bytes.__new__" ⟨[.type "bytes", .ref D], []⟩; again (.builtin "bytes.__new__" ⟨[.type "bytes", .ref D], []⟩)) _ _ s
  refine wpAny_bind (wpAny_of_eq (F.bm_newCall _) (wpAny_pure ⟨plainId_quiet F.bm_plain _, codeAny_builtin F.bm_entry ?_⟩))
  rw [Around.under_plainId F.bm_plain _]
  have hT : s.TypeIs (.ref D) "bytearray" := ⟨_, ho, rfl⟩
  unfold Builtin.«bytes.__new__»
  refine wpAny_bind (wpAny_of_eq (a := true) rfl ?_)
  refine bm_if_false rfl ?_
  refine wpAny_bind (wpAny_of_eq F.bm_sub ?_)
  refine bm_if_false rfl ?_
  refine wpAny_bind (wpAny_of_eq (F.bm_bind _) ?_)
  refine wpAny_bind (wpAny_of_eq (a := ()) rfl ?_)
  refine wpAny_bind (wpAny_of_eq (a := ()) rfl ?_)
  refine bm_if_false rfl ?_
  refine wpAny_bind (wpAny_specialOf hT ba_no_bytes ?_)
  refine wpAny_bind (wpAny_bind ?_)
  show wpAny _ _ (load D >>= _) _ _ _
  refine wpAny_bind (wpAny_load ho ?_)
  refine wpAny_pure (wpAny_pure ?_)
  refine bm_if_false rfl ?_
  refine wpAny_bind (wpAny_specialOf hT ba_no_index ?_)
  refine bm_if_true rfl ?_
  first
    | show wpAny _ _ (Builtin.Bytes.buffer? "bytes.__new__" (.ref D) true >>= _) _ _ _
    | (refine wpAny_bind ?_; show wpAny _ _ (Builtin.Bytes.buffer? "bytes.__new__" (.ref D) true >>= _) _ _ _)
  refine wpAny_bind ?_
  refine ba_buf ho ?_
  dsimp only
  refine wpAny_bind (wpAny_rule ?_)
  refine wpAny_bind (wpAny_mkBytes ?_ hz)
  show wpAny _ _ (ret (.bytes b s.toks)) _ _ _
  exact wpAny_pure (hQ _ _)
theorem call_bytes_ba {D : Addr} {b : Array UInt8} {Q : Value → Shared → Prop} (ho : s.heap.get? D = some (baObj b)) (hz : b.size ≤ sizeLine)
    (hQ : ∀ t k, Q (.bytes b t) { s with toks := k }) : wpAny (model prog w) A (call (.type "bytes") [.ref D]) Q E s := by
  refine callType_codes (Q₁ := fun obj s₁ => s₁.TypeIs obj "bytes" ∧ Q obj s₁) F.bm_called (F.bm_typeCall _) F.entry_object_init
    (bytes_new ho hz fun t k => ⟨PySem.W.typeIs_bytes _ _ _, hQ t k⟩) fun obj s₁ h₁ => ?_
  exact ⟨h₁.1, F.args_object_init_2 obj _, object_init_meets F.bm_called.init.lookup F.bm_called.made (by decide) prog w A.in1 _ s₁ ⟨h₁.1, rfl, h₁.2⟩⟩
end
theorem mro_ba : mroOf (.type "bytearray") = pure [.type "bytearray", .type "object"] := by rw [mroOf_type]; kernel_rfl
theorem lookup_ba_new : typeLookup (.type "bytearray") "__new__" = pure (some (.builtin "bytearray.__new__")) := by rw [typeLookup_type, builtinLookup_eq_fast]; kernel_rfl
theorem slot_ba_init : Slot "bytearray" "__init__" "bytearray.__init__" :=
  .of (owner := "bytearray") (n := "__init__") (by rw [typeLookup_type, builtinLookup_eq_fast]; kernel_rfl) (by decide +kernel) (by decide +kernel) (by decide +kernel)
    (by first | exact .inl (by decide +kernel) | exact .inr (by decide +kernel)) (by rw [isSubtype_type]; kernel_rfl)
theorem called_ba : TypeCalled "bytearray" "bytearray.__new__" "bytearray.__init__" :=
  ⟨by decide +kernel, by decide +kernel, ⟨_, _, mro_ba⟩, madeBy_type mro_ba lookup_ba_new (by decide +kernel), by decide +kernel, by rw [isSubtype_type]; kernel_rfl, slot_ba_init⟩
theorem typeCall_ba_1 (a : Value) : checkTypeCall "bytearray" ⟨[a], []⟩ = pure () := by kernel_rfl
theorem newCall_ba_1 (a : Value) : checkBuiltinCall "bytearray.__new__" ⟨[.type "bytearray", a], []⟩ = pure () := by kernel_rfl
theorem entry_ba_new : entryFor table "bytearray.__new__" = some Builtin.«list.__new__» := entryFor_alias (id' := "list.__new__") (by kernel_rfl) (by decide +kernel) (by decide +kernel) (by kernel_rfl)
theorem entry_ba_init : entryFor table "bytearray.__init__" = some Builtin.«bytearray.__init__» := by first | exact entryFor_of_tree (by kernel_rfl) | exact entryFor_of_fast (by kernel_rfl)
theorem plain_ba_new : plainId "bytearray.__new__" = true := by decide +kernel
theorem owner_ba_new : ("bytearray.__new__".splitOn ".__new__").headD "" = "bytearray" := by simp +decide [String.splitOn, String.splitOnAux]
section
variable {prog : Program} {w : World} {A : Around} {E : Value → Shared → Prop} {s : Shared}
theorem code_ba_new (a : Value) {Q₁ : Value → Shared → Prop}
    (h : Q₁ (.ref s.heap.objs.size) { s with heap := s.heap.push (baObj #[]) }) :
    codeAny (model prog w) A (.call (.builtin "bytearray.__new__") ⟨[.type "bytearray", a], []⟩) (wants Q₁ E) s := by
  refine codeAny_of_tree ?_
  show wpAny _ A.in1 (do checkBuiltinCall "bytearray.__new__" ⟨[.type "bytearray", a], []⟩; again (.builtin "bytearray.__new__" ⟨[.type "bytearray", a], []⟩)) _ _ s
  refine wpAny_bind (wpAny_of_eq (newCall_ba_1 a) (wpAny_pure ⟨plainId_quiet plain_ba_new _, codeAny_builtin_stack entry_ba_new rfl fun p st => ?_⟩))
  rw [Around.under_plainId plain_ba_new _]
  have hsub := ba_sub
  have hown := owner_ba_new
  obtain ⟨hp, g, d, tk, os⟩ := s
  simp only [hown]
  wp_walk
  exact h
end
noncomputable def dec : Code → Bool
  | .builtin id _ => Builtin.Bytes.decodersThatHold.contains id
  | _ => false
noncomputable def Clean (Γ : Ctx) : Prop := dec Γ.code = false ∧ ∀ x ∈ Γ.below, dec x.1 = false
noncomputable def wpC {α : Type} (M : Model) (A : Around) (t : Sem α) (Q : α → Shared → Prop) (E : Value → Shared → Prop) (s : Shared) : Prop :=
  ∀ Γ p, Γ.In A → Clean Γ → Sem.wp M Γ t (fun a _ s' => Q a s') (fun e _ s' => E e s') p s
noncomputable def codeC (M : Model) (A : Around) (c : Code) (R : Result → Shared → Prop) (s : Shared) : Prop :=
  ∀ Γ p, Γ.code = c → Γ.Below A → (∀ x ∈ Γ.below, dec x.1 = false) → wpCode M Γ R p s
section
variable {α β : Type} {M : Model} {A : Around} {E : Value → Shared → Prop} {s : Shared}
theorem wpC_of {t : Sem α} {Q : α → Shared → Prop} (h : wpAny M A t Q E s) : wpC M A t Q E s := fun Γ p hi _ => h Γ p hi
theorem wpC_mono {t : Sem α} {Q Q' : α → Shared → Prop} {E' : Value → Shared → Prop} (h : wpC M A t Q E s) (hQ : ∀ a s, Q a s → Q' a s) (hE : ∀ e s, E e s → E' e s) : wpC M A t Q' E' s :=
  fun Γ p hi hc => Sem.wp_mono M Γ t (fun a _ s => hQ a s) (fun e _ s => hE e s) p s (h Γ p hi hc)
theorem wpC_bind {m : Sem α} {f : α → Sem β} {Q : β → Shared → Prop} (h : wpC M A m (fun a s' => wpC M A (f a) Q E s') E s) : wpC M A (m >>= f) Q E s := fun Γ p hi hc => by
  rw [Sem.wp_bind']
  exact Sem.wp_mono M Γ m (fun a p' s' h' => h' Γ p' hi hc) (fun _ _ _ h' => h') p s (h Γ p hi hc)
theorem wpC_seq {m : Sem α} {f : α → Sem β} {Q : β → Shared → Prop} (h : wpAny M A m (fun a s' => wpC M A (f a) Q E s') E s) : wpC M A (m >>= f) Q E s := wpC_bind (wpC_of h)
theorem wpC_pure {a : α} {Q : α → Shared → Prop} (h : Q a s) : wpC M A (pure a) Q E s := wpC_of (wpAny_pure h)
theorem wpC_onRaise {m : Sem α} {k : Value → Sem Unit} {Q : α → Shared → Prop} (h : wpC M A m Q (fun e s' => wpAny M A (k e) (fun _ s'' => E e s'') E s') s) : wpC M A (m.onRaise k) Q E s := fun Γ p hi hc => by
  rw [Sem.wp_onRaise]
  exact Sem.wp_mono M Γ m (fun _ _ _ h' => h') (fun e p' s' h' => h' Γ p' hi) p s (h Γ p hi hc)
theorem wpC_holding {vs : List Value} {m : Sem α} {Q : α → Shared → Prop} (h : wpC M A m Q E s) : wpC M A (holding vs m) Q E s :=
  fun Γ p hi hc => by rw [Sem.wp_holding]; exact h Γ p hi hc
theorem wpC_call {f : Value} {pos : List Value} {kw : List (Str × Value)} {Q : Value → Shared → Prop}
    (h : codeC M A (.call f ⟨pos, kw⟩) (fun r s' => match r with | .ok (.ret v) => Q v s' | .ok _ => False | .error e => E e s') s) : wpC M A (call f pos kw) Q E s := fun Γ p hi hc => by
  show Sem.wp M Γ (runValue (.call f ⟨pos, kw⟩)) _ _ p s
  rw [Sem.wp_runValue]
  refine h _ p rfl (hi.enter _ none p (by intro x; cases x)) fun x hx => ?_
  rcases List.mem_cons.mp hx with rfl | hx
  · exact hc.1
  · exact hc.2 x hx
theorem codeC_of_tree {c : Code} {R : Result → Shared → Prop} (hd : dec c = false)
    (h : wpC M (A.under c) (M.den c) (fun fin s' => match fin with | .done f => R (.ok f) s' | .again c' => c'.quiet = true ∧ codeC M A c' R s') (fun e s' => R (.error e) s') s) : codeC M A c R s := fun Γ p hc hb hcl => by
  rw [wpCode_iff_wp, hc]
  refine Sem.wp_mono M Γ _ (fun fin p' s' h' => ?_) (fun _ _ _ h' => h') p s (h Γ p (hc ▸ hb.in) ⟨hc ▸ hd, hcl⟩)
  cases fin with
  | done f => exact h'
  | again c' => exact ⟨h'.1, h'.2 (Γ.goto c') p' rfl (hb.goto c') hcl⟩
end
section
variable {prog : Program} {w : World} {A A₀ : Around} {E : Value → Shared → Prop} {s : Shared} {R : Result → Shared → Prop}
theorem codeC_func {body : List Stmt} {env : Env} (h : wpC (model prog w) (A.deeper env) (execs body env) (fun f s' => R (.ok (.ret (match f with | .ret v => v | _ => .none))) s')
      (fun e s' => wpAny (model prog w) (A.deeper env) (leaving env e) (fun _ s'' => R (.error e) s'') (fun e' s'' => R (.error e') s'') s') s) : codeC (model prog w) A (.func body env) R s := by
  refine codeC_of_tree rfl ?_
  show wpC _ (A.deeper env) (do point; match ← (execs body env).onRaise (leaving env) with | .ret v => ret v | _ => ret .none) _ _ s
  refine wpC_seq (wpAny_point (wpC_bind (wpC_onRaise (wpC_mono h (fun f s' h' => ?_) fun _ _ h' => h'))))
  cases f <;> exact wpC_pure h'
theorem codeC_def {a : Addr} {args : Args} {o : Obj} {fd : FuncData} {body : List Stmt} (hroom : A.depth < recursionLimit) (ho : s.heap.get? a = some o) (hd : o.data = .func fd) (hco : fd.scope.isCoroutine = false) (hgen : fd.scope.isGenerator = false) (hbody : fd.body = .stmts body) (hcd : s.heap.CodeRec fd.code fd.qualname)
    (h : wpAny (model prog w) A.in1 (bindArgs fd args) (fun binds s₁ => wpAny (model prog w) A.in1 (newFunctionEnv fd.scope fd.globals fd.closure binds (fd.qualname ++ ".<locals>.") (some a) fd.code none fd.builtins)
        (fun env s₂ => s₂.heap.NoLimit ∧ codeC (model prog w) A (.func body env) R s₂) (fun e s' => R (.error e) s') s₁) (fun e s' => R (.error e) s') s) : codeC (model prog w) A (.call (.ref a) args) R s := by
  refine codeC_of_tree rfl (wpC_of ?_)
  show wpAny _ A.in1 (callAny (.ref a) args) _ _ s
  unfold callAny
  refine wpAny_bind (wpAny_load ho ?_)
  obtain ⟨c, oc, vs, tq, hc, hoc, hdc, hq⟩ := hcd
  rw [hc] at h
  simp only [hd, callFunction, hco, hgen, hbody, hc]
  refine wpAny_bind (m := field (.ref c) 1) (wpAny_field hoc hdc hq (wpAny_bind (wpAny_pure (wpAny_bind (wpAny_mono h (fun binds s₁ h₁ => ?_) fun _ _ x => x)))))
  exact wpAny_bind (wpAny_mono h₁ (fun env s₂ h₂ => wpAny_bind (wpAny_enterFrame h₂.1 hroom (wpAny_pure ⟨rfl, h₂.2⟩))) fun _ _ x => x)
end
section
variable {prog : Program} {w : World} {A A₀ : Around} {s : Shared} {K : Frag} {L : Addr} {h₀ base : Heap} {m mg mb : Str → Option Value} {news : List (Addr × Obj)} {p : Program} {loose : List Str} {mean : ExcName → Option Value}
theorem enterC {env : Env} {outer : List Env} {R : Result → Shared → Prop} {name qual : Str} {params : Arguments} {body : List Stmt} {scope : Scope} {dV kV doc pm cdv ct oc : Value} {an od : Option Addr} {osl : Array (Option Value)} {f : Addr} {args : Args} {binds : List (Str × Value)}
    (B : Below A₀ base outer h₀) (F : Fr h₀ L s.heap m) (X₀ : K.In h₀) (N : News h₀ L s.heap news) (T : Top p loose mean mg mb h₀) (hA : A.frames = some (env :: outer)) (hf : env.frame = some L) (hke : env.scope.kind = .function)
    (ho : K.lookup f = some ⟨oc, od, .func (fnOf name qual params body scope dV kV doc pm an cdv ct), osl⟩) (hcd : codeIn K cdv qual = true) (hroom : A.depth < recursionLimit)
    (hbind : BindsTo s (fnOf name qual params body scope dV kV doc pm an cdv ct) args binds) (hkind : (binds.all fun y => scope.names.lookup y.1 == some .local || scope.names.lookup y.1 == some .cell) = true)
    (hnd : ((cellsFrom 0 scope.names []).map (·.1)).Nodup)
    (h : ∀ g L' h₁ tk cells, Fr h₀ L g m → Fr g L' h₁ (bindL (envOfC qual scope L' f cdv).kindOf binds fun _ => none) → News g L' h₁ (cells ++ news) →
      CellsAre (bindC (envOfC qual scope L' f cdv).kindOf binds fun _ => none) (cellsFrom (L' + 1) scope.names []) cells → Below A base (env :: outer) g → K.In g → Top p loose mean mg mb g → (∀ p ∈ news, p.1 < L') →
      wpC (model prog w) (A.deeper (envOfC qual scope L' f cdv)) (execs body (envOfC qual scope L' f cdv))
        (fun fl s' => LeaveK h₀ L m g R (match fl with | .ret v => v | _ => .none) s')
        (fun e s' => wpAny (model prog w) (A.deeper (envOfC qual scope L' f cdv)) (leaving (envOfC qual scope L' f cdv) e) (fun _ s'' => R (.error e) s'') (fun e' s'' => R (.error e') s'') s')
        { s with heap := h₁, toks := tk })
    (hco : scope.isCoroutine = false) (hgen : scope.isGenerator = false) (hk : scope.kind = .function) : codeC (model prog w) A (.call (.ref f) args) R s := by
  have hof := (X₀.keeps F.keep) _ _ ho
  obtain ⟨FG, BG, st, lv⟩ := groundX (R := R) B F N hA hf hke
  refine codeC_def hroom hof rfl hco hgen rfl (codeRec_of (X₀.keeps F.keep) hcd) (hbind _ _ _ _ ?_)
  refine wpAny_newFunctionEnv_cells hk (kindsX hkind _) fun env' he s' x => ?_
  subst he
  refine ⟨(T.nolimit.keeps F.keep).keeps x.toInCall.keep, codeC_func ?_⟩
  obtain ⟨h₁, tk, rfl, _⟩ := x.done
  have keep := x.toInCall.keep
  obtain ⟨cells, NC, Y⟩ := Cl.news (h₀ := s.heap) (Nat.le_refl _) fun n c hm => ⟨x.cell n c (lookup_of_mem_nodup (cellsFrom_names scope.names 0 (s.heap.objs.size + 1) [] [] rfl ▸ hnd) hm), x.above n c hm⟩
  have NN : News (hideAll s.heap (news.map (·.1))) s.heap.objs.size h₁ (cells ++ news) := fun q hq => by
    rcases List.mem_append.mp hq with hq | hq
    · refine ⟨(NC q hq).1, (NC q hq).2.1, ?_⟩
      cases e : (hideAll s.heap (news.map (·.1))).get? q.1 with
      | none => rfl
      | some o => have := of_hideAll _ e; rw [(NC q hq).2.2] at this; cases this
    · exact ⟨keep _ _ (N q hq).1, Nat.ne_of_lt (Heap.lt_size (N q hq).1), hideAll_none _ (List.mem_map_of_mem hq)⟩
  exact wpC_mono (h _ s.heap.objs.size h₁ tk cells FG ⟨x.toInCall.ns, fun b o e => keep b o (of_hideAll _ e), Nat.le_of_eq (hideAll_size _ _)⟩ NN Y BG (X₀.keeps st) (T.keeps st) fun q hq => Heap.lt_size (N q hq).1) (fun fl s' hl => lv _ _ hl) fun _ _ y => y
end
section
variable {α : Type} {M : Model} {A : Around} {E : Value → Shared → Prop} {s : Shared}
theorem wpC_no {c : Bool} {a b : Sem α} {Q : α → Shared → Prop} (hc : c = false) (h : wpC M A b Q E s) : wpC M A (if c = true then a else b) Q E s := by
  subst hc
  exact h
theorem wpC_yes {c : Bool} {a b : Sem α} {Q : α → Shared → Prop} (hc : c = true) (h : wpC M A a Q E s) : wpC M A (if c = true then a else b) Q E s := by
  subst hc
  exact h
theorem wpC_eq {a : α} {m : Sem α} {Q : α → Shared → Prop} (e : m = pure a) (h : Q a s) : wpC M A m Q E s := wpC_of (wpAny_of_eq e h)
theorem wpC_exported {D : Addr} {Q : Bool → Shared → Prop} (hg : A.guards = some []) (h : Q false s) : wpC M A (Builtin.Bytes.exported (.ref D)) Q E s := fun Γ p hi hc => by
  have key : ∀ x ∈ (Γ.code, p) :: Γ.below, x.1.isGuard = false ∧ dec x.1 = false := by
    have hgs : Γ.code.guards ++ guardsOf Γ.below = [] := hi.2.2.2.1 [] hg
    have h1 : Γ.code.guards = [] := (List.append_eq_nil_iff.mp hgs).1
    have h2 : guardsOf Γ.below = [] := (List.append_eq_nil_iff.mp hgs).2
    intro x hx
    rcases List.mem_cons.mp hx with rfl | hx
    · refine ⟨?_, hc.1⟩
      cases e : Γ.code.isGuard with
      | false => rfl
      | true => unfold Code.guards at h1; rw [e] at h1; cases h1
    · refine ⟨?_, hc.2 x hx⟩
      cases e : x.1.isGuard with
      | false => rfl
      | true =>
        have : x.1 ∈ guardsOf Γ.below := List.mem_filter.mpr ⟨List.mem_map_of_mem hx, e⟩
        rw [h2] at this; cases this
  unfold Builtin.Bytes.exported
  rw [Sem.wp_bind']
  have hf : ∀ (f : Code × Pos → Bool), (∀ x ∈ (Γ.code, p) :: Γ.below, f x = false) → ((Γ.code, p) :: Γ.below).any f = false := fun f hf => by
    rw [List.any_eq_false]
    intro x hx
    rw [hf x hx]; exact Bool.false_ne_true
  show Q (((Γ.code, p) :: Γ.below).any _) s
  rw [hf]
  · exact h
  · intro x hx
    obtain ⟨k1, k2⟩ := key x hx
    obtain ⟨c, q⟩ := x
    cases c with
    | builtin id args =>
      have ne : ∀ g, guardIds.contains g = true → ¬ id = g := fun g hg e => by
        subst e
        exact Bool.false_ne_true (k1.symm.trans hg)
      delta Builtin.Bytes.exported.match_1
      refine (dif_neg (ne "bytearray.__contains__" (by decide +kernel))).trans ?_
      refine (dif_neg (ne "bytearray.__mod__" (by decide +kernel))).trans ?_
      refine (dif_neg (ne "bytearray.__rmod__" (by decide +kernel))).trans ?_
      refine (dif_neg (ne "_struct.pack_into.held" (by decide +kernel))).trans ?_
      refine (dif_neg (ne "bytearray.find.held" (by decide +kernel))).trans ?_
      obtain ⟨l, kw⟩ := args
      cases l with
      | nil => rfl
      | cons v tl => exact Bool.and_eq_false_iff.mpr (.inr k2)
    | _ => rfl
theorem codeC_builtin {prog : Program} {w : World} {id : String} {args : Args} {b : Builtin} {R : Result → Shared → Prop} (hb : entryFor table id = some b) (hd : dec (.builtin id args) = false)
    (h : wpC (model prog w) (A.under (.builtin id args)) (b args) (fun fin s' => match fin with | .done f => R (.ok f) s' | .again c' => c'.quiet = true ∧ codeC (model prog w) A c' R s') (fun e s' => R (.error e) s') s) : codeC (model prog w) A (.builtin id args) R s := by
  refine codeC_of_tree hd ?_
  show wpC _ _ (match entryFor table id with | some b => b args | none => unsupported ((withoutEnding? id "#data").getD id)) _ _ s
  rw [hb]; exact h
end
section
variable {prog : Program} {w : World} {A : Around} {E : Value → Shared → Prop} {s : Shared}
theorem ba_bind (v : Value) : Builtin.Bytes.bindOptional "bytearray.__init__" "bytearray" ["source", "encoding", "errors"] [v] [] = pure [some v, none, none] := by kernel_rfl
theorem plain_ba_init : plainId "bytearray.__init__" = true := by decide +kernel
theorem newCall_ba_init (a b : Value) : argsOk "bytearray.__init__" ⟨[a, b], []⟩ := by unfold argsOk; kernel_rfl
theorem ba_write {M : Model} {D : Addr} {b : Array UInt8} {f : Array UInt8 → Array UInt8} {Q : Unit → Shared → Prop} (ho : s.heap.get? D = some (baObj b)) (hz : (f b).size ≤ sizeLine)
    (h : (s.heap.update D (Obj.mapBytearray f)).get? D = some (baObj (f b)) → Q () { s with heap := s.heap.update D (Obj.mapBytearray f) }) : wpAny M A (Builtin.Bytes.write (.ref D) f) Q E s := by
  show wpAny M A (updateBytearray D f) Q E s
  unfold updateBytearray
  refine wpAny_bind (wpAny_load ho ?_)
  show wpAny _ _ (update D _ >>= _) _ _ s
  refine wpAny_bind (wpAny_update ho ?_)
  have hg : (s.heap.update D (Obj.mapBytearray f)).get? D = some (baObj (f b)) := Heap.get?_update_self (Obj.mapBytearray f) ho rfl
  refine wpAny_lookBehind hg ?_ (h hg)
  show (if (f b).size > sizeLine then some "bytearray:memory" else none) = none
  rw [if_neg (by lia)]
theorem wpC_ite_no {α : Type} {M : Model} {c : Prop} [Decidable c] {a b : Sem α} {Q : α → Shared → Prop} (hc : ¬ c) (h : wpC M A b Q E s) : wpC M A (if c then a else b) Q E s := by rw [if_neg hc]; exact h
theorem wpC_ite_yes {α : Type} {M : Model} {c : Prop} [Decidable c] {a b : Sem α} {Q : α → Shared → Prop} (hc : c) (h : wpC M A a Q E s) : wpC M A (if c then a else b) Q E s := by rw [if_pos hc]; exact h
theorem ba_init {D : Addr} {n : Int} {t : Tok} {R : Value → Shared → Prop} (hg : A.guards = some []) (ho : s.heap.get? D = some (baObj #[])) (h0 : 0 < n) (hz : n.toNat ≤ sizeLine)
    (hQ : ∀ h', h'.get? D = some (baObj (Array.replicate n.toNat 0)) → Heap.SameBut D s.heap h' → R .none { s with heap := h' }) :
    wpC (model prog w) A (Builtin.«bytearray.__init__» ⟨[.ref D, .int n t], []⟩) (fun fin s' => ∃ v, fin = .done (.ret v) ∧ R v s') (fun _ _ => False) s := by
  have hT : s.TypeIs (.ref D) "bytearray" := ⟨_, ho, rfl⟩
  unfold Builtin.«bytearray.__init__»
  refine wpC_seq ?_
  unfold Builtin.Bytes.ownRelease
  refine wpAny_bind (ba_own ho ba_release (by decide +kernel) (by decide +kernel) (wpAny_pure ?_))
  refine wpC_no rfl ?_
  refine wpC_bind (wpC_eq (ba_bind _) ?_)
  refine wpC_bind (wpC_eq (a := ()) rfl ?_)
  refine wpC_bind (wpC_eq (a := ()) rfl ?_)
  refine wpC_bind ?_
  show wpC _ _ (Builtin.Bytes.exported (.ref D) >>= _) _ _ s
  refine wpC_bind (wpC_exported hg ?_)
  refine wpC_seq (m := Builtin.Bytes.exportsOf (.ref D)) ?_
  unfold Builtin.Bytes.exportsOf
  refine wpAny_bind (wpAny_load ho (wpAny_pure ?_))
  refine wpC_pure ?_
  refine wpC_no rfl ?_
  dsimp only
  refine wpC_seq (ba_write ho (Nat.zero_le _) fun ho2 => ?_)
  have sb1 : Heap.SameBut D s.heap (s.heap.update D (Obj.mapBytearray fun _ => #[])) := Heap.SameBut.update ..
  refine wpC_bind (wpC_eq (a := none) rfl ?_)
  refine wpC_no rfl ?_
  refine wpC_bind (wpC_eq (a := ()) rfl ?_)
  refine wpC_seq (wpAny_specialOf (T := "int") (typeIs_int _ n t) int_index ?_)
  refine wpC_yes rfl ?_
  refine wpC_seq (wpAny_attempt (wpAny_of_eq (a := n) rfl ?_))
  dsimp only
  have hn : n < 2 ^ 62 := by rw [sizeLine_eq] at hz; lia
  have hf : Builtin.Bytes.fitsIndex n = true := by unfold Builtin.Bytes.fitsIndex; simp only [Bool.and_eq_true, decide_eq_true_eq]; lia
  refine wpC_no (by rw [hf]; rfl) ?_
  refine wpC_ite_no (by lia) ?_
  refine wpC_no (by simp; lia) ?_
  have ht : Builtin.Bytes.tooLong n.toNat = false := by unfold Builtin.Bytes.tooLong; exact decide_eq_false (by lia)
  refine wpC_no ht ?_
  refine wpC_seq (wpAny_rule ?_)
  refine wpC_ite_yes h0 ?_
  refine wpC_seq (ba_write ho2 (by simpa using hz) fun ho3 => ?_)
  exact wpC_pure ⟨_, rfl, hQ _ ho3 (Heap.SameBut.trans (Heap.SameBut.update ..) (Heap.SameBut.update ..))⟩
theorem dec_type {a : Args} : dec (.builtin "type.__call__" a) = false := by show Builtin.Bytes.decodersThatHold.contains "type.__call__" = false; decide +kernel
theorem dec_init {a : Args} : dec (.builtin "bytearray.__init__" a) = false := by show Builtin.Bytes.decodersThatHold.contains "bytearray.__init__" = false; decide +kernel
theorem call_ba {n : Int} {t : Tok} {Q : Value → Shared → Prop} (hg : A.guards = some []) (h0 : 0 < n) (hz : n.toNat ≤ sizeLine)
    (hQ : ∀ h', h'.get? s.heap.objs.size = some (baObj (Array.replicate n.toNat 0)) → Heap.SameBut s.heap.objs.size (s.heap.push (baObj #[])) h' → Q (.ref s.heap.objs.size) { s with heap := h' }) :
    wpC (model prog w) A (call (.type "bytearray") [.int n t]) Q E s := by
  refine wpC_call (codeC_of_tree rfl (wpC_of ?_))
  show wpAny _ _ (callAny (.type "bytearray") ⟨[.int n t], []⟩) _ _ _
  refine wpAny_pure ⟨Code.quiet_builtin _ (by decide +kernel), codeC_builtin F.entry_type_call dec_type ?_⟩
  rw [Around.under_plain (weight_type_call_type "bytearray" [.int n t] []) rfl]
  unfold Builtin.«type.__call__»
  dsimp only
  refine wpC_no called_ba.notType ?_
  refine wpC_no called_ba.canCreate ?_
  refine wpC_bind (wpC_eq (typeCall_ba_1 _) ?_)
  refine wpC_bind (wpC_eq mro_ba ?_)
  refine wpC_no rfl ?_
  refine wpC_bind (wpC_eq called_ba.made ?_)
  refine wpC_bind (wpC_eq (a := Value.builtin "bytearray.__new__") rfl ?_)
  have hnew : codeAny (model prog w) A.in1 (.call (.builtin "bytearray.__new__") ⟨[.type "bytearray", .int n t], []⟩) (wants (fun obj s₁ => obj = .ref s.heap.objs.size ∧ s₁ = { s with heap := s.heap.push (baObj #[]) }) (fun _ _ => False)) s := code_ba_new _ ⟨rfl, rfl⟩
  refine wpC_seq (wpAny_holding (wpAny_call (codeAny_mono hnew fun r s₁ hr => ?_)))
  match r, hr with
  | .error e, hr => exact hr.elim
  | .ok .next, hr => exact hr.elim
  | .ok .brk, hr => exact hr.elim
  | .ok .cont, hr => exact hr.elim
  | .ok (.ret obj), hr =>
    obtain ⟨rfl, rfl⟩ := hr
    have ho : (s.heap.push (baObj #[])).get? s.heap.objs.size = some (baObj #[]) := Heap.get?_push_size _ rfl
    have hT : ({ s with heap := s.heap.push (baObj #[]) } : Shared).TypeIs (.ref s.heap.objs.size) "bytearray" := ⟨_, ho, rfl⟩
    refine wpC_seq (wpAny_isInstance hT ba_sub ?_)
    refine wpC_no rfl ?_
    refine wpC_bind (wpC_holding ?_)
    unfold callSpecial?
    refine wpC_seq (wpAny_specialOf hT slot_ba_init.lookup ?_)
    refine wpC_holding ?_
    refine wpC_bind (wpC_eq (slot_ba_init.bind _) ?_)
    refine wpC_bind (wpC_call (codeC_of_tree rfl (wpC_of ?_)))
    show wpAny _ A.in1.in1 (do checkBuiltinCall "bytearray.__init__" ⟨[.ref s.heap.objs.size, .int n t], []⟩; again (.builtin "bytearray.__init__" ⟨[.ref s.heap.objs.size, .int n t], []⟩)) _ _ _
    refine wpAny_bind (slot_ba_init.check _ _ _ _ _ _ _ _ hT (newCall_ba_init _ _) ?_)
    refine wpAny_pure ⟨plainId_quiet plain_ba_init _, codeC_builtin entry_ba_init dec_init ?_⟩
    rw [Around.under_plainId plain_ba_init _]
    refine wpC_mono (ba_init (R := fun r s' => r = .none ∧ Q (.ref s.heap.objs.size) s') hg ho h0 hz fun h' a b => ⟨rfl, hQ h' a b⟩) ?_ fun e s' he => he.elim
    rintro fin s' ⟨v, rfl, rfl, q⟩
    exact wpC_pure (wpC_no rfl (wpC_pure q))
end
section
variable {M : Model} {A : Around} {E : Value → Shared → Prop} {s : Shared} {env : Env}
theorem wpC_execs_cons {st : Stmt} {rest : List Stmt} {Q : Flow → Shared → Prop} (h : wpC M A (exec st env) (fun f s' => match f with | .next => wpC M A (execs rest env) Q E s' | f => Q f s') E s) : wpC M A (execs (st :: rest) env) Q E s := by
  rw [execs_cons]
  refine wpC_bind (wpC_mono h (fun f s' h' => ?_) fun _ _ x => x)
  cases f with
  | next => exact h'
  | ret v => exact wpC_pure h'
  | brk => exact wpC_pure h'
  | cont => exact wpC_pure h'
theorem wpC_Assign_Name {x : Str} {p pos : Pos} {value : Expr} {Q : Flow → Shared → Prop} (hs : swapsWith value (some (.Name x p)) pos.line env = pure false)
    (h : wpC M A (eval value env) (fun v s' => wpAny M A (storeName env x v) (fun _ s'' => Q .next s'') E s') E s) : wpC M A (exec (.Assign [.Name x p] value pos) env) Q E s := by
  have e : exec (.Assign [.Name x p] value pos) env = (do
      standAt pos
      if ← swapsWith value (some (.Name x p)) pos.line env then
        evalThenUse value env (assign (.Name x p) env)
        return .next
      let v ← eval value env
      standAt p
      bindName env x v
      pure .next) := rfl
  rw [e, hs]
  refine wpC_seq (wpAny_standAt ?_)
  refine wpC_bind (wpC_pure ?_)
  refine wpC_no rfl ?_
  refine wpC_bind (wpC_mono h (fun v s' h' => ?_) fun _ _ x => x)
  exact wpC_of (wpAny_bind (wpAny_standAt (wpAny_bind (wpAny_mono (wpAny_bindName h') (fun _ _ q => wpAny_pure q) fun _ _ x => x))))
theorem wpC_Call_Name {id : Str} {p pos : Pos} {args : List Expr} {keywords : List Keyword} {Q : Value → Shared → Prop}
    (h : wpAny M A (eval (.Name id p) env) (fun f s₁ => wpC M A (callWith pos f [] (backTo pos (starEach args env)) (backToKw pos (keywordEach keywords env))) Q E s₁) E s) : wpC M A (eval (.Call (.Name id p) args keywords pos) env) Q E s := by
  rw [arm_eval_Call_Name']
  exact wpC_seq h
theorem wpC_keep {vs : List Value} {m : Sem Value} {Q : Value → Shared → Prop} (h : wpC M A m Q E s) : wpC M A (m.keep vs) Q E s := fun Γ p hi hc => by
  rw [Sem.wp_keep]; exact h Γ p hi hc
theorem wpC_callWith_type {T : String} {pos : Pos} {t : Bool × Sem Value} {ts : List (Bool × Sem Value)} {Q : Value → Shared → Prop} (hp : (t :: ts).any (·.1) = false) (h : wpAny M A (spliced (t :: ts)) (fun vs s₁ => wpC M A (call (.type T) vs []) Q E s₁) E s) :
    wpC M A (callWith pos (.type T) [] (t :: ts) []) Q E s := by
  have h' : wpAny M A (evalArgs (.type T) true (t :: ts) []) (fun a s₁ => wpC M A (call (.type T) ([] ++ a.pos) a.kw) Q E s₁) E s := by
    obtain ⟨b, e⟩ := t
    have hb : b = false := by simp only [List.any_cons, Bool.or_eq_false_iff] at hp; exact hp.1
    subst hb
    exact Calls.evalArgs_plain h
  unfold callWith
  refine wpC_seq (wpAny_holding (wpAny_mono h' (fun a s₁ h₁ => ?_) fun _ _ x => x))
  refine wpC_seq (wpAny_standAt ?_)
  simp only [hp, List.any_nil, Bool.or_false]
  refine wpC_bind (wpC_pure ?_)
  exact wpC_bind (wpC_mono h₁ (fun r s₂ hr => wpC_of (wpAny_bind (wpAny_holding (wpAny_point (wpAny_pure hr))))) fun _ _ x => x)
theorem wpC_callWith_fn {a : Addr} {o : Obj} {fd : FuncData} {pos : Pos} {t : Bool × Sem Value} {ts : List (Bool × Sem Value)} {Q : Value → Shared → Prop} (hp : (t :: ts).any (·.1) = false)
    (h : wpAny M A (spliced (t :: ts)) (fun vs s₁ => (s₁.heap.get? a = some o ∧ o.data = .func fd) ∧ wpC M A (call (.ref a) vs []) Q E s₁) E s) :
    wpC M A (callWith pos (.ref a) [] (t :: ts) []) Q E s := by
  have h' : wpAny M A (evalArgs (.ref a) true (t :: ts) []) (fun x s₁ => (s₁.heap.get? a = some o ∧ o.data = .func fd) ∧ wpC M A (call (.ref a) ([] ++ x.pos) x.kw) Q E s₁) E s := by
    obtain ⟨b, e⟩ := t
    have hb : b = false := by simp only [List.any_cons, Bool.or_eq_false_iff] at hp; exact hp.1
    subst hb
    exact Calls.evalArgs_plain h
  unfold callWith
  refine wpC_seq (wpAny_holding (wpAny_mono h' (fun x s₁ h₁ => ?_) fun _ _ x => x))
  refine wpC_seq (wpAny_standAt ?_)
  simp only [hp, List.any_nil, Bool.or_false]
  have tail : ∀ {t : Sem Value}, wpC M A t Q E s₁ → wpC M A (t >>= fun r => holding [r] point >>= fun _ => pure r) Q E s₁ :=
    fun ht => wpC_bind (wpC_mono ht (fun r s₂ hr => wpC_of (wpAny_bind (wpAny_holding (wpAny_point (wpAny_pure hr))))) fun _ _ x => x)
  refine wpC_seq (m := keeperOf (.ref a)) ?_
  unfold keeperOf
  refine wpAny_bind (wpAny_load h₁.1.1 ?_)
  rw [h₁.1.2]
  refine wpAny_pure ?_
  dsimp only
  split
  · exact tail h₁.2
  · exact tail (by unfold callMarked; exact wpC_keep h₁.2)
theorem wpC_type1 {T : String} {pos : Pos} {e : Expr} {rest : List Expr} {Q : Value → Shared → Prop} (h : wpAny M A (spliced (backTo pos (starEach (e :: rest) env))) (fun vs s₁ => wpC M A (call (.type T) vs []) Q E s₁) E s)
    (he : starEach (e :: rest) env = (false, eval e env) :: starEach rest env := by rfl) (hp : (backTo pos (starEach rest env)).any (·.1) = false := by rfl) : wpC M A (callWith pos (.type T) [] (backTo pos (starEach (e :: rest) env)) []) Q E s := by
  rw [he] at h ⊢
  exact wpC_callWith_type (by show (false || (backTo pos (starEach rest env)).any (·.1)) = false; rw [hp]; rfl) h
theorem wpC_fn1 {a : Addr} {o : Obj} {fd : FuncData} {pos : Pos} {e : Expr} {rest : List Expr} {Q : Value → Shared → Prop} (h : wpAny M A (spliced (backTo pos (starEach (e :: rest) env))) (fun vs s₁ => (s₁.heap.get? a = some o ∧ o.data = .func fd) ∧ wpC M A (call (.ref a) vs []) Q E s₁) E s)
    (he : starEach (e :: rest) env = (false, eval e env) :: starEach rest env := by rfl) (hp : (backTo pos (starEach rest env)).any (·.1) = false := by rfl) : wpC M A (callWith pos (.ref a) [] (backTo pos (starEach (e :: rest) env)) []) Q E s := by
  rw [he] at h ⊢
  exact wpC_callWith_fn (by show (false || (backTo pos (starEach rest env)).any (·.1)) = false; rw [hp]; rfl) h
end
noncomputable def guarded {α : Type} (t : Sem α) (d : α) : Sem α := stack >>= fun st => if st.all (fun x => !dec x.1) = true then t else pure d
theorem clean_iff {Γ : Ctx} {p : Pos} : ((Γ.code, p) :: Γ.below).all (fun x => !dec x.1) = true ↔ Clean Γ := by
  simp [Clean]
theorem guarded_yes {α : Type} {M : Model} {Γ : Ctx} {t : Sem α} {d : α} {Q : α → Pos → Shared → Prop} {E : Value → Pos → Shared → Prop} {p : Pos} {s : Shared} (hc : Clean Γ) : Sem.wp M Γ (guarded t d) Q E p s ↔ Sem.wp M Γ t Q E p s := by
  unfold guarded
  rw [Sem.wp_bind']
  show Sem.wp M Γ (if (((Γ.code, p) :: Γ.below).all fun x => !dec x.1) = true then t else pure d) Q E p s ↔ _
  rw [if_pos (clean_iff.mpr hc)]
theorem guarded_no {α : Type} {M : Model} {Γ : Ctx} {t : Sem α} {d : α} {Q : α → Pos → Shared → Prop} {E : Value → Pos → Shared → Prop} {p : Pos} {s : Shared} (hc : ¬ Clean Γ) : Sem.wp M Γ (guarded t d) Q E p s ↔ Q d p s := by
  unfold guarded
  rw [Sem.wp_bind']
  show Sem.wp M Γ (if (((Γ.code, p) :: Γ.below).all fun x => !dec x.1) = true then t else pure d) Q E p s ↔ _
  rw [if_neg (fun h => hc (clean_iff.mp h))]
  exact Iff.rfl
theorem guarded_any {α : Type} {M : Model} {A : Around} {t : Sem α} {d : α} {Q : α → Shared → Prop} {E : Value → Shared → Prop} {s : Shared} (h : wpC M A t Q E s) (hd : Q d s) : wpAny M A (guarded t d) Q E s := fun Γ p hi => by
  by_cases hc : Clean Γ
  · exact (guarded_yes hc).mpr (h Γ p hi hc)
  · exact (guarded_no hc).mpr hd
theorem run_guarded {prog : Program} {w : World} {s s' : Shared} {t : Sem Fin} {d : Fin} {n : Nat} {o : Outcome} (hz : s.asleep) (h : schedN (denote table) prog w n (.single s ⟨guarded t d, .builtin "claim.caller" {}, default, []⟩) = .halted o s') :
    ∃ n, schedN (denote table) prog w n (.single s ⟨t, .builtin "claim.caller" {}, default, []⟩) = .halted o s' := by
  cases n with
  | zero => cases h
  | succ n =>
    refine ⟨n, ?_⟩
    have hstep : step (denote table) prog w s ⟨guarded t d, .builtin "claim.caller" {}, default, []⟩ = .go s ⟨t, .builtin "claim.caller" {}, default, []⟩ := by
      show Step.go s ⟨if (([(Code.builtin "claim.caller" {}, (default : Pos))] : List (Code × Pos)).all fun x => !dec x.1) = true then t else pure d, _, _, _⟩ = _
      rw [if_pos (by decide +kernel)]
    have hs := sstep_single (denote table) prog w s ⟨guarded t d, .builtin "claim.caller" {}, default, []⟩ rfl hz
    rw [hstep] at hs
    rcases hs with hs | hs
    · unfold schedN at h
      rw [hs] at h
      exact h
    · cases hs
theorem open_bare {c : ClaimW} {t : List Value → Sem Fin} {d : Fin} {defs kps : List Str} {writes : Bool} (H : c.HoldsOpenBy (fun vs => ⟨guarded (t vs) d, .builtin "claim.caller" {}, default, []⟩) defs kps writes) :
    c.HoldsOpenBy (fun vs => ⟨t vs, .builtin "claim.caller" {}, default, []⟩) defs kps writes := by
  refine ⟨H.1, H.2.1, fun w => ⟨(H.2.2 w).1, fun s hs => ?_⟩⟩
  obtain ⟨s₀, f, g, s₁, T, a, b, e, call⟩ := (H.2.2 w).2 s hs
  refine ⟨s₀, f, g, s₁, T, a, b, e, fun args h1 h2 ord h3 => ?_⟩
  obtain ⟨vs, s₂, l, n, o, s', r, x⟩ := call args h1 h2 ord h3
  have hl : AfterImport (opening c.prog) w s := hs
  have hz : s₂.asleep := Shared.asleep_of_life (((layAllW_rest _ _ _ l).2.2.2.trans T.2.1).trans (fence_lifeW f)) hl.life
  obtain ⟨n', r'⟩ := run_guarded hz r
  exact ⟨vs, s₂, l, n', o, s', r', x⟩
abbrev WalkC (q : Program) (loose : List Str) (XP : (Str → Option Value) → Heap → Prop) (YP : World → Heap → Prop) (r : RowW) (d : DefRec) (kwd : List (Str × Expr)) : Prop :=
  ∀ (w : World) (s₀ s₁ : Shared) (mg mb : Str → Option Value), Ground q loose r.records XP w s₀ mg mb s₁.heap → YP w s₁.heap → ∀ (a : Addr) (o : Obj) (pm cd doc dV kV : Value), s₁.heap.get? a = some o →
    o.data = .func { PySem.Calls.docDef d.name d.params d.body d.scope pm cd doc with defaults := dV, kwdefaults := kV } → s₁.heap.CodeRec cd d.name → Dflts mg s₁.heap d.params kwd dV kV → mg d.name = some (.ref a) → s₁.gens = #[] →
    ∀ (args : List WData) (vals : List Value) (as : List Addr), r.claim.pre args = true → WData.layableAll args = true → ReadsAllW r.records (classAt s₀.heap) s₁.heap vals args as → WellAll w.params s₁.heap vals args → (∀ a ∈ as, (a == sysModules) = false) →
      wpC (model r.prog w) callerA (PySem.call (.ref a) vals) (fun v s' => GoodWG r.claim (classAt s₀.heap) (ExcName.means s₀.heap) args s₁ (.ok (.ret v)) s') (fun e s' => GoodWG r.claim (classAt s₀.heap) (ExcName.means s₀.heap) args s₁ (.error e) s') s₁ ∧
        GoodWG r.claim (classAt s₀.heap) (ExcName.means s₀.heap) args s₁ (.ok (.ret (.bool true))) s₁
theorem PySem.W.holds_open {r : OpenRow} {q : Program} {loose : List Str} {Xt : Shared → Bool} {XP : (Str → Option Value) → Heap → Prop} {α : Type} {Yf : Shared → α} {Ya : World → α} {YP : World → Heap → Prop} {d : DefRec} {kwd : List (Str × Expr)} {N : Nat}
    (_left : ∀ _ : World, Nat.zero = Nat.zero) (hY : ∀ w s, Yf s = Ya w → YP w s.heap) (hYk : ∀ w h h', YP w h → (∀ b o, h.get? b = some o → h'.get? b = some o) → YP w h')
    (hX : ∀ s, Xt s = true → XP (s.heap.nsMap mainGlobals) s.heap) (hXk : ∀ mg h h', XP mg h → (∀ b o, h.get? b = some o → h'.get? b = some o) → XP mg h')
    (hdef : defOf q r.name = some (d, kwd)) (hp : r.prog.theDef r.name = some (d.params, d.body, d.scope)) (hk : kwWritten? d.params.kwonlyargs d.params.kw_defaults = some kwd) (hRf : ∀ s, Xt s = true → RecFacts r.records s.heap) (hwr : (!r.writes || r.records.isEmpty) = true)
    (_k1 : true = true) (ok : (chainsOk q && opensWell r.prog && (frees r.toRowW && r.within.isEmpty)) = true) (hb : r.prog.bare) (hw : r.toRowW.promised)
    (all : (r.wellSaid = true ∧ LeftO r.prog q loose Xt Yf Ya N) ∧ WalkC q loose XP YP r.toRowW d kwd) : r.Holds := by
  obtain ⟨⟨k1, left⟩, call⟩ := all
  refine ⟨k1, hw, open_bare (d := .done (.ret (.bool true))) (open_anyG (r := r.toRowW) (run := fun f vs => guarded (PySem.call f vs) (.bool true)) left hY hYk hX hXk hRf hwr ok hb hw ?_ (fun w s hg G n hn => ?_) fun w s₀ s₁ mg mb G Y args vs as hpre hlay L low => ?_)⟩
  · intro vs w s mg f Q E hg hf h Γ p hi
    by_cases hc : Clean Γ
    · refine (guarded_yes hc).mpr ?_
      rw [Sem.wp_bind']
      refine Sem.wp_mono _ Γ _ (fun v p' s' hv => ?_) (fun _ _ _ x => x) p s (wpAny_nsGet (E := E) (Q := fun v s' => v = some f ∧ s' = s) hg ⟨hf, rfl⟩ Γ p hi)
      obtain ⟨rfl, rfl⟩ := hv
      show Sem.wp _ Γ (PySem.call f vs >>= fun v => ret v) _ _ p' s'
      rw [Sem.wp_bind']
      exact Sem.wp_mono _ Γ _ (fun v p'' s'' hv => hv) (fun _ _ _ x => x) p' s' ((guarded_yes hc).mp (h Γ p' hi))
    · exact (guarded_no hc).mpr ((guarded_no hc).mp (h Γ p hi))
  · obtain rfl : n = r.name := by split at hn <;> simp_all
    exact pinned_of_view hg G hdef hp hk
  · obtain ⟨a, o, pm, cd, doc, dV, kV, h1, h2, h3, h4, h5⟩ := G.fn hdef
    obtain ⟨c1, c2⟩ := call w s₀ s₁ mg mb G Y a o pm cd doc dV kV h2 h3 h4 h5 (defOf_name hdef ▸ h1) L.gens args vs as hpre hlay L.reads L.well (L.low low)
    exact ⟨.ref a, h1, guarded_any c1 c2⟩
open_top hd for PySem.Challenge.rw_zn0015_01.row
theorem said : PySem.Challenge.rw_zn0015_01.wellSaid = true := by
  unfold OpenLaw.wellSaid OpenRow.wellSaid OpenRow.partSaid looksOpen
  repeat' (with_reducible refine look_both ?_ ?_)
  all_goals decide +kernel
noncomputable def Halt (P : Prop) : Prop := P
theorem halt_in {P : Prop} (h : Halt P) : P := h
theorem halt_out {P : Prop} (h : P) : Halt P := h
noncomputable def Ct (w : World) (f : Addr) (d : Nat) (news : List (Addr × Obj)) (args : List Value) (Post : Value → List (Addr × Obj) → Prop) : Prop :=
  ∀ (loose : List Str) (mean : ExcName → Option Value) (mg mb : Str → Option Value) (dp un : Nat) (cn : Str) (cs : Scope) (a : Addr) (ccd : Value) (cl : List (Str × Addr)) (outer : List Env) (A₀ : Around) (base h₀ : Heap) (L : Addr) (m : Str → Option Value) (s : Shared) (Q E : Value → Shared → Prop),
    Below A₀ base outer h₀ → Fr h₀ L s.heap m → (Mine.hd.heap_1 w.params).In h₀ → News h₀ L s.heap news → Top Mine.hd.view_1 loose mean mg mb h₀ → cs.kind = .function → dp + d < recursionLimit → un + 8 * d < cLine →
    (∀ r h' tk' news', Fr h₀ L h' m → News h₀ L h' news' → Post r news' → Q r { s with heap := h', toks := tk' }) →
    wpAny (model Challenge.rw_zn0015_01.row.prog w) (ktrTop dp un (some []) cn cs L a ccd cl outer) (call (.ref f) args) Q E s
theorem Ct.use {w : World} {f : Addr} {d : Nat} {news : List (Addr × Obj)} {args : List Value} {Post : Value → List (Addr × Obj) → Prop} (C : Ct w f d news args Post)
    {loose : List Str} {mean : ExcName → Option Value} {mg mb : Str → Option Value} {dp un : Nat} {cn : Str} {cs : Scope} {a : Addr} {ccd : Value} {cl : List (Str × Addr)} {outer : List Env} {A₀ : Around} {base h₀ : Heap} {L : Addr} {m : Str → Option Value} {s : Shared} {Q E : Value → Shared → Prop}
    (B : Below A₀ base outer h₀) (F : Fr h₀ L s.heap m) (X : (Mine.hd.heap_1 w.params).In h₀) (N : News h₀ L s.heap news) (T : Top Mine.hd.view_1 loose mean mg mb h₀) (hk : cs.kind = .function) (hd : dp + d < recursionLimit) (hu : un + 8 * d < cLine)
    (k : ∀ r h' tk' news', Fr h₀ L h' m → News h₀ L h' news' → Post r news' → Q r { s with heap := h', toks := tk' }) :
    wpAny (model Challenge.rw_zn0015_01.row.prog w) (ktrTop dp un (some []) cn cs L a ccd cl outer) (call (.ref f) args) Q E s := C _ _ _ _ _ _ _ _ _ _ _ _ _ _ _ _ _ _ _ _ B F X N T hk hd hu k
theorem allObj_of {k : List (Addr × Obj) → Prop} : ∀ (ws : List (Addr × String)), (∀ its, Objs ws its → k its) → AllObj ws k
  | [], h => h [] trivial
  | w :: r, h => fun o ho => allObj_of (k := fun its => k ((w.1, o) :: its)) r fun its hi => h ((w.1, o) :: its) ⟨⟨rfl, ho⟩, hi⟩
section
variable {prog : Program} {w : World} {A : Around} {E : Value → Shared → Prop} {h₀ : Heap} {env : Env} {target : Expr} {body : List Stmt} {Q : Flow → Shared → Prop} {s : Shared} {ws : List (Addr × String)} {keep : List (Addr × Obj)}
theorem rest_inv (J : List Itm → (Str → Option Value) → List (Addr × Obj) → Prop)
    (step : ∀ a r m news v h tk its, J (a :: r) m news → a.Is v h → Fr h₀ env.locals h m → Objs ws its → News h₀ env.locals h (its ++ news) →
      wpAny (model prog w) A (assign target env v) (fun _ s₂ => wpAny (model prog w) A (execs body env) (UnrPostW h₀ env.locals { s with heap := h, toks := tk } its (fun m' n' => SubL keep n' ∧ J r m' n') Q) E s₂) E { s with heap := h, toks := tk })
    (fin : ∀ m news h tk, J [] m news → Fr h₀ env.locals h m → News h₀ env.locals h news → Q .next { s with heap := h, toks := tk }) :
    ∀ xs m news, J xs m news → ItemsRest prog w A E h₀ env target body Q s ws keep xs m news
  | [], m, news, j => fun h tk F N => fin m news h tk j F N
  | a :: r, m, news, j => fun v h tk hv F => allObj_of ws fun its hi N => by
    refine wpAny_mono (step a r m news v h tk its j hv F hi N) (fun _ s₂ h₂ => wpAny_mono h₂ (fun f s₃ p => ?_) fun _ _ e => e) fun _ _ e => e
    have up : UnrEndW h₀ env.locals { s with heap := h, toks := tk } its (fun m' n' => SubL keep n' ∧ J r m' n') s₃ → UnrEndW h₀ env.locals { s with heap := h, toks := tk } its (fun m' n' => SubL keep n' ∧ ItemsRest prog w A E h₀ env target body Q s ws keep r m' n') s₃ := by
      rintro ⟨h', tk', m', news', e, F', N', ho, hk, hj⟩
      exact ⟨h', tk', m', news', e, F', N', ho, hk, rest_inv J step fin r m' news' hj⟩
    cases f with
    | ret v => exact p
    | brk => exact p
    | next => exact up p
    | cont => exact up p
end
theorem subL_of : ∀ {l all : List (Addr × Obj)}, (∀ p ∈ l, p ∈ all) → SubL l all
  | [], _, _ => trivial
  | _ :: _, _, h => ⟨h _ (.head _), subL_of fun p hp => h p (.tail _ hp)⟩
theorem map_but {m m₀ : Str → Option Value} (st : List Str) (h : ∀ z, st.contains z = false → m z = m₀ z) : m = fun z => if st.contains z then m z else m₀ z := by
  funext z
  by_cases hz : st.contains z = true
  · rw [if_pos hz]
  · rw [if_neg hz]; exact h z (by simpa using hz)
noncomputable def TEnd (h₀ : Heap) (L : Addr) (I : Addr) (oI : Obj) (st : List Str) (m₀ : Str → Option Value) (J : (Str → Option Value) → List (Addr × Obj) → Prop) (s₁ : Shared) (Q : Flow → Shared → Prop) (f : Flow) (s₂ : Shared) : Prop :=
  match f with
  | .ret v => Q (.ret v) s₂
  | .brk => Q .next s₂
  | _ => ∃ h' tk m' nw, s₂ = { s₁ with heap := h', toks := tk } ∧ Fr h₀ L h' m' ∧ News h₀ L h' ((I, oI) :: nw) ∧ (∀ p ∈ nw, p.1 ≠ I) ∧ (∀ z, st.contains z = false → m' z = m₀ z) ∧ J m' nw
theorem TEnd.mk {h₀ : Heap} {L I : Addr} {oI : Obj} {st : List Str} {m₀ : Str → Option Value} {J : (Str → Option Value) → List (Addr × Obj) → Prop} {s₁ : Shared} {Q : Flow → Shared → Prop} {h' : Heap} {tk : Nat} {m' : Str → Option Value} {all : List (Addr × Obj)}
    (F : Fr h₀ L h' m') (N : News h₀ L h' all) (nw : List (Addr × Obj)) (sub : ∀ p ∈ (I, oI) :: nw, p ∈ all) (off : ∀ p ∈ nw, p.1 ≠ I) (hm : ∀ z, st.contains z = false → m' z = m₀ z) (j : J m' nw) :
    TEnd h₀ L I oI st m₀ J s₁ Q .next { s₁ with heap := h', toks := tk } := ⟨h', tk, m', nw, rfl, F, fun p hp => N p (sub p hp), off, hm, j⟩
theorem map_set {u m₀ : Str → Option Value} {st : List Str} (x : Str) (v : Value) (hx : st.contains x = true) (hu : u x = some v) : (fun z => if st.contains z then u z else m₀ z) = fun z => if z = x then some v else if st.contains z then u z else m₀ z := by
  funext z
  by_cases hz : z = x
  · subst hz; rw [if_pos hx, if_pos rfl, hu]
  · rw [if_neg hz]
theorem off_if {x : Str} {st : List Str} {v : Option Value} {f m₀ : Str → Option Value} (hx : st.contains x = true) (h : ∀ z, st.contains z = false → f z = m₀ z) :
    ∀ z, st.contains z = false → (fun y => if y = x then v else f y) z = m₀ z := fun z hz => by
  have hne : z ≠ x := fun e => by rw [e, hx] at hz; cases hz
  show (if z = x then v else f z) = m₀ z
  rw [if_neg hne]; exact h z hz
theorem off_base {st : List Str} {u m₀ : Str → Option Value} : ∀ z, st.contains z = false → (fun y => if st.contains y then u y else m₀ y) z = m₀ z := fun z hz => by
  show (if st.contains z then u z else m₀ z) = m₀ z
  rw [if_neg (by rw [hz]; exact Bool.false_ne_true)]
theorem off_of {l : List (Addr × Obj)} {B I : Nat} (h : ∀ p ∈ l, p.1 < B) (hB : B ≤ I) : ∀ p ∈ l, p.1 ≠ I := fun p hp => Nat.ne_of_lt (Nat.lt_of_lt_of_le (h p hp) hB)
theorem snoc_get {α : Type} {ys : List α} {v : α} {P : Nat → α → Prop} (h : ∀ j u, ys[j]? = some u → P j u) (hv : P ys.length v) : ∀ j u, (ys ++ [v])[j]? = some u → P j u := fun j u hj => by
  rcases Nat.lt_trichotomy j ys.length with q | q | q
  · exact h j u (by rwa [List.getElem?_append_left q] at hj)
  · subst q; simp at hj; subst hj; exact hv
  · rw [List.getElem?_eq_none (by rw [List.length_append, List.length_singleton]; lia)] at hj; cases hj
theorem list3 {α : Type} {ys : List α} (h : ys.length = 3) : ∃ a b c, ys = [a, b, c] := by
  match ys, h with
  | [a, b, c], _ => exact ⟨a, b, c, rfl⟩
theorem objs_one {I : Addr} {c : String} : ∀ {its : List (Addr × Obj)}, Objs [(I, c)] its → ∃ o : Obj, its = [(I, o)] ∧ o.cls = .type c
  | [], h => (show False from h).elim
  | [(a, o)], h => ⟨o, by have e : a = I := h.1.1; rw [e], h.1.2⟩
  | _ :: _ :: _, h => (show False from h.2).elim
section
variable {prog : Program} {w : World} {A : Around} {E : Value → Shared → Prop} {h₀ : Heap} {env : Env} {target : Expr} {body : List Stmt} {Q : Flow → Shared → Prop} {s : Shared}
theorem turns_inv {I : Addr} {c : String} {keep : List (Addr × Obj)} {xs : List Itm} {m₀ : Str → Option Value} {news : List (Addr × Obj)} (hIn : ∀ p ∈ news, p.1 < I) (st : List Str) (J : List Itm → (Str → Option Value) → List (Addr × Obj) → Prop) (j0 : J xs m₀ news)
    (hkeep : ∀ r u nw, J r u nw → ∀ p ∈ keep, p ∈ nw)
    (step : ∀ a r u nw v h tk oI, J (a :: r) u nw → a.Is v h → oI.cls = .type c → (∀ p ∈ nw, p.1 ≠ I) → Fr h₀ env.locals h (fun z => if st.contains z then u z else m₀ z) → News h₀ env.locals h ((I, oI) :: nw) →
      wpAny (model prog w) A (assign target env v) (fun _ s₂ => wpAny (model prog w) A (execs body env) (TEnd h₀ env.locals I oI st m₀ (J r) { s with heap := h, toks := tk } Q) E s₂) E { s with heap := h, toks := tk })
    (fin : ∀ u nw h tk, J [] u nw → Fr h₀ env.locals h (fun z => if st.contains z then u z else m₀ z) → News h₀ env.locals h nw → Q .next { s with heap := h, toks := tk }) :
    ItemsRest prog w A E h₀ env target body Q s [(I, c)] keep xs m₀ news := by
  refine rest_inv (fun r m nw => J r m nw ∧ (∀ p ∈ nw, p.1 ≠ I) ∧ ∀ z, st.contains z = false → m z = m₀ z) ?_ ?_ xs m₀ news ⟨j0, fun p hp => Nat.ne_of_lt (hIn p hp), fun _ _ => rfl⟩
  · rintro a r m nw v h tk its ⟨j, hne, hm⟩ hv F hi N
    obtain ⟨oI, e, h2⟩ := objs_one hi
    subst e
    · skip
      rw [map_but st hm] at F
      refine wpAny_mono (step a r m nw v h tk oI j hv h2 hne F N) (fun _ s₂ q => wpAny_mono q (fun f s₃ p => ?_) fun _ _ e => e) fun _ _ e => e
      have up : (∃ h' tk' m' nw, s₃ = { s with heap := h', toks := tk' } ∧ Fr h₀ env.locals h' m' ∧ News h₀ env.locals h' ((I, oI) :: nw) ∧ (∀ p ∈ nw, p.1 ≠ I) ∧ (∀ z, st.contains z = false → m' z = m₀ z) ∧ J r m' nw) →
          UnrEndW h₀ env.locals { s with heap := h, toks := tk } [(I, oI)] (fun m' n' => SubL keep n' ∧ J r m' n' ∧ (∀ p ∈ n', p.1 ≠ I) ∧ ∀ z, st.contains z = false → m' z = m₀ z) s₃ := by
        rintro ⟨h', tk', m', nw', e, F', N', off, hm', j'⟩
        exact ⟨h', tk', m', nw', e, F', N', fun p hp q hq => by rw [List.mem_singleton.mp hq]; exact off p hp, subL_of (hkeep _ _ _ j'), j', off, hm'⟩
      cases f with
      | ret v => exact p
      | brk => exact p
      | next => exact up p
      | cont => exact up p
  · rintro m nw h tk ⟨j, _, hm⟩ F N
    rw [map_but st hm] at F
    exact fin m nw h tk j F N
theorem list_inv {ax : Addr} {lo : Obj} {vs : List Value} {n : Nat} {m₀ : Str → Option Value} {news : List (Addr × Obj)} (st : List Str) (J : List Value → (Str → Option Value) → List (Addr × Obj) → Prop)
    (hh : A.handled = none) (F : Fr h₀ env.locals s.heap m₀) (N : News h₀ env.locals s.heap news) (hm : (ax, lo) ∈ news) (hc : lo.cls = .type "list") (hd : lo.data = .seq vs.toArray n) (j0 : J vs m₀ news)
    (hkeep : ∀ r u nw, J r u nw → (ax, lo) ∈ nw)
    (step : ∀ v r u nw h tk I oI, J (v :: r) u nw → oI.cls = .type "list_iterator" → (∀ p ∈ nw, p.1 ≠ I) → Fr h₀ env.locals h (fun z => if st.contains z then u z else m₀ z) → News h₀ env.locals h ((I, oI) :: nw) →
      wpAny (model prog w) A (assign target env v) (fun _ s₂ => wpAny (model prog w) A (execs body env) (TEnd h₀ env.locals I oI st m₀ (J r) { s with heap := h, toks := tk } Q) E s₂) E { s with heap := h, toks := tk })
    (fin : ∀ u nw h tk, J [] u nw → Fr h₀ env.locals h (fun z => if st.contains z then u z else m₀ z) → News h₀ env.locals h nw → Q .next { s with heap := h, toks := tk }) :
    wpAny (model prog w) A (pyIter (.ref ax)) (fun it s₂ => TurnsAt prog w A h₀ env target body Q E it s₂) E s := by
  refine iter_listTurns hh F N hm hc hd fun I hI => turns_inv hI st (fun r u nw => ∃ vs', r = vs'.map .val ∧ J vs' u nw) ⟨vs, rfl, j0⟩ (fun r u nw ⟨_, _, j⟩ p hp => List.mem_singleton.mp hp ▸ hkeep _ _ _ j) ?_ ?_
  · rintro a r u nw v h tk oI ⟨vs', e, j⟩ hv hcl hne F' N'
    cases vs' with
    | nil => cases e
    | cons v' vs' =>
      rw [List.map_cons] at e
      injection e with e1 e2
      subst e1
      have hv' : v = v' := hv
      subst hv'
      refine wpAny_mono (step v vs' u nw h tk I oI j hcl hne F' N') (fun _ s₂ q => wpAny_mono q (fun f s₃ p => ?_) fun _ _ e => e) fun _ _ e => e
      have up : (∃ h' tk' m' nw, s₃ = { s with heap := h', toks := tk' } ∧ Fr h₀ env.locals h' m' ∧ News h₀ env.locals h' ((I, oI) :: nw) ∧ (∀ p ∈ nw, p.1 ≠ I) ∧ (∀ z, st.contains z = false → m' z = m₀ z) ∧ J vs' m' nw) →
          (∃ h' tk' m' nw, s₃ = { s with heap := h', toks := tk' } ∧ Fr h₀ env.locals h' m' ∧ News h₀ env.locals h' ((I, oI) :: nw) ∧ (∀ p ∈ nw, p.1 ≠ I) ∧ (∀ z, st.contains z = false → m' z = m₀ z) ∧ ∃ vs'', r = vs''.map .val ∧ J vs'' m' nw) := by
        rintro ⟨h', tk', m', nw', a, b, c, d, e, j⟩
        exact ⟨h', tk', m', nw', a, b, c, d, e, vs', e2, j⟩
      cases f with
      | ret v => exact p
      | brk => exact p
      | next => exact up p
      | cont => exact up p
  · rintro u nw h tk ⟨vs', e, j⟩ F' N'
    cases vs' with
    | nil => exact fin u nw h tk j F' N'
    | cons v' vs' => cases e
theorem items_inv {elts : List Expr} {kk : Nat} {pos : Pos} {d vw : Addr} {od : Obj} {kvs : List (Int × Value)} {c : List (Int × Int)} {m₀ : Str → Option Value} {news : List (Addr × Obj)} (st : List Str) (J : List (Int × Int) → (Str → Option Value) → List (Addr × Obj) → Prop)
    (hh : A.handled = none) (F : Fr h₀ env.locals s.heap m₀) (N : News h₀ env.locals s.heap news) (hvw : ∃ ov, s.heap.get? vw = some ov ∧ ov.cls = .type "dict_items" ∧ ov.data = .fields #[.ref d]) (hm : (d, od) ∈ news) (lo : (d == sysModules) = false)
    (hd : od.IsDictOf (PySem.intKind prog w) kvs) (hf : PyProof.V.FlatPairs PyData.int kvs (kdfD c)) (j0 : J c m₀ news) (hkeep : ∀ r u nw, J r u nw → (d, od) ∈ nw)
    (step : ∀ k e r u nw h tk I oI T t te, J ((k, e) :: r) u nw → IsTup h T #[.int k t, .int e te] → oI.cls = .type "dict_itemiterator" → (∀ p ∈ nw, p.1 ≠ I) → Fr h₀ env.locals h (fun z => if st.contains z then u z else m₀ z) → News h₀ env.locals h ((I, oI) :: nw) →
      wpAny (model prog w) A (assign (.Tuple elts kk pos) env (.ref T)) (fun _ s₂ => wpAny (model prog w) A (execs body env) (TEnd h₀ env.locals I oI st m₀ (J r) { s with heap := h, toks := tk } Q) E s₂) E { s with heap := h, toks := tk })
    (fin : ∀ u nw h tk, J [] u nw → Fr h₀ env.locals h (fun z => if st.contains z then u z else m₀ z) → News h₀ env.locals h nw → Q .next { s with heap := h, toks := tk }) :
    wpAny (model prog w) A (pyIter (.ref vw)) (fun it s₂ => TurnsAt prog w A h₀ env (.Tuple elts kk pos) body Q E it s₂) E s := by
  refine kti_items (knd := PySem.intKind _ _) (enc := PyData.int) (xs := c.map fun p => Itm.pairF (fun t => Value.int p.1 t) (PyData.int p.2)) hh F N hvw (TabAt.ofNews N hm lo hd hf) hm (fun _ _ h => Value.isInt_shape h) (by unfold kdfD; rw [List.map_map]; rfl)
    fun I hI => turns_inv hI st (fun r u nw => ∃ c', r = c'.map (fun p => Itm.pairF (fun t => Value.int p.1 t) (PyData.int p.2)) ∧ J c' u nw) ⟨c, rfl, j0⟩ (fun r u nw ⟨_, _, j⟩ p hp => List.mem_singleton.mp hp ▸ hkeep _ _ _ j) ?_ ?_
  · rintro a r u nw v h tk oI ⟨c', e, j⟩ hv hcl hne F' N'
    cases c' with
    | nil => cases e
    | cons p c' =>
      obtain ⟨k, i⟩ := p
      rw [List.map_cons] at e
      injection e with e1 e2
      subst e1
      obtain ⟨T, t, x, rfl, hx, hT⟩ := hv
      obtain ⟨te, rfl⟩ := PyProof.V.Flat.int_inv hx
      refine wpAny_mono (step k i c' u nw h tk I oI T t te j hT hcl hne F' N') (fun _ s₂ q => wpAny_mono q (fun f s₃ p => ?_) fun _ _ e => e) fun _ _ e => e
      have up : (∃ h' tk' m' nw, s₃ = { s with heap := h', toks := tk' } ∧ Fr h₀ env.locals h' m' ∧ News h₀ env.locals h' ((I, oI) :: nw) ∧ (∀ p ∈ nw, p.1 ≠ I) ∧ (∀ z, st.contains z = false → m' z = m₀ z) ∧ J c' m' nw) →
          (∃ h' tk' m' nw, s₃ = { s with heap := h', toks := tk' } ∧ Fr h₀ env.locals h' m' ∧ News h₀ env.locals h' ((I, oI) :: nw) ∧ (∀ p ∈ nw, p.1 ≠ I) ∧ (∀ z, st.contains z = false → m' z = m₀ z) ∧ ∃ c'', r = c''.map (fun p => Itm.pairF (fun t => Value.int p.1 t) (PyData.int p.2)) ∧ J c'' m' nw) := by
        rintro ⟨h', tk', m', nw', a, b, c, d, e, j⟩
        exact ⟨h', tk', m', nw', a, b, c, d, e, c', e2, j⟩
      cases f with
      | ret v => exact p
      | brk => exact p
      | next => exact up p
      | cont => exact up p
  · rintro u nw h tk ⟨c', e, j⟩ F' N'
    cases c' with
    | nil => exact fin u nw h tk j F' N'
    | cons v' vs' => cases e
theorem vals_inv {d vw : Addr} {od : Obj} {kvs : List (Int × Value)} {c : List (Int × Int)} {m₀ : Str → Option Value} {news : List (Addr × Obj)} (st : List Str) (J : List (Int × Int) → (Str → Option Value) → List (Addr × Obj) → Prop)
    (hh : A.handled = none) (F : Fr h₀ env.locals s.heap m₀) (N : News h₀ env.locals s.heap news) (hvw : s.heap.IsValuesView vw d) (hm : (d, od) ∈ news) (lo : (d == sysModules) = false)
    (hd : od.IsDictOf (PySem.intKind prog w) kvs) (hf : PyProof.V.FlatPairs PyData.int kvs (kdfD c)) (j0 : J c m₀ news) (hkeep : ∀ r u nw, J r u nw → (d, od) ∈ nw)
    (step : ∀ k e r u nw h tk I oI te, J ((k, e) :: r) u nw → oI.cls = .type "dict_valueiterator" → (∀ p ∈ nw, p.1 ≠ I) → Fr h₀ env.locals h (fun z => if st.contains z then u z else m₀ z) → News h₀ env.locals h ((I, oI) :: nw) →
      wpAny (model prog w) A (assign target env (.int e te)) (fun _ s₂ => wpAny (model prog w) A (execs body env) (TEnd h₀ env.locals I oI st m₀ (J r) { s with heap := h, toks := tk } Q) E s₂) E { s with heap := h, toks := tk })
    (fin : ∀ u nw h tk, J [] u nw → Fr h₀ env.locals h (fun z => if st.contains z then u z else m₀ z) → News h₀ env.locals h nw → Q .next { s with heap := h, toks := tk }) :
    wpAny (model prog w) A (pyIter (.ref vw)) (fun it s₂ => TurnsAt prog w A h₀ env target body Q E it s₂) E s := by
  refine kti_vals (knd := PySem.intKind _ _) (enc := PyData.int) (xs := c.map fun p => Itm.flat (PyData.int p.2)) hh F N hvw (TabAt.ofNews N hm lo hd hf) hm (by unfold kdfD; rw [List.map_map]; rfl)
    fun I hI => turns_inv hI st (fun r u nw => ∃ c', r = c'.map (fun p => Itm.flat (PyData.int p.2)) ∧ J c' u nw) ⟨c, rfl, j0⟩ (fun r u nw ⟨_, _, j⟩ p hp => List.mem_singleton.mp hp ▸ hkeep _ _ _ j) ?_ ?_
  · rintro a r u nw v h tk oI ⟨c', e, j⟩ hv hcl hne F' N'
    cases c' with
    | nil => cases e
    | cons p c' =>
      obtain ⟨k, i⟩ := p
      rw [List.map_cons] at e
      injection e with e1 e2
      subst e1
      obtain ⟨te, rfl⟩ := PyProof.V.Flat.int_inv hv
      refine wpAny_mono (step k i c' u nw h tk I oI te j hcl hne F' N') (fun _ s₂ q => wpAny_mono q (fun f s₃ p => ?_) fun _ _ e => e) fun _ _ e => e
      have up : (∃ h' tk' m' nw, s₃ = { s with heap := h', toks := tk' } ∧ Fr h₀ env.locals h' m' ∧ News h₀ env.locals h' ((I, oI) :: nw) ∧ (∀ p ∈ nw, p.1 ≠ I) ∧ (∀ z, st.contains z = false → m' z = m₀ z) ∧ J c' m' nw) →
          (∃ h' tk' m' nw, s₃ = { s with heap := h', toks := tk' } ∧ Fr h₀ env.locals h' m' ∧ News h₀ env.locals h' ((I, oI) :: nw) ∧ (∀ p ∈ nw, p.1 ≠ I) ∧ (∀ z, st.contains z = false → m' z = m₀ z) ∧ ∃ c'', r = c''.map (fun p => Itm.flat (PyData.int p.2)) ∧ J c'' m' nw) := by
        rintro ⟨h', tk', m', nw', a, b, c, d, e, j⟩
        exact ⟨h', tk', m', nw', a, b, c, d, e, c', e2, j⟩
      cases f with
      | ret v => exact p
      | brk => exact p
      | next => exact up p
      | cont => exact up p
  · rintro u nw h tk ⟨c', e, j⟩ F' N'
    cases c' with
    | nil => exact fin u nw h tk j F' N'
    | cons v' vs' => cases e
theorem range_inv {x : Str} {r : Addr} {a₀ b₀ : Int} {t₀ u₀ v₀ : Tok} {n : Nat} {m₀ : Str → Option Value} {news : List (Addr × Obj)} (st : List Str) (J : Nat → (Str → Option Value) → List (Addr × Obj) → Prop)
    (hh : A.handled = none) (hr : IsRange s.heap r a₀ b₀ 1 t₀ u₀ v₀) (hsmall : Builtin.Range.small a₀ b₀ 1 = true) (hn : Builtin.Range.rangeSize a₀ b₀ 1 = (n : Int)) (F : Fr h₀ env.locals s.heap m₀) (N : News h₀ env.locals s.heap news) (j0 : J 0 m₀ news)
    (step : ∀ i t u nw h tk I oI, i < n → J i u nw → oI.cls = .type "range_iterator" → (∀ p ∈ nw, p.1 ≠ I) → Fr h₀ env.locals h (fun y => if y = x then some (.int (a₀ + (i : Int)) t) else if st.contains y then u y else m₀ y) → News h₀ env.locals h ((I, oI) :: nw) →
      wpAny (model prog w) A (execs body env) (TEnd h₀ env.locals I oI st m₀ (J (i + 1)) { s with heap := h, toks := tk } Q) E { s with heap := h, toks := tk })
    (fin : ∀ u nw h tk, J n u nw → Fr h₀ env.locals h (fun z => if st.contains z then u z else m₀ z) → News h₀ env.locals h nw → Q .next { s with heap := h, toks := tk }) :
    wpAny (model prog w) A (pyIter (.ref r)) (fun it s₂ => LoopAtV prog w A h₀ env x body Q E it s₂) E s := by
  refine iter_rangeUnr hh hr hsmall hn F N fun I hI => ?_
  suffices go : ∀ k i m nw, i + k = n → J i m nw → (∀ p ∈ nw, p.1 ≠ I) → (∀ z, st.contains z = false → m z = m₀ z) → RangeRest prog w A E h₀ env x body Q s I a₀ n k i m nw from
    go n 0 m₀ news (Nat.zero_add n) j0 (fun p hp => Nat.ne_of_lt (hI p hp)) fun _ _ => rfl
  intro k
  induction k with
  | zero =>
    intro i m nw hik j _ hm h tk F' N'
    rw [map_but st hm] at F'
    have e : i = n := hik
    subst e
    exact fin m nw h tk j F' N'
  | succ k ih =>
    intro i m nw hik j hne hm t h tk F' N'
    have e : (fun y => if y = x then some (Value.int (a₀ + (i : Int)) t) else m y) = fun y => if y = x then some (Value.int (a₀ + (i : Int)) t) else if st.contains y then m y else m₀ y := by
      funext y
      by_cases hy : y = x
      · rw [if_pos hy, if_pos hy]
      · rw [if_neg hy, if_neg hy]
        exact congrFun (map_but st hm) y
    rw [e] at F'
    refine wpAny_mono (step i t m nw h tk I _ (by lia) j rfl hne F' N') (fun f s₃ p => ?_) fun _ _ e => e
    have up : (∃ h' tk' m' nw', s₃ = { s with heap := h', toks := tk' } ∧ Fr h₀ env.locals h' m' ∧ News h₀ env.locals h' ((I, itR (a₀ + ((i + 1 : Nat) : Int)) ((n : Int) - ((i + 1 : Nat) : Int))) :: nw') ∧ (∀ p ∈ nw', p.1 ≠ I) ∧ (∀ z, st.contains z = false → m' z = m₀ z) ∧ J (i + 1) m' nw') →
        UnrEnd h₀ env.locals { s with heap := h, toks := tk } I (itR (a₀ + ((i + 1 : Nat) : Int)) ((n : Int) - ((i + 1 : Nat) : Int))) (RangeRest prog w A E h₀ env x body Q s I a₀ n k (i + 1)) s₃ := by
      rintro ⟨h', tk', m', nw', e, F'', N'', off, hm', j'⟩
      exact ⟨h', tk', m', nw', e, F'', N'', off, ih (i + 1) m' nw' (by lia) j' off hm'⟩
    cases f with
    | ret v => exact p
    | brk => exact p
    | next => exact up p
    | cont => exact up p
end
section
variable {prog : Program} {w : World} {A : Around} {E : Value → Shared → Prop} {s : Shared} {d : Addr} {c : List (Int × Int)} {k : Int} {tk : Tok}
theorem kdf_getItem {Q : Value → Shared → Prop} (T : IntTab prog w s.heap d (kdfD c)) (hk : kdfHas c k = true) (h : ∀ t, Q (.int (kdfLook c k 0) t) { s with toks := s.toks + 1 }) : wpAny (model prog w) A (getItem (.ref d) (.int k tk)) Q E s :=
  getItem_tab PyProof.V.same_int (intKind_is _ _ _ _) T (kdfD_item hk) fun v hv => by
    obtain ⟨t, rfl⟩ := PyProof.V.Flat.int_inv hv
    exact h t
end
section
variable {prog : Program} {w : World} {A : Around} {E : Value → Shared → Prop} {s : Shared} {h₀ : Heap} {L : Addr} {news : List (Addr × Obj)}
theorem item_at {value slice : PySem.Expr} {l : Addr} {vs : List Value} {n : Nat} {k : Int} {u : Tok} {v : Value} {Q : Value → Shared → Prop}
    (N : News h₀ L s.heap news) (hm : (l, ({ cls := .type "list", data := .seq vs.toArray n } : Obj)) ∈ news) (h0 : 0 ≤ k) (hhi : k < 2 ^ 20) (hx : vs[k.toNat]? = some v) (h : Q v s)
    (hs : subscripted slice false (.ref l) (.int k u) = operate [.ref l, .int k u] (getItem (.ref l) (.int k u))) :
    wpAny (model prog w) A (subscriptTail value slice (.ref l) (.int k u)) Q E s :=
  have hl : s.heap.IsList l vs.toArray := ⟨_, (N _ hm).1, rfl, n, rfl⟩
  tail_any hl.typeIs slot_list_getitem.lookup (wpAny_getItem_list hl h0 (by lia) (by simpa using hx) h) hs
theorem getItem_at {l : Addr} {vs : List Value} {n : Nat} {k : Int} {u : Tok} {v : Value} {Q : Value → Shared → Prop}
    (N : News h₀ L s.heap news) (hm : (l, ({ cls := .type "list", data := .seq vs.toArray n } : Obj)) ∈ news) (h0 : 0 ≤ k) (hhi : k < 2 ^ 20) (hx : vs[k.toNat]? = some v) (h : Q v s) :
    wpAny (model prog w) A (getItem (.ref l) (.int k u)) Q E s :=
  have hl : s.heap.IsList l vs.toArray := ⟨_, (N _ hm).1, rfl, n, rfl⟩
  wpAny_getItem_list hl h0 (by lia) (by simpa using hx) h
end
section
variable {prog : Program} {w : World} {A : Around} {E : Value → Shared → Prop} {s : Shared} {h₀ : Heap} {L D : Addr} {m : Str → Option Value} {news news' : List (Addr × Obj)} {vs : List Value} {n : Nat} {k : Int} {t : Tok} {v : Value}
theorem setItem_at {Q : Unit → Shared → Prop} (F : Fr h₀ L s.heap m) (N : News h₀ L s.heap news) (U : Upd D (listOf vs.toArray n) (listOf (vs.set k.toNat v).toArray n) news news') (h0 : 0 ≤ k) (h1 : k.toNat < vs.length) (hfit : k < 2 ^ 20)
    (h : ∀ h', Fr h₀ L h' m → News h₀ L h' news' → Q () { s with heap := h' }) : wpAny (model prog w) A (setItem (.ref D) (.int k t) v) Q E s := by
  obtain ⟨pre, post, rfl, rfl, a, b⟩ := U.split
  have z := N (D, listOf vs.toArray n) (List.mem_append.mpr (.inr (.head _)))
  have hs : vs.toArray.size = vs.length := by simp
  refine ki_setAt z.1 h0 (by lia) (by lia) (h _ (F.change (Heap.SameBut.update ..) z.2.1 z.2.2) (ki_turn _ N a b ?_ ?_))
  · show vs.toArray.setIfInBounds k.toNat v = (vs.set k.toNat v).toArray
    apply Array.toList_inj.mp
    simp
  · simp
variable {d : Addr} {o : Obj} {g : Obj → List (Addr × Obj)}
theorem made2 {Q : Value → Shared → Prop} {a b e f : Int} {ta tb te tf : Tok} (F : Fr h₀ L s.heap m) (N : News h₀ L s.heap news) (U : UpdF d o news g) (hd : o.IsDictOf (PySem.intKind prog w) []) (hab : a ≠ b)
    (h : ∀ h' o' kvs, Fr h₀ L h' m → News h₀ L h' (g o') → o'.IsDictOf (PySem.intKind prog w) kvs → PyProof.V.FlatPairs PyData.int kvs (kdfD [(a, e), (b, f)]) → Q (.ref d) { s with heap := h', toks := s.toks + 2 }) :
    KdnMade prog w (PySem.intKind prog w) d Q [(.int a ta, .int e te), (.int b tb, .int f tf)] s :=
  kdn_made_intF F N U hd rfl (by simp [intKeyPairs, hab]) rfl fun h' o' F' N' hd' hf' => h h' o' _ F' N' hd' hf'
end
theorem kdfLook_none {c : List (Int × Int)} {k : Int} (h : kdfHas c k = false) : kdfLook c k 0 = 0 := by
  have hn : (c.find? fun p => decide (p.1 = k)) = none := by
    rw [List.find?_eq_none]
    intro p hp
    have := List.any_eq_false.mp h p hp
    exact this
  unfold kdfLook
  rw [hn]; rfl
noncomputable def divF (n d : Int) : UInt64 := Float64.ofFrac (decide (n < 0) != decide (d < 0)) n.natAbs d.natAbs
noncomputable def fY (r g b : UInt64) : UInt64 := Float64.add (Float64.add (Float64.mul 4599075939470750515 r) (Float64.mul 4603489467105573601 g)) (Float64.mul 4592590756007337001 b)
noncomputable def fI (r b y : UInt64) : UInt64 := Float64.sub (Float64.mul 4604840546993784750 (Float64.sub r y)) (Float64.mul 4598535507515466056 (Float64.sub b y))
noncomputable def fQ (r b y : UInt64) : UInt64 := Float64.add (Float64.mul 4602318531202457272 (Float64.sub r y)) (Float64.mul 4601057523306793533 (Float64.sub b y))
noncomputable def clampF (x : UInt64) : UInt64 :=
  if (Float64.cmp (if (Float64.cmp x 0 == some Ordering.lt) = true then 0 else x) 4607182418800017408 == some Ordering.gt) = true then 4607182418800017408
  else if (Float64.cmp x 0 == some Ordering.lt) = true then 0 else x
noncomputable def fR (y i q : UInt64) : UInt64 := clampF (Float64.add (Float64.add y (Float64.mul 4606703976345377586 i)) (Float64.mul 4603791717925830846 q))
noncomputable def fG (y i q : UInt64) : UInt64 := clampF (Float64.sub (Float64.sub y (Float64.mul 4598621754083818298 i)) (Float64.mul 4603901015759978483 q))
noncomputable def fB (y i q : UInt64) : UInt64 := clampF (Float64.add (Float64.sub y (Float64.mul 4607671262177584182 i)) (Float64.mul 4610375502138591871 q))
noncomputable def rnd (z : UInt64) : Int := Flt.toInt Float64.nearestOf (Float64.mul z (Float64.ofInt 255))
noncomputable def finZ (z : UInt64) : Prop := Float64.isFinite (Float64.mul z (Float64.ofInt 255)) = true
theorem finZ_nan {z : UInt64} (h : finZ z) (h' : Float64.isNaN (Float64.mul z (Float64.ofInt 255)) = true) : False := by
  unfold finZ Float64.isFinite at h
  unfold Float64.isNaN at h'
  split at h <;> simp_all
theorem finZ_inf {z : UInt64} (h : finZ z) (h' : Float64.isInf (Float64.mul z (Float64.ofInt 255)) = true) : False := by
  unfold finZ Float64.isFinite at h
  unfold Float64.isInf at h'
  split at h <;> simp_all
noncomputable def tY (p1 p2 p3 q1 q2 q3 : Int) : UInt64 := fY (divF (p1 + q1) 255) (divF (p2 + q2) 255) (divF (p3 + q3) 255)
noncomputable def tI (p1 p2 p3 q1 q2 q3 : Int) : UInt64 := fI (divF (p1 + q1) 255) (divF (p3 + q3) 255) (tY p1 p2 p3 q1 q2 q3)
noncomputable def tQ (p1 p2 p3 q1 q2 q3 : Int) : UInt64 := fQ (divF (p1 + q1) 255) (divF (p3 + q3) 255) (tY p1 p2 p3 q1 q2 q3)
noncomputable def tR (p1 p2 p3 q1 q2 q3 g : Int) : UInt64 := fR (Float64.sub (divF g 255) (tY p1 p2 p3 q1 q2 q3)) (Float64.neg (tI p1 p2 p3 q1 q2 q3)) (Float64.neg (tQ p1 p2 p3 q1 q2 q3))
noncomputable def tG (p1 p2 p3 q1 q2 q3 g : Int) : UInt64 := fG (Float64.sub (divF g 255) (tY p1 p2 p3 q1 q2 q3)) (Float64.neg (tI p1 p2 p3 q1 q2 q3)) (Float64.neg (tQ p1 p2 p3 q1 q2 q3))
noncomputable def tB (p1 p2 p3 q1 q2 q3 g : Int) : UInt64 := fB (Float64.sub (divF g 255) (tY p1 p2 p3 q1 q2 q3)) (Float64.neg (tI p1 p2 p3 q1 q2 q3)) (Float64.neg (tQ p1 p2 p3 q1 q2 q3))
theorem kdfPut_new {c : List (Int × Int)} {k v : Int} (h : ∀ p ∈ c, p.1 ≠ k) : kdfPut c k v = c ++ [(k, v)] := by
  unfold kdfPut
  rw [if_neg]
  intro q
  obtain ⟨p, hp, e⟩ := List.any_eq_true.mp q
  exact h p hp (of_decide_eq_true e)
theorem nodup_mid {cp r : List (Int × Int)} {k e : Int} (h : ((cp ++ (k, e) :: r).map (·.1)).Nodup) : ∀ p ∈ cp, p.1 ≠ k := by
  intro p hp q
  rw [List.map_append, List.nodup_append] at h
  exact h.2.2 p.1 (List.mem_map_of_mem hp) k (by simp) q
theorem ne_head {I d : Addr} {o o' : Obj} {news : List (Addr × Obj)} (h : ∀ p ∈ (d, o) :: news, p.1 ≠ I) : ∀ p ∈ (d, o') :: news, p.1 ≠ I := fun p hp => by
  rcases List.mem_cons.mp hp with rfl | hp
  · exact h (d, o) (.head _)
  · exact h p (.tail _ hp)
abbrev addTo (c c2 : List (Int × Int)) : List (Int × Int) := c2.foldl (fun c p => kdfPut c p.1 (kdfLook c p.1 0 + p.2)) c
theorem addTo_len (c2 : List (Int × Int)) : ∀ c, (addTo c c2).length ≤ c.length + c2.length := by
  induction c2 with
  | nil => intro c; exact Nat.le_refl _
  | cons p r ih => intro c; have h1 := ih (kdfPut c p.1 (kdfLook c p.1 0 + p.2)); have h2 := kdfPut_len c p.1 (kdfLook c p.1 0 + p.2); have h3 : addTo c (p :: r) = addTo (kdfPut c p.1 (kdfLook c p.1 0 + p.2)) r := rfl; rw [List.length_cons, h3]; lia
theorem addTo_snoc (c c2 : List (Int × Int)) (k e : Int) : addTo c (c2 ++ [(k, e)]) = kdfPut (addTo c c2) k (kdfLook (addTo c c2) k 0 + e) := by
  unfold addTo; rw [List.foldl_append]; rfl
structure Ent where
  cc : Int
  nc : Int
  tt : Int
  ct : Int
  c : List (Int × Int)
noncomputable def Ent.zero : Ent := ⟨0, 0, 0, 0, []⟩
noncomputable def Ent.upd (e : Ent) (k1 k2 worth oct : Int) : Ent := ⟨1 + e.cc, 2 + e.nc, worth + e.tt, oct + e.ct, addTo e.c [(k1, 1), (k2, 1)]⟩
noncomputable def enterE (es : List Ent) (x y z worth oct : Int) : List Ent :=
  ((es.modify x.toNat (fun e => e.upd z y worth oct)).modify y.toNat (fun e => e.upd x z worth oct)).modify z.toNat (fun e => e.upd y x worth oct)
noncomputable def light (s w : Int) (c : Nat) : Int × Int × Int := (w + (if c = 0 then s else 0), w + (if c = 1 then s else 0), w + (if c = 2 then s else 0))
structure Mo where
  ring : List Int
  wc : List (Int × Nat)
  es : List Ent
noncomputable def Mo.init (s : Int) : Mo := ⟨[0, 1, 2], [(5, 0), (10, 1), (15, 2)], enterE [Ent.zero, Ent.zero, Ent.zero] 0 1 2 1 (3 * (5 + 10 + 15 + s))⟩
noncomputable def side (m : Mo) (y : Int) : Nat := (y % (m.ring.length : Int)).toNat
noncomputable def one (m : Mo) (y : Int) : Int := m.ring.getD (side m y) 0
noncomputable def other (m : Mo) (y : Int) : Int := m.ring.getD ((side m y + 1) % m.ring.length) 0
noncomputable def wcAt (m : Mo) (i : Int) : Int × Nat := m.wc.getD i.toNat (0, 0)
noncomputable def wnew (y : Int) : Int := y / 7 % 64
noncomputable def cnew (m : Mo) (y : Int) : Nat := 3 - (wcAt m (one m y)).2 - (wcAt m (other m y)).2
noncomputable def stepM (s : Int) (m : Mo) (y : Int) : Mo :=
  ⟨m.ring.insertIdx (side m y + 1) m.ring.length, m.wc ++ [(wnew y, cnew m y)],
    enterE (m.es ++ [Ent.zero]) (one m y) (other m y) m.ring.length y (3 * ((wcAt m (one m y)).1 + (wcAt m (other m y)).1 + wnew y + s))⟩
structure Good (m : Mo) : Prop where
  k3 : 3 ≤ m.ring.length
  wl : m.wc.length = m.ring.length
  el : m.es.length = m.ring.length
  rng : ∀ v ∈ m.ring, 0 ≤ v ∧ v < (m.ring.length : Int)
  nodup : m.ring.Nodup
  wb : ∀ p ∈ m.wc, 0 ≤ p.1 ∧ p.1 < 64 ∧ p.2 < 3
  adj : ∀ i, i < m.ring.length → (wcAt m (m.ring.getD i 0)).2 ≠ (wcAt m (m.ring.getD ((i + 1) % m.ring.length) 0)).2
  eb : ∀ e ∈ m.es, e.c.length ≤ 2 * m.ring.length
theorem enterE_length (es : List Ent) (x y z worth oct : Int) : (enterE es x y z worth oct).length = es.length := by
  unfold enterE; simp
theorem mem_modify {α : Type} {l : List α} {i : Nat} {f : α → α} {a : α} (h : a ∈ l.modify i f) : a ∈ l ∨ ∃ b ∈ l, a = f b := by
  obtain ⟨j, hj⟩ := List.mem_iff_getElem?.mp h
  rw [List.getElem?_modify] at hj
  cases hl : l[j]? with
  | none => rw [hl] at hj; simp at hj
  | some b =>
    rw [hl] at hj
    have hb : b ∈ l := List.mem_of_getElem? hl
    by_cases q : i = j
    · simp [q] at hj; exact .inr ⟨b, hb, hj.symm⟩
    · simp [q] at hj; exact .inl (hj ▸ hb)
theorem upd_len {e : Ent} {k1 k2 w o : Int} : (e.upd k1 k2 w o).c.length ≤ e.c.length + 2 := addTo_len _ _
theorem enterE_bound {es : List Ent} {x y z worth oct : Int} {B : Nat} (h : ∀ e ∈ es, e.c.length ≤ B) (hx : x.toNat ≠ y.toNat) (hy : y.toNat ≠ z.toNat) (hz : x.toNat ≠ z.toNat) :
    ∀ e ∈ enterE es x y z worth oct, e.c.length ≤ B + 2 := by
  intro e he
  obtain ⟨j, hj⟩ := List.mem_iff_getElem?.mp he
  unfold enterE at hj
  rw [List.getElem?_modify, List.getElem?_modify, List.getElem?_modify] at hj
  cases hl : es[j]? with
  | none => rw [hl] at hj; simp at hj
  | some b =>
    have hb := h b (List.mem_of_getElem? hl)
    rw [hl] at hj
    by_cases q1 : z.toNat = j
    · have q2 : ¬ y.toNat = j := by lia
      have q3 : ¬ x.toNat = j := by lia
      simp [q1, q2, q3] at hj
      subst hj; have := @upd_len b y x worth oct; lia
    · by_cases q2 : y.toNat = j
      · have q3 : ¬ x.toNat = j := by lia
        simp [q1, q2, q3] at hj
        subst hj; have := @upd_len b x z worth oct; lia
      · by_cases q3 : x.toNat = j
        · simp [q1, q2, q3] at hj
          subst hj; have := @upd_len b z y worth oct; lia
        · simp [q1, q2, q3] at hj
          subst hj; lia
theorem good_init (s : Int) : Good (Mo.init s) where
  k3 := by simp [Mo.init]
  wl := by simp [Mo.init]
  el := by simp [Mo.init, enterE_length]
  rng := by intro v hv; simp [Mo.init] at hv ⊢; lia
  nodup := by simp [Mo.init]
  wb := by intro p hp; simp [Mo.init] at hp; rcases hp with rfl | rfl | rfl <;> simp
  adj := by
    intro i hi
    have : i = 0 ∨ i = 1 ∨ i = 2 := by simp [Mo.init] at hi; lia
    rcases this with rfl | rfl | rfl <;> simp [Mo.init, wcAt]
  eb := by
    intro e he
    have h0 : ∀ e ∈ [Ent.zero, Ent.zero, Ent.zero], e.c.length ≤ 0 := by intro e he; simp at he; subst he; exact Nat.le_refl _
    have := enterE_bound h0 (x := 0) (y := 1) (z := 2) (by decide) (by decide) (by decide) e he
    simp [Mo.init]; lia
section
variable {m : Mo} (G : Good m) {y : Int} (hy : 0 ≤ y)
include G
theorem side_lt (y : Int) : side m y < m.ring.length := by
  have h3 := G.k3
  have h1 := Int.emod_lt_of_pos y (by lia : (0 : Int) < m.ring.length)
  have h2 := Int.emod_nonneg y (by lia : (m.ring.length : Int) ≠ 0)
  unfold side; lia
theorem side2_lt (y : Int) : (side m y + 1) % m.ring.length < m.ring.length := Nat.mod_lt _ (by have := G.k3; lia)
theorem one_mem (y : Int) : one m y ∈ m.ring := by
  unfold one; rw [List.getD_eq_getElem?_getD, List.getElem?_eq_getElem (side_lt G y)]; simp
theorem other_mem (y : Int) : other m y ∈ m.ring := by
  unfold other; rw [List.getD_eq_getElem?_getD, List.getElem?_eq_getElem (side2_lt G y)]; simp
theorem one_ne (y : Int) : one m y ≠ other m y := by
  have h1 := side_lt G y
  have h2 := side2_lt G y
  have h3 := G.k3
  unfold one other
  rw [List.getD_eq_getElem?_getD, List.getElem?_eq_getElem h1, List.getD_eq_getElem?_getD, List.getElem?_eq_getElem h2]
  simp only [Option.getD_some]
  intro e
  have := (List.getElem_inj G.nodup).mp e
  rcases Nat.lt_or_ge (side m y + 1) m.ring.length with q | q
  · rw [Nat.mod_eq_of_lt q] at this; lia
  · have e2 : side m y + 1 = m.ring.length := by lia
    rw [e2, Nat.mod_self] at this; lia
theorem col_ne (y : Int) : (wcAt m (one m y)).2 ≠ (wcAt m (other m y)).2 := G.adj _ (side_lt G y)
theorem wcAt_mem {v : Int} (hv : v ∈ m.ring) : wcAt m v ∈ m.wc := by
  have h := G.rng v hv
  have hl : v.toNat < m.wc.length := by rw [G.wl]; lia
  unfold wcAt; rw [List.getD_eq_getElem?_getD, List.getElem?_eq_getElem hl]; simp
end
theorem wnew_b (y : Int) : 0 ≤ wnew y ∧ wnew y < 64 := by unfold wnew; lia
theorem toNat_ne {a b : Int} (ha : 0 ≤ a) (hb : 0 ≤ b) (h : a ≠ b) : a.toNat ≠ b.toNat := fun e => h (by rw [← Int.toNat_of_nonneg ha, e, Int.toNat_of_nonneg hb])
theorem col3 {a b : Nat} (ha : a < 3) (hb : b < 3) (h : a ≠ b) : 3 - a - b < 3 ∧ 3 - a - b ≠ a ∧ 3 - a - b ≠ b := by
  have q : ∀ a b : Fin 3, a.1 = b.1 ∨ (3 - a.1 - b.1 < 3 ∧ 3 - a.1 - b.1 ≠ a.1 ∧ 3 - a.1 - b.1 ≠ b.1) := by decide
  exact (q ⟨a, ha⟩ ⟨b, hb⟩).resolve_left h
theorem good_step (s : Int) {m : Mo} (G : Good m) (y : Int) : Good (stepM s m y) := by
  have h1 := side_lt G y
  have hone := G.rng _ (one_mem G y)
  have hoth := G.rng _ (other_mem G y)
  have hne := one_ne G y
  have hc := col_ne G y
  have hb1 := (G.wb _ (wcAt_mem G (one_mem G y))).2.2
  have hb2 := (G.wb _ (wcAt_mem G (other_mem G y))).2.2
  have hcn : cnew m y < 3 ∧ cnew m y ≠ (wcAt m (one m y)).2 ∧ cnew m y ≠ (wcAt m (other m y)).2 := col3 hb1 hb2 hc
  have hlen : (stepM s m y).ring.length = m.ring.length + 1 := by
    show (m.ring.insertIdx _ _).length = _
    rw [List.length_insertIdx_of_le_length (by lia)]
  have hold : ∀ v ∈ m.ring, wcAt (stepM s m y) v = wcAt m v := by
    intro v hv
    have h := G.rng v hv
    show (m.wc ++ _).getD v.toNat (0, 0) = m.wc.getD v.toNat (0, 0)
    rw [List.getD_eq_getElem?_getD, List.getElem?_append_left (by rw [G.wl]; lia), ← List.getD_eq_getElem?_getD]
  have hnew : wcAt (stepM s m y) (m.ring.length : Int) = (wnew y, cnew m y) := by
    show (m.wc ++ [_]).getD _ (0, 0) = _
    rw [List.getD_eq_getElem?_getD, List.getElem?_append_right (by rw [G.wl]; (clear G h1 hone hoth hne hc hb1 hb2 hcn hlen hold; lia))]
    simp [G.wl]
  refine ⟨by rw [hlen]; have := G.k3; lia, ?_, ?_, ?_, ?_, ?_, ?_, ?_⟩
  · rw [hlen]; show (m.wc ++ [_]).length = _; rw [List.length_append, G.wl]; rfl
  · rw [hlen]; show (enterE _ _ _ _ _ _).length = _; rw [enterE_length, List.length_append, G.el]; rfl
  · intro v hv
    rw [hlen]
    rcases (List.mem_insertIdx (by lia)).mp hv with rfl | hv
    · (clear G h1 hone hoth hne hc hb1 hb2 hcn hlen hold hnew hv; lia)
    · have := G.rng v hv; (clear G h1 hone hoth hne hc hb1 hb2 hcn hlen hold hnew hv; lia)
  · show (m.ring.insertIdx _ _).Nodup
    have hp := List.perm_insertIdx (m.ring.length : Int) m.ring (by lia : side m y + 1 ≤ m.ring.length)
    rw [hp.nodup_iff, List.nodup_cons]
    refine ⟨fun hm => ?_, G.nodup⟩
    have := G.rng _ hm; lia
  · intro p hp
    rcases List.mem_append.mp hp with hp | hp
    · exact G.wb p hp
    · rw [List.mem_singleton.mp hp]
      have := wnew_b y
      exact ⟨this.1, this.2, hcn.1⟩
  · intro i hi
    rw [hlen] at hi ⊢
    have get : ∀ j, j < m.ring.length + 1 → (stepM s m y).ring.getD j 0 = if j < side m y + 1 then m.ring.getD j 0 else if j = side m y + 1 then (m.ring.length : Int) else m.ring.getD (j - 1) 0 := by
      intro j hj
      show (m.ring.insertIdx _ _).getD j 0 = _
      rw [List.getD_eq_getElem?_getD, List.getElem?_insertIdx]
      by_cases q1 : j < side m y + 1
      · rw [if_pos q1, if_pos q1, ← List.getD_eq_getElem?_getD]
      · rw [if_neg q1, if_neg q1]
        by_cases q2 : j = side m y + 1
        · rw [if_pos q2, if_pos q2, if_pos (by lia)]; rfl
        · rw [if_neg q2, if_neg q2, ← List.getD_eq_getElem?_getD]
    have mem : ∀ j, j < m.ring.length → m.ring.getD j 0 ∈ m.ring := by
      intro j hj; rw [List.getD_eq_getElem?_getD, List.getElem?_eq_getElem hj]; simp
    have h2 : (i + 1) % (m.ring.length + 1) < m.ring.length + 1 := Nat.mod_lt _ (by lia)
    rw [get i hi, get _ h2]
    rcases Nat.lt_trichotomy i (side m y) with q | q | q
    · -- both ahead of the new corner
      have e : (i + 1) % (m.ring.length + 1) = i + 1 := Nat.mod_eq_of_lt (by lia)
      rw [e, if_pos (by lia), if_pos (by lia), hold _ (mem i (by lia)), hold _ (mem (i + 1) (by lia))]
      have := G.adj i (by lia)
      rwa [Nat.mod_eq_of_lt (by lia)] at this
    · have e : (i + 1) % (m.ring.length + 1) = i + 1 := Nat.mod_eq_of_lt (by lia)
      rw [e, if_pos (by lia), if_neg (by lia), if_pos (by (clear G h1 hone hoth hne hc hb1 hb2 hcn hlen hold hnew hi get mem h2 e; lia)), hold _ (mem i (by lia)), hnew, q]
      exact hcn.2.1.symm
    · by_cases q2 : i = side m y + 1
      · rw [if_neg (by lia), if_pos q2, hnew]
        by_cases q3 : i = m.ring.length
        · have e : (i + 1) % (m.ring.length + 1) = 0 := by rw [q3, Nat.mod_self]
          rw [e, if_pos (by lia), hold _ (mem 0 (by lia))]
          have e2 : other m y = m.ring.getD 0 0 := by unfold other; rw [← q2, q3, Nat.mod_self]
          rw [← e2]; exact hcn.2.2
        · have e : (i + 1) % (m.ring.length + 1) = i + 1 := Nat.mod_eq_of_lt (by lia)
          rw [e, if_neg (by lia), if_neg (by lia), hold _ (mem _ (by lia))]
          have e2 : other m y = m.ring.getD i 0 := by unfold other; rw [← q2, Nat.mod_eq_of_lt (by lia)]
          have e3 : i + 1 - 1 = i := rfl
          rw [e3, ← e2]; exact hcn.2.2
      · rw [if_neg (by lia), if_neg q2, hold _ (mem _ (by (clear G hone hoth hne hc hb1 hb2 hcn hlen hold hnew get mem h2 q q2; lia)))]
        have key := G.adj (i - 1) (by lia)
        have e3 : i - 1 + 1 = i := Nat.succ_pred_eq_of_pos (Nat.lt_of_le_of_lt (Nat.zero_le _) q)
        rw [e3] at key
        by_cases q3 : i = m.ring.length
        · have e : (i + 1) % (m.ring.length + 1) = 0 := by rw [q3, Nat.mod_self]
          rw [q3, Nat.mod_self] at key
          rw [e, if_pos (by lia), hold _ (mem 0 (by (clear G hone hoth hne hc hb1 hb2 hcn hlen hold hnew hi get mem h2 q q2 key e3 e; lia))), q3]
          exact key
        · have e : (i + 1) % (m.ring.length + 1) = i + 1 := Nat.mod_eq_of_lt (by lia)
          rw [Nat.mod_eq_of_lt (by lia)] at key
          rw [e, if_neg (by lia), if_neg (by lia), hold _ (mem _ (by lia))]
          have e4 : i + 1 - 1 = i := rfl
          rw [e4]
          exact key
  · intro e he
    have h0 : ∀ e ∈ m.es ++ [Ent.zero], e.c.length ≤ 2 * m.ring.length := by
      intro e he
      rcases List.mem_append.mp he with he | he
      · exact G.eb e he
      · rw [List.mem_singleton.mp he]; exact Nat.zero_le _
    have := enterE_bound h0 (x := one m y) (y := other m y) (z := m.ring.length) (toNat_ne hone.1 hoth.1 hne) (Nat.ne_of_lt ((Int.toNat_lt hoth.1).mpr hoth.2)) (Nat.ne_of_lt ((Int.toNat_lt hone.1).mpr hone.2)) e he
    rw [hlen]; omega
noncomputable def runM (s : Int) (ns : List Int) : Mo := ns.foldl (stepM s) (Mo.init s)
theorem good_run (s : Int) (ns : List Int) : Good (runM s ns) := by
  unfold runM
  suffices h : ∀ m, Good m → Good (ns.foldl (stepM s) m) from h _ (good_init s)
  induction ns with
  | nil => exact fun m G => G
  | cons n r ih => exact fun m G => ih _ (good_step s G n)
theorem run_len (s : Int) (ns : List Int) : (runM s ns).ring.length = 3 + ns.length := by
  unfold runM
  suffices h : ∀ m, Good m → (ns.foldl (stepM s) m).ring.length = m.ring.length + ns.length from h _ (good_init s)
  induction ns with
  | nil => exact fun m _ => rfl
  | cons n r ih =>
    intro m G
    have hlen : (stepM s m n).ring.length = m.ring.length + 1 := by
      show (m.ring.insertIdx _ _).length = _
      have := side_lt G n
      rw [List.length_insertIdx_of_le_length (by lia)]
    rw [List.foldl_cons, ih _ (good_step s G n), hlen, List.length_cons]; lia
noncomputable def pAt (ps : List (Int × Int)) (i : Int) : Int × Int := ps.getD i.toNat (0, 0)
structure Du where
  m : Mo
  ps : List (Int × Int)
noncomputable def turnOf (m : Mo) (y : Int) : Int := if side m y + 1 < m.ring.length then 1 else -1
noncomputable def pnew (d : Du) (y : Int) : Int × Int :=
  ((pAt d.ps (one d.m y)).1 + turnOf d.m y * (pAt d.ps (other d.m y)).1, (pAt d.ps (one d.m y)).2 + turnOf d.m y * (pAt d.ps (other d.m y)).2)
noncomputable def stepD (s : Int) (d : Du) (y : Int) : Du := ⟨stepM s d.m y, d.ps ++ [pnew d y]⟩
noncomputable def Du.init (s : Int) : Du := ⟨Mo.init s, [(1, 0), (1, 1), (0, 1)]⟩
noncomputable def runD (s : Int) (ns : List Int) : Du := ns.foldl (stepD s) (Du.init s)
theorem runD_m (s : Int) (ns : List Int) : (runD s ns).m = runM s ns := by
  unfold runD runM
  suffices h : ∀ d : Du, (ns.foldl (stepD s) d).m = ns.foldl (stepM s) d.m from h _
  induction ns with
  | nil => exact fun d => rfl
  | cons n r ih => exact fun d => ih _
structure GoodD (d : Du) : Prop where
  good : Good d.m
  pl : d.ps.length = d.m.ring.length
  pb : ∀ p ∈ d.ps, p.1.natAbs ≤ 2 ^ (d.m.ring.length - 3) ∧ p.2.natAbs ≤ 2 ^ (d.m.ring.length - 3)
theorem goodD_init (s : Int) : GoodD (Du.init s) := ⟨good_init s, rfl, by
  intro p hp
  have h3 : (Du.init s).m.ring.length = 3 := rfl
  rw [h3]
  simp [Du.init] at hp
  rcases hp with rfl | rfl | rfl <;> simp⟩
theorem pAt_mem {ps : List (Int × Int)} {i : Int} (h : i.toNat < ps.length) : pAt ps i ∈ ps := by
  unfold pAt; rw [List.getD_eq_getElem?_getD, List.getElem?_eq_getElem h]; simp
theorem step_len (s : Int) {m : Mo} (G : Good m) (y : Int) : (stepM s m y).ring.length = m.ring.length + 1 := by
  show (m.ring.insertIdx _ _).length = _
  have := side_lt G y
  rw [List.length_insertIdx_of_le_length (by lia)]
theorem goodD_step (s : Int) {d : Du} (G : GoodD d) (y : Int) : GoodD (stepD s d y) := by
  have hl := step_len s G.good y
  refine ⟨good_step s G.good y, ?_, ?_⟩
  · show (d.ps ++ [_]).length = (stepM s d.m y).ring.length
    rw [hl, List.length_append, G.pl]; rfl
  · intro p hp
    show _ ≤ 2 ^ ((stepM s d.m y).ring.length - 3) ∧ _ ≤ 2 ^ ((stepM s d.m y).ring.length - 3)
    have h3 := G.good.k3
    have e : d.m.ring.length + 1 - 3 = (d.m.ring.length - 3) + 1 := by (clear G hl hp; lia)
    rw [hl, e, Nat.pow_succ]
    rcases List.mem_append.mp hp with hp | hp
    · have := G.pb p hp; lia
    · rw [List.mem_singleton.mp hp]
      have m1 := G.good.rng _ (one_mem G.good y)
      have m2 := G.good.rng _ (other_mem G.good y)
      have b1 := G.pb _ (pAt_mem (ps := d.ps) (i := one d.m y) (by rw [G.pl]; lia))
      have b2 := G.pb _ (pAt_mem (ps := d.ps) (i := other d.m y) (by rw [G.pl]; lia))
      unfold pnew turnOf
      dsimp only
      split <;> (clear G hl h3 e hp m1 m2; omega)
theorem goodD_run (s : Int) (ns : List Int) : GoodD (runD s ns) := by
  unfold runD
  suffices h : ∀ d, GoodD d → GoodD (ns.foldl (stepD s) d) from h _ (goodD_init s)
  induction ns with
  | nil => exact fun m G => G
  | cons n r ih => exact fun m G => ih _ (goodD_step s G n)
noncomputable def colP (p : Int × Int) : Nat := (p.2 % 2 * (2 - p.1 % 2)).toNat
inductive PairAt (news : List (Addr × Obj)) (v : Value) (p : Int × Int) : Prop
  | mk (t : Addr) (n : Nat) (s1 s2 : Tok) (e1 : v = .ref t) (e2 : (t, ({ cls := .type "tuple", data := .seq #[.int p.1 s1, .int p.2 s2] n } : Obj)) ∈ news) : PairAt news v p
noncomputable def PairsAt (ps : List (Int × Int)) (pvs : List Value) (news : List (Addr × Obj)) : Prop := pvs.length = ps.length ∧ ∀ (k : Nat) (p : Int × Int) (u : Value), ps[k]? = some p → pvs[k]? = some u → PairAt news u p
theorem PairAt.mono {news news' : List (Addr × Obj)} {v : Value} {p : Int × Int} (x : PairAt news v p) (h : ∀ p ∈ news, p ∈ news') : PairAt news' v p := let ⟨t, n, s1, s2, e, m⟩ := x; ⟨t, n, s1, s2, e, h _ m⟩
theorem PairsAt.mono {news news' : List (Addr × Obj)} {ps : List (Int × Int)} {pvs : List Value} (x : PairsAt ps pvs news) (h : ∀ p ∈ news, p ∈ news') : PairsAt ps pvs news' := ⟨x.1, fun k p u a b => (x.2 k p u a b).mono h⟩
theorem PairsAt.nil {news : List (Addr × Obj)} : PairsAt [] [] news := ⟨rfl, fun k p u a _ => by simp at a⟩
theorem PairsAt.snoc {news : List (Addr × Obj)} {ps : List (Int × Int)} {pvs : List Value} (x : PairsAt ps pvs news) {p : Int × Int} {u : Value} (h : PairAt news u p) : PairsAt (ps ++ [p]) (pvs ++ [u]) news := by
  refine ⟨by simp [x.1], fun i q v a b => ?_⟩
  rcases Nat.lt_trichotomy i ps.length with k | k | k
  · rw [List.getElem?_append_left k] at a
    rw [List.getElem?_append_left (by rw [x.1]; exact k)] at b
    exact x.2 i q v a b
  · rw [List.getElem?_append_right (by lia), k, Nat.sub_self] at a
    rw [List.getElem?_append_right (by rw [x.1]; lia), x.1, k, Nat.sub_self] at b
    cases a; cases b; exact h
  · rw [List.getElem?_eq_none (by rw [List.length_append, List.length_singleton]; lia)] at a; cases a
theorem PairsAt.at {ps : List (Int × Int)} {pvs : List Value} {news : List (Addr × Obj)} (x : PairsAt ps pvs news) {i : Int} (h : i.toNat < ps.length) : ∃ u, pvs[i.toNat]? = some u ∧ PairAt news u (pAt ps i) := by
  have h2 : i.toNat < pvs.length := by rw [x.1]; exact h
  refine ⟨pvs[i.toNat], List.getElem?_eq_getElem h2, ?_⟩
  unfold pAt
  rw [List.getD_eq_getElem?_getD, List.getElem?_eq_getElem h]
  exact x.2 _ _ _ (List.getElem?_eq_getElem h) (List.getElem?_eq_getElem h2)
theorem pairs3 {news : List (Addr × Obj)} {a b c : Int × Int} {u v x : Value} (h1 : PairAt news u a) (h2 : PairAt news v b) (h3 : PairAt news x c) : PairsAt [a, b, c] [u, v, x] news :=
  ((PairsAt.snoc (PairsAt.snoc (PairsAt.snoc PairsAt.nil h1) h2) h3 : PairsAt ((([] ++ [a]) ++ [b]) ++ [c]) ((([] ++ [u]) ++ [v]) ++ [x]) news))
structure Slot where
  t : Addr
  d : Addr
  o : Obj
  kvs : List (Int × Value)
  n : Nat
  s1 : Tok
  s2 : Tok
  s3 : Tok
  s4 : Tok
  e : Ent
abbrev Slot.tO (x : Slot) : Addr × Obj := (x.t, { cls := .type "list", data := .seq #[.int x.e.cc x.s1, .int x.e.nc x.s2, .int x.e.tt x.s3, .int x.e.ct x.s4, .ref x.d] x.n })
abbrev Slot.dO (x : Slot) : Addr × Obj := (x.d, x.o)
noncomputable def chunk : List Slot → List (Addr × Obj)
  | [] => []
  | x :: r => x.tO :: x.dO :: chunk r
theorem chunk_app : ∀ (a b : List Slot), chunk (a ++ b) = chunk a ++ chunk b
  | [], _ => rfl
  | x :: r, b => by rw [List.cons_append]; show x.tO :: x.dO :: chunk (r ++ b) = _; rw [chunk_app r b]; rfl
structure Slot.ok (w : World) (x : Slot) : Prop where
  lo : (x.d == sysModules) = false
  di : x.o.IsDictOf (PySem.intKind Challenge.rw_zn0015_01.row.prog w) x.kvs
  fl : PyProof.V.FlatPairs PyData.int x.kvs (kdfD x.e.c)
  nd : (x.e.c.map (·.1)).Nodup
structure SlotsAt (w : World) (ts : List Addr) (es : List Ent) (sl : List Slot) (R : List (Addr × Obj)) : Prop where
  tsE : sl.map (·.t) = ts
  esE : sl.map (·.e) = es
  ok : ∀ x ∈ sl, x.ok w
  sep : ((chunk sl).map (·.1)).Nodup
  off : ∀ p ∈ chunk sl, ∀ q ∈ R, p.1 ≠ q.1
theorem SlotsAt.sub {w : World} {ts : List Addr} {es : List Ent} {sl : List Slot} {R R' : List (Addr × Obj)} (x : SlotsAt w ts es sl R) (h : ∀ p ∈ R', p ∈ R) : SlotsAt w ts es sl R' := ⟨x.tsE, x.esE, x.ok, x.sep, fun p hp q hq => x.off p hp q (h q hq)⟩
theorem SlotsAt.more {w : World} {ts : List Addr} {es : List Ent} {sl : List Slot} {R : List (Addr × Obj)} (x : SlotsAt w ts es sl R) {a : Addr} {o : Obj} (h : ∀ p ∈ chunk sl, p.1 ≠ a) : SlotsAt w ts es sl ((a, o) :: R) := ⟨x.tsE, x.esE, x.ok, x.sep, fun p hp q hq => by
  rcases List.mem_cons.mp hq with rfl | hq
  · exact h p hp
  · exact x.off p hp q hq⟩
theorem SlotsAt.nil {w : World} {R : List (Addr × Obj)} : SlotsAt w [] [] [] R := ⟨rfl, rfl, (fun x hx => by cases hx), List.nodup_nil, (fun p hp => by cases hp)⟩
theorem SlotsAt.snoc {w : World} {ts : List Addr} {es : List Ent} {sl : List Slot} {R : List (Addr × Obj)} (h : SlotsAt w ts es sl R) (x : Slot) (hx : x.ok w) (htd : x.t ≠ x.d) (h1 : ∀ p ∈ chunk sl, p.1 ≠ x.t ∧ p.1 ≠ x.d) (h2 : ∀ q ∈ R, q.1 ≠ x.t ∧ q.1 ≠ x.d) : SlotsAt w (ts ++ [x.t]) (es ++ [x.e]) (sl ++ [x]) R := by
  refine ⟨by rw [List.map_append, h.tsE]; rfl, by rw [List.map_append, h.esE]; rfl, ?_, ?_, ?_⟩
  · intro y hy
    rcases List.mem_append.mp hy with hy | hy
    · exact h.ok y hy
    · rw [List.mem_singleton.mp hy]; exact hx
  · rw [chunk_app, List.map_append, List.nodup_append]
    refine ⟨h.sep, ?_, ?_⟩
    · show [x.t, x.d].Nodup
      simp [htd]
    · intro a ha b hb
      obtain ⟨p, hp, rfl⟩ := List.mem_map.mp ha
      have hb' : b = x.t ∨ b = x.d := by simpa [chunk] using hb
      rcases hb' with rfl | rfl
      · exact (h1 p hp).1
      · exact (h1 p hp).2
  · intro p hp q hq
    rw [chunk_app] at hp
    rcases List.mem_append.mp hp with hp | hp
    · exact h.off p hp q hq
    · have hp' : p = x.tO ∨ p = x.dO := by simpa [chunk] using hp
      rcases hp' with rfl | rfl
      · exact fun e => (h2 q hq).1 e.symm
      · exact fun e => (h2 q hq).2 e.symm
theorem split_at {α : Type} {l : List α} {i : Nat} (h : i < l.length) : ∃ pre x post, l = pre ++ x :: post ∧ pre.length = i := ⟨l.take i, l[i], l.drop (i + 1), by rw [← List.drop_eq_getElem_cons h, List.take_append_drop], by rw [List.length_take]; lia⟩
theorem SlotsAt.pick {w : World} {ts : List Addr} {es : List Ent} {sl : List Slot} {R : List (Addr × Obj)} (h : SlotsAt w ts es sl R) {i : Nat} (hi : i < ts.length) :
    ∃ (x : Slot) (R' : List (Addr × Obj)), ts[i]? = some x.t ∧ es[i]? = some x.e ∧ x.ok w ∧ x.t ≠ x.d ∧ (∀ p, p ∈ x.tO :: x.dO :: R' → p ∈ chunk sl ++ R) ∧ (∀ p ∈ R, p ∈ R') ∧ (∀ q ∈ R', q.1 ≠ x.t ∧ q.1 ≠ x.d) ∧
      ∀ x' : Slot, x'.t = x.t → x'.d = x.d → x'.ok w → ∃ sl', SlotsAt w ts (es.set i x'.e) sl' R ∧ ∀ p ∈ chunk sl' ++ R, p ∈ x'.tO :: x'.dO :: R' := by
  have hl : sl.length = ts.length := by rw [← h.tsE, List.length_map]
  obtain ⟨pre, x, post, rfl, rfl⟩ := split_at (l := sl) (i := i) (by lia)
  have hc : chunk (pre ++ x :: post) = chunk pre ++ x.tO :: x.dO :: chunk post := chunk_app _ _
  have sep := h.sep
  have off := h.off
  rw [hc] at sep off
  rw [List.map_append, List.nodup_append] at sep
  obtain ⟨sep1, sep2, sep3⟩ := sep
  have sep2' : (x.t :: x.d :: (chunk post).map (·.1)).Nodup := sep2
  rw [List.nodup_cons, List.nodup_cons] at sep2'
  obtain ⟨sa, sb, sc⟩ := sep2'
  refine ⟨x, chunk pre ++ (chunk post ++ R), ?_, ?_, h.ok x (by simp), ?_, ?_, ?_, ?_, ?_⟩
  · rw [← h.tsE, List.getElem?_map, List.getElem?_append_right (Nat.le_refl _), Nat.sub_self]; rfl
  · rw [← h.esE, List.getElem?_map, List.getElem?_append_right (Nat.le_refl _), Nat.sub_self]; rfl
  · exact fun e => sa (by rw [e]; exact .head _)
  · intro p hp
    rw [hc]
    simp only [List.mem_cons, List.mem_append] at hp ⊢
    rcases hp with h | h | h | h | h
    · exact .inl (.inr (.inl h))
    · exact .inl (.inr (.inr (.inl h)))
    · exact .inl (.inl h)
    · exact .inl (.inr (.inr (.inr h)))
    · exact .inr h
  · intro p hp; exact List.mem_append.mpr (.inr (List.mem_append.mpr (.inr hp)))
  · intro q hq
    rcases List.mem_append.mp hq with hq | hq
    · exact ⟨sep3 q.1 (List.mem_map_of_mem hq) x.t (.head _), sep3 q.1 (List.mem_map_of_mem hq) x.d (.tail _ (.head _))⟩
    rcases List.mem_append.mp hq with hq | hq
    · exact ⟨fun e => sa (.tail _ (e ▸ List.mem_map_of_mem hq)), fun e => sb (e ▸ List.mem_map_of_mem hq)⟩
    · exact ⟨fun e => off x.tO (by simp) q hq e.symm, fun e => off x.dO (by simp) q hq e.symm⟩
  · intro x' et ed hx'
    have hc' : chunk (pre ++ x' :: post) = chunk pre ++ x'.tO :: x'.dO :: chunk post := chunk_app _ _
    refine ⟨pre ++ x' :: post, ⟨?_, ?_, ?_, ?_, ?_⟩, ?_⟩
    · rw [← h.tsE, List.map_append, List.map_append, List.map_cons, List.map_cons, et]
    · rw [← h.esE, List.map_append, List.map_append, List.map_cons, List.map_cons]
      rw [List.set_append_right _ _ (by rw [List.length_map]; exact Nat.le_refl _), List.length_map, Nat.sub_self]; rfl
    · intro y hy
      rcases List.mem_append.mp hy with hy | hy
      · exact h.ok y (List.mem_append.mpr (.inl hy))
      rcases List.mem_cons.mp hy with rfl | hy
      · exact hx'
      · exact h.ok y (List.mem_append.mpr (.inr (.tail _ hy)))
    · have e : (chunk (pre ++ x' :: post)).map (·.1) = (chunk (pre ++ x :: post)).map (·.1) := by
        rw [hc, hc', List.map_append, List.map_append]
        show _ ++ x'.t :: x'.d :: _ = _ ++ x.t :: x.d :: _
        rw [et, ed]
      rw [e]; exact h.sep
    · intro p hp q hq
      rw [hc'] at hp
      rcases List.mem_append.mp hp with hp | hp
      · exact off p (List.mem_append.mpr (.inl hp)) q hq
      rcases List.mem_cons.mp hp with rfl | hp
      · rw [show x'.tO.1 = x.tO.1 from et]; exact off x.tO (by simp) q hq
      rcases List.mem_cons.mp hp with rfl | hp
      · rw [show x'.dO.1 = x.dO.1 from ed]; exact off x.dO (by simp) q hq
      · exact off p (List.mem_append.mpr (.inr (.tail _ (.tail _ hp)))) q hq
    · intro p hp
      rw [hc'] at hp
      simp only [List.mem_cons, List.mem_append] at hp ⊢
      rcases hp with (h | h | h | h) | h
      · exact .inr (.inr (.inl h))
      · exact .inl h
      · exact .inr (.inl h)
      · exact .inr (.inr (.inr (.inl h)))
      · exact .inr (.inr (.inr (.inr h)))
noncomputable def entA (p q : Int × Int) : Int := ((p.1 * q.2 - p.2 * q.1).natAbs : Int)
noncomputable def updOne (worth oct : Int) (es : List Ent) (t : Nat × Nat × Nat) : List Ent := es.modify t.1 (fun e => e.upd t.2.1 t.2.2 worth oct)
noncomputable def triL (a b c : Nat) : List (Nat × Nat × Nat) := [(a, b, c), (b, a, c), (c, a, b)]
noncomputable def triOK (d : Du) (a b c : Nat) : Bool := decide (entA (pAt d.ps a) (pAt d.ps b) = entA (pAt d.ps b) (pAt d.ps c)) && decide (entA (pAt d.ps b) (pAt d.ps c) = entA (pAt d.ps a) (pAt d.ps c)) && decide (entA (pAt d.ps a) (pAt d.ps c) = 1)
noncomputable def octT (sp : Int) (d : Du) (a b c : Nat) : Int := 3 * ((wcAt d.m a).1 + (wcAt d.m b).1 + (wcAt d.m c).1 + sp)
noncomputable def stepA (sp : Int) (ns : List Int) (d : Du) (c b : Nat) (es : List Ent) (a : Nat) : List Ent :=
  if triOK d a b c = true then (triL a b c).foldl (updOne (([1] ++ ns).getD (c - 2) 0) (octT sp d a b c)) es else es
noncomputable def foldA (sp : Int) (ns : List Int) (d : Du) (c b : Nat) (es : List Ent) (k : Nat) : List Ent := (List.range k).foldl (stepA sp ns d c b) es
noncomputable def foldB (sp : Int) (ns : List Int) (d : Du) (c : Nat) (es : List Ent) (k : Nat) : List Ent := (List.range k).foldl (fun es b => foldA sp ns d c b es b) es
noncomputable def foldC (sp : Int) (ns : List Int) (d : Du) (es : List Ent) (k : Nat) : List Ent := (List.range k).foldl (fun es c => foldB sp ns d c es c) es
theorem foldA_succ (sp : Int) (ns : List Int) (d : Du) (c b : Nat) (es : List Ent) (k : Nat) : foldA sp ns d c b es (k + 1) = stepA sp ns d c b (foldA sp ns d c b es k) k := by unfold foldA; rw [List.range_succ, List.foldl_append]; rfl
theorem foldB_succ (sp : Int) (ns : List Int) (d : Du) (c : Nat) (es : List Ent) (k : Nat) : foldB sp ns d c es (k + 1) = foldA sp ns d c k (foldB sp ns d c es k) k := by unfold foldB; rw [List.range_succ, List.foldl_append]; rfl
theorem foldC_succ (sp : Int) (ns : List Int) (d : Du) (es : List Ent) (k : Nat) : foldC sp ns d es (k + 1) = foldB sp ns d k (foldC sp ns d es k) k := by unfold foldC; rw [List.range_succ, List.foldl_append]; rfl
theorem modify_set {es : List Ent} {i : Nat} {e : Ent} (h : es[i]? = some e) (f : Ent → Ent) : es.modify i f = es.set i (f e) := by
  apply List.ext_getElem?
  intro j
  rw [List.getElem?_modify, List.getElem?_set]
  have hl := (List.getElem?_eq_some_iff.mp h).1
  by_cases q : i = j
  · subst q; rw [h]; simp [hl]
  · simp [q]
theorem addTo2_len (c : List (Int × Int)) (y z : Int) : (addTo c [(y, 1), (z, 1)]).length ≤ c.length + 2 := addTo_len _ _
theorem mem_modify1 {es : List Ent} {i : Nat} {f : Ent → Ent} {B : Nat} (h : ∀ e ∈ es, e.c.length ≤ B) (hf : ∀ e : Ent, (f e).c.length ≤ e.c.length + 2) : ∀ e ∈ es.modify i f, e.c.length ≤ B + 2 := by
  intro e he
  rcases mem_modify he with he | ⟨b, hb, rfl⟩
  · have := h e he; lia
  · have := h b hb; have := hf b; lia
theorem updOne_bd {worth oct : Int} {es : List Ent} {t : Nat × Nat × Nat} {B : Nat} (h : ∀ e ∈ es, e.c.length ≤ B) : ∀ e ∈ updOne worth oct es t, e.c.length ≤ B + 2 := mem_modify1 h fun e => addTo2_len _ _ _
theorem stepA_bd {sp : Int} {ns : List Int} {d : Du} {c b a : Nat} {es : List Ent} {B : Nat} (h : ∀ e ∈ es, e.c.length ≤ B) : ∀ e ∈ stepA sp ns d c b es a, e.c.length ≤ B + 6 := by
  unfold stepA
  split
  · intro e he
    have := updOne_bd (updOne_bd (updOne_bd h)) e he
    omega
  · intro e he; have := h e he; lia
theorem foldA_bd {sp : Int} {ns : List Int} {d : Du} {c b : Nat} {es : List Ent} {B : Nat} (h : ∀ e ∈ es, e.c.length ≤ B) : ∀ k, ∀ e ∈ foldA sp ns d c b es k, e.c.length ≤ B + 6 * k
  | 0 => h
  | k + 1 => by
    rw [foldA_succ]
    intro e he
    have := stepA_bd (foldA_bd h k) e he
    omega
theorem foldB_bd {sp : Int} {ns : List Int} {d : Du} {c : Nat} {es : List Ent} {B : Nat} (h : ∀ e ∈ es, e.c.length ≤ B) : ∀ k, k ≤ 9 → ∀ e ∈ foldB sp ns d c es k, e.c.length ≤ B + 54 * k
  | 0, _ => h
  | k + 1, hk => by
    rw [foldB_succ]
    intro e he
    have := foldA_bd (foldB_bd h k (by lia)) k e he
    lia
theorem foldC_bd {sp : Int} {ns : List Int} {d : Du} {es : List Ent} {B : Nat} (h : ∀ e ∈ es, e.c.length ≤ B) : ∀ k, k ≤ 9 → ∀ e ∈ foldC sp ns d es k, e.c.length ≤ B + 486 * k
  | 0, _ => h
  | k + 1, hk => by
    rw [foldC_succ]
    intro e he
    have := foldB_bd (foldC_bd h k (by lia)) k (by lia) e he
    lia
theorem fold_bd {sp : Int} {ns : List Int} {d : Du} {n c b a : Nat} (hc : c ≤ 9) (hb : b ≤ 9) (ha : a ≤ 9) : ∀ e ∈ foldA sp ns d c b (foldB sp ns d c (foldC sp ns d (List.replicate n Ent.zero) c) b) a, e.c.length ≤ 10000 := by
  have h0 : ∀ e ∈ List.replicate n Ent.zero, e.c.length ≤ 0 := fun e he => by rw [List.eq_of_mem_replicate he]; exact Nat.le_refl _
  intro e he
  have := foldA_bd (foldB_bd (foldC_bd h0 c hc) b hb) a e he
  lia
theorem slot_upd {h₀ h : Heap} {L qt qd : Addr} {o : Obj} (kvs : List (Int × Value)) {a1 a2 a3 a4 : Tok} {n : Nat} {l : List (Addr × Obj)} (e : Ent) (y z wv ov : Int) (N : News h₀ L h ((qt, { cls := .type "list", data := .seq #[.int (e.cc + 1) a1, .int (e.nc + 2) a2, .int (e.tt + wv) a3, .int (e.ct + ov) a4, .ref qd] n }) :: (qd, o) :: l)) :
    ∃ x : Slot, x.t = qt ∧ x.d = qd ∧ x.o = o ∧ x.kvs = kvs ∧ x.e = e.upd y z wv ov ∧ News h₀ L h (x.tO :: x.dO :: l) :=
  ⟨⟨qt, qd, o, kvs, n, a1, a2, a3, a4, e.upd y z wv ov⟩, rfl, rfl, rfl, rfl, rfl, by
    show News h₀ L h ((qt, { cls := .type "list", data := .seq #[.int (1 + e.cc) a1, .int (2 + e.nc) a2, .int (wv + e.tt) a3, .int (ov + e.ct) a4, .ref qd] n }) :: (qd, o) :: l)
    rw [Int.add_comm 1 e.cc, Int.add_comm 2 e.nc, Int.add_comm wv e.tt, Int.add_comm ov e.ct]
    exact N⟩
noncomputable def sel {α : Type} (d : α) : List α → Nat → α
  | [], _ => d
  | a :: _, 0 => a
  | _ :: r, n + 1 => sel d r n
noncomputable def sl {α : Type} (a : α) (l : List α) : Nat → α := sel a (a :: l)
set_option genSizeOf false in
set_option genInjectivity false in
structure Vars where
  W : Nat → World
  LS : Nat → List Str
  mean : Nat → (ExcName → Option Value)
  cn : Nat → Str
  cs : Nat → Scope
  cl : Nat → List (Str × Addr)
  outer : Nat → List Env
  A : Nat → Around
  s : Nat → Shared
  H : Nat → Heap
  N : Nat → Nat
  O : Nat → Obj
  V : Nat → Value
  VS : Nat → List Value
  I : Nat → Int
  IS : Nat → List Int
  M : Nat → Str → Option Value
  KV : Nat → List (Int × Value)
  E : Nat → Ent
  ES : Nat → List Ent
  R : Nat → List (Addr × Obj)
  P3 : Nat → Int × Int × Int
  Q : Nat → Value → Shared → Prop
  D : Nat → Du
  MO : Nat → Mo
  S1 : Nat → Slot
  T3 : Nat → List (Nat × Nat × Nat)
  KI : Nat → List (Int × Int)
  AS : Nat → List Addr
  SL : Nat → List Slot
  F : Nat → UInt64
  FD : Nat → FuncData
  BY : Nat → List UInt8
  CN : Nat → List (Int × Nat)
  EE : Nat → Nat → Nat → Int
  IP : Nat → Int × Int
  B1 : Nat → Bool
  IN : Nat → Int × Nat
  ZS : Nat → (Nat → List Value)
  PR : Nat → (Program)
  EN : Nat → (Env)
  PX : Nat → (PySem.Expr)
  PO : Nat → (Pos)
  JJ : Nat → (List Value → List (Addr × Obj) → Prop)
  FN : Nat → (Shared → List Value → List (Addr × Obj) → Prop)
  MD : Nat → (Nat → Value → Heap → Prop)
  SH : Nat → (Nat → Heap → Prop)
  BD : Nat → (Nat → (Str → Option Value) → Prop)
  RR : Nat → (Value → Addr → Result → Shared → Prop)
  QF : Nat → (Flow → Shared → Prop)
  QU : Nat → (Unit → Shared → Prop)
theorem ne_vars : Nonempty Vars := ⟨⟨fun _ => aWorld 0, fun _ => [], fun _ _ => none, fun _ => default, fun _ => default, fun _ => [], fun _ => [], fun _ => callerA, fun _ => {}, fun _ => default, fun _ => 0, fun _ => default, fun _ => default, fun _ => [], fun _ => 0, fun _ => [], fun _ _ => none, fun _ => [], fun _ => Ent.zero, fun _ => [], fun _ => [], fun _ => (0, 0, 0), fun _ _ _ => True, fun _ => Du.init 0, fun _ => (Du.init 0).m, fun _ => ⟨0, 0, default, [], 0, 0, 0, 0, 0, Ent.zero⟩, fun _ => [], fun _ => [], fun _ => [], fun _ => [], fun _ => 0, fun _ => ⟨default, default, default, default, default, 0, [], .none, .none, .none, .none, none, .none, .none, 0⟩, fun _ => [], fun _ => [], fun _ _ _ => 0, fun _ => (0, 0), fun _ => false, fun _ => (0, 0), fun _ => fun _ => [], fun _ => Challenge.rw_zn0015_01.row.prog, fun _ => default, fun _ => default, fun _ => default, fun _ => fun _ _ => True, fun _ => fun _ _ _ => True, fun _ => fun _ _ _ => True, fun _ => fun _ _ => True, fun _ => fun _ _ => True, fun _ => fun _ _ _ _ => True, fun _ => fun _ _ => True, fun _ => fun _ _ => True⟩⟩
noncomputable def d0v : Vars := Classical.choice ne_vars
@[irreducible] noncomputable def hk (P : Vars → Prop) : Vars := @Classical.epsilon Vars ne_vars fun x => ¬ P x
abbrev yW := World
abbrev yLS := List Str
abbrev ymean := ExcName → Option Value
abbrev ycn := Str
abbrev ycs := Scope
abbrev ycl := List (Str × Addr)
abbrev youter := List Env
abbrev yA := Around
abbrev ys := Shared
abbrev yH := Heap
abbrev yN := Nat
abbrev yO := Obj
abbrev yV := Value
abbrev yVS := List Value
abbrev yI := Int
abbrev yIS := List Int
abbrev yM := Str → Option Value
abbrev yKV := List (Int × Value)
abbrev yE := Ent
abbrev yES := List Ent
abbrev yR := List (Addr × Obj)
abbrev yP3 := Int × Int × Int
abbrev yQ := Value → Shared → Prop
abbrev yD := Du
abbrev yMO := Mo
abbrev yS1 := Slot
abbrev yT3 := List (Nat × Nat × Nat)
abbrev yKI := List (Int × Int)
abbrev yAS := List Addr
abbrev ySL := List Slot
abbrev yF := UInt64
abbrev yFD := FuncData
abbrev yBY := List UInt8
abbrev yCN := List (Int × Nat)
abbrev yEE := Nat → Nat → Int
abbrev yIP := Int × Int
abbrev yB1 := Bool
abbrev yIN := Int × Nat
abbrev yZS := Nat → List Value
abbrev yPR := Program
abbrev yEN := Env
abbrev yPX := PySem.Expr
abbrev yPO := Pos
abbrev yJJ := List Value → List (Addr × Obj) → Prop
abbrev yFN := Shared → List Value → List (Addr × Obj) → Prop
abbrev yMD := Nat → Value → Heap → Prop
abbrev ySH := Nat → Heap → Prop
abbrev yBD := Nat → (Str → Option Value) → Prop
abbrev yRR := Value → Addr → Result → Shared → Prop
abbrev yQF := Flow → Shared → Prop
abbrev yQU := Unit → Shared → Prop
theorem hideG {G : Prop} (h : (G → False) → False) : G := Classical.byContradiction h
theorem henkin {P : Vars → Prop} (h : P (hk P)) : ∀ x, P x := fun x => Classical.byContradiction fun hx => by
  unfold hk at h
  exact (@Classical.epsilon_spec Vars (fun x => ¬ P x) ⟨x, hx⟩) h
theorem hkv {P : Vars → Prop} {v : Vars} (h : P v) (e : v = hk P) : ∀ x, P x := henkin (e ▸ h)
@[irreducible] def hold (l : List Stmt) : List Stmt := l
theorem hold_eq (l : List Stmt) : hold l = l := by unfold hold; rfl
section
variable {M : Model} {A : Around} {a b c d e f g : Stmt} {r : List Stmt} {env : Env} {Q : Flow → Shared → Prop} {E : Value → Shared → Prop} {s : Shared}
theorem split1 (h : wpAny M A (execs (a :: hold r) env) Q E s) : wpAny M A (execs (a :: r) env) Q E s := by rw [hold_eq] at h; exact h
theorem split2 (h : wpAny M A (execs (a :: b :: hold r) env) Q E s) : wpAny M A (execs (a :: b :: r) env) Q E s := by rw [hold_eq] at h; exact h
theorem split3 (h : wpAny M A (execs (a :: b :: c :: hold r) env) Q E s) : wpAny M A (execs (a :: b :: c :: r) env) Q E s := by rw [hold_eq] at h; exact h
theorem split4 (h : wpAny M A (execs (a :: b :: c :: d :: hold r) env) Q E s) : wpAny M A (execs (a :: b :: c :: d :: r) env) Q E s := by rw [hold_eq] at h; exact h
theorem unhold (h : wpAny M A (execs r env) Q E s) : wpAny M A (execs (hold r) env) Q E s := by rw [hold_eq]; exact h
end
open PySem.Float64
theorem dl_ex : ∃ D : Int, D = 2 ^ 1024 := ⟨_, rfl⟩
noncomputable def dl : Int := Classical.choose dl_ex
theorem dl_eq : dl = 2 ^ 1024 := Classical.choose_spec dl_ex
theorem pc (n : Nat) : ((2 ^ n : Nat) : Int) = 2 ^ n := by simp
theorem dl_pos : 0 < dl := by rw [dl_eq]; exact Int.pow_pos (by decide)
theorem U_dl : (2 : Int) ^ 1074 = 2 ^ 50 * dl := by rw [dl_eq, ← Int.pow_add]
theorem U_dlN : ((2 ^ 1074 : Nat) : Int) = 2 ^ 50 * dl := by rw [pc, U_dl]
noncomputable def Fin1 (z : UInt64) : Prop := ∃ b m e, decode z = .fin b m e
theorem V_any : ∀ (k q : Nat), q ≤ 2 ^ 53 → ∃ t, V t = q * 2 ^ k
  | 0, q, h => ⟨_, V_at (k := 0) h (.inr rfl)⟩
  | k + 1, q, h => by
    by_cases h2 : 2 ^ 52 ≤ q
    · exact ⟨_, V_at h (.inl h2)⟩
    · obtain ⟨t, ht⟩ := V_any k (2 * q) (by lia)
      exact ⟨t, by rw [ht, Nat.pow_succ, Nat.mul_comm 2 q, Nat.mul_assoc, Nat.mul_comm 2]⟩
theorem sgn_le (b : Bool) (x y c : Nat) (h : dist x y ≤ c) : -(c : Int) ≤ sgn b y - sgn b x ∧ sgn b y - sgn b x ≤ c := by
  unfold dist at h
  unfold sgn
  cases b <;> simp <;> lia
theorem near {r : UInt64} {neg : Bool} {W D : Nat} (k : Nat) (h : Right r neg W D) (hD : 0 < D) (hk : k ≤ 1900) (hW : W < D * (2 ^ 53 * 2 ^ k)) :
    Fin1 r ∧ -((D : Int) * 2 ^ k) ≤ D * val r - sgn neg W ∧ D * val r - sgn neg W ≤ (D : Int) * 2 ^ k := by
  obtain ⟨t, rfl, h1, h2, h3⟩ := h
  have hlt : t < infMag := by
    refine Nat.lt_of_le_of_ne h1 fun e => ?_
    have h4 := h2.mp e
    have e1 : (2 : Nat) ^ 2045 = 2 ^ (2045 - k) * 2 ^ k := by rw [← Nat.pow_add]; congr 1; lia
    have e2 : 2 ≤ (2 : Nat) ^ (2045 - k) := Nat.le_trans (by decide : 2 ≤ 2 ^ 1) (Nat.pow_le_pow_right (by decide) (by lia))
    have e3 : 2 * (2 ^ 53 * 2 ^ k) ≤ (2 ^ 54 - 1) * 2 ^ 2045 := by
      rw [e1]
      generalize (2 : Nat) ^ (2045 - k) = A at *
      generalize (2 : Nat) ^ k = B at *
      have : 2 * B ≤ A * B := Nat.mul_le_mul_right _ e2
      generalize A * B = C at *
      lia
    have e4 := Nat.mul_le_mul_left D e3
    have e5 : D * (2 * (2 ^ 53 * 2 ^ k)) = 2 * (D * (2 ^ 53 * 2 ^ k)) := by ac_rfl
    (clear hD hk h1 h3 h4 e1 e2 e3 e5; lia)
  obtain ⟨m, e, hd, _⟩ := decode_pack neg hlt
  refine ⟨⟨_, _, _, hd⟩, ?_⟩
  have hP : 0 < D * 2 ^ k := Nat.mul_pos hD (Nat.two_pow_pos _)
  obtain ⟨t', ht'⟩ := V_any k (W / (D * 2 ^ k)) (by
    have : W / (D * 2 ^ k) < 2 ^ 53 := by
      rw [Nat.div_lt_iff_lt_mul hP]
      have : D * (2 ^ 53 * 2 ^ k) = 2 ^ 53 * (D * 2 ^ k) := by ac_rfl
      lia
    lia)
  have h5 := (h3 hlt t').1
  rw [ht'] at h5
  have h6 : dist W (D * (W / (D * 2 ^ k) * 2 ^ k)) ≤ D * 2 ^ k := by
    have e1 : D * (W / (D * 2 ^ k) * 2 ^ k) = (D * 2 ^ k) * (W / (D * 2 ^ k)) := by ac_rfl
    have e2 := Nat.div_add_mod W (D * 2 ^ k)
    have e3 := Nat.mod_lt W hP
    rw [e1]
    unfold dist
    (clear hD hk hW h1 h2 h3 hlt hd ht' h5 e1; lia)
  have h7 := Nat.le_trans h5 h6
  have h8 := sgn_le neg W (D * V t) _ h7
  rw [val_pack neg hlt]
  have e9 : (D : Int) * sgn neg (V t) = sgn neg (D * V t) := by rw [Nat.mul_comm, sgn_mul, Int.mul_comm]
  rw [e9]
  have e10 : ((D * 2 ^ k : Nat) : Int) = (D : Int) * 2 ^ k := by rw [Int.natCast_mul, pc]
  rw [e10] at h8
  exact h8
structure Ap (K : Int) (z : UInt64) (a n : Int) : Prop where
  fin : Fin1 z
  lo : 2 ^ 50 * (a * dl) - n * (K * dl) ≤ K * val z
  hi : K * val z ≤ 2 ^ 50 * (a * dl) + n * (K * dl)
theorem sgn_decide (x : Int) : sgn (decide (x < 0)) x.natAbs = x := by unfold sgn; by_cases h : x < 0 <;> simp [h] <;> lia
theorem nat_lt_of {x : Nat} {y : Nat} (h : (x : Int) < (y : Int)) : x < y := Int.ofNat_lt.mp h
theorem pow53 : ((2 ^ 53 * 2 ^ 1024 : Nat) : Int) = 2 ^ 53 * dl := by rw [Int.natCast_mul, pc, pc, dl_eq]
theorem Ap.size {K : Int} {z : UInt64} {a n : Int} (h : Ap K z a n) (hK : 0 < K) (c : Int) (h0 : -(c * K) ≤ a) (h1 : a ≤ c * K) (hn : n ≤ 2 ^ 50) (hn0 : 0 ≤ n) : -((c + 1) * (2 ^ 50 * dl)) ≤ val z ∧ val z ≤ (c + 1) * (2 ^ 50 * dl) := by
  have hd := dl_pos
  have hP : 0 ≤ K * dl := Int.le_of_lt (Int.mul_pos hK hd)
  have e1 := Int.mul_le_mul_of_nonneg_right h0 (Int.le_of_lt hd)
  have e2 := Int.mul_le_mul_of_nonneg_right h1 (Int.le_of_lt hd)
  have e3 := Int.mul_le_mul_of_nonneg_right hn hP
  have e4 : -(c * K) * dl = -(c * (K * dl)) := by rw [Int.neg_mul, Int.mul_assoc]
  have e5 : c * K * dl = c * (K * dl) := Int.mul_assoc _ _ _
  rw [e4] at e1
  rw [e5] at e2
  have e6 : K * ((c + 1) * (2 ^ 50 * dl)) = 2 ^ 50 * (c * (K * dl)) + 2 ^ 50 * (K * dl) := by
    rw [Int.add_mul, Int.one_mul, Int.mul_add]
    congr 1
    · ac_rfl
    · ac_rfl
  have lo := h.lo
  have hi := h.hi
  constructor
  · refine Int.le_of_mul_le_mul_left (a := K) ?_ hK
    rw [Int.mul_neg, e6]
    generalize c * (K * dl) = X at *
    generalize n * (K * dl) = Y at *
    generalize K * dl = Z at *
    generalize a * dl = A at *
    generalize K * val z = V at *
    (clear h hK h0 h1 hn hn0 hd e4 e5 hP e6 e2 hi; lia)
  · refine Int.le_of_mul_le_mul_left (a := K) ?_ hK
    rw [e6]
    generalize c * (K * dl) = X at *
    generalize n * (K * dl) = Y at *
    generalize K * dl = Z at *
    generalize a * dl = A at *
    generalize K * val z = V at *
    (clear h hK h0 h1 hn hn0 hd e4 e5 hP e6 e1 lo; lia)
theorem add_near {x y : UInt64} (hx : Fin1 x) (hy : Fin1 y) (h0 : -(7 * (2 ^ 50 * dl)) ≤ val x + val y) (h1 : val x + val y ≤ 7 * (2 ^ 50 * dl)) :
    Fin1 (add x y) ∧ -dl ≤ val (add x y) - (val x + val y) ∧ val (add x y) - (val x + val y) ≤ dl := by
  obtain ⟨a, m, e, hx⟩ := hx
  obtain ⟨b, k, f, hy⟩ := hy
  obtain ⟨z1, z2⟩ := add_right hx hy
  have hd := dl_pos
  by_cases hz : val x + val y = 0
  · rw [z1 hz, hz]
    obtain ⟨m, e, hd2, hv⟩ := decode_pack (a && b) (t := 0) (by decide)
    refine ⟨⟨_, _, _, hd2⟩, ?_⟩
    have : val (zero (a && b)) = 0 := by
      show val (pack (a && b) 0) = 0
      rw [val_pack _ (by decide)]
      have : V 0 = 0 := by decide
      rw [this]; unfold sgn; cases (a && b) <;> rfl
    rw [this]
    lia
  · have h := near 1024 (z2 hz) (by decide) (by decide) (by
      apply nat_lt_of
      rw [Int.natCast_mul, pow53]
      generalize dl = D at *
      lia)
    rw [sgn_decide] at h
    have e2 : ((1 : Nat) : Int) * 2 ^ 1024 = dl := by rw [dl_eq]; exact Int.one_mul _
    rw [e2] at h
    obtain ⟨hf, h3, h4⟩ := h
    generalize dl = D at *
    exact ⟨hf, by (clear hx hy z1 z2 hz hf h0 h1 hd h4; lia), by (clear hx hy z1 z2 hz hf h0 h1 hd h3; lia)⟩
theorem Ap.add {K : Int} {x y : UInt64} {a b n m : Int} (hx : Ap K x a n) (hy : Ap K y b m) (hK : 0 < K) (c c' : Int) (hc : c + c' ≤ 5) (a0 : -(c * K) ≤ a) (a1 : a ≤ c * K) (b0 : -(c' * K) ≤ b) (b1 : b ≤ c' * K) (hn : n ≤ 2 ^ 50) (hm : m ≤ 2 ^ 50) (hn0 : 0 ≤ n) (hm0 : 0 ≤ m) :
    Ap K (Float64.add x y) (a + b) (n + m + 1) := by
  have s1 := hx.size hK c a0 a1 hn hn0
  have s2 := hy.size hK c' b0 b1 hm hm0
  have hd := dl_pos
  have bd : (c + 1) * (2 ^ 50 * dl) + (c' + 1) * (2 ^ 50 * dl) ≤ 7 * (2 ^ 50 * dl) := by
    rw [← Int.add_mul]
    exact Int.mul_le_mul_of_nonneg_right (by lia) (by lia)
  obtain ⟨f, l, u⟩ := add_near hx.fin hy.fin (by lia) (by (clear hx hy hK hc a0 a1 b0 b1 hn hm hn0 hm0 hd; omega))
  refine ⟨f, ?_, ?_⟩
  · have e := Int.mul_le_mul_of_nonneg_left l (Int.le_of_lt hK)
    have := hx.lo; have := hy.lo
    rw [Int.mul_sub, Int.mul_add, Int.mul_neg] at e
    rw [Int.add_mul, Int.add_mul, Int.add_mul, Int.one_mul, Int.mul_add]
    lia
  · have e := Int.mul_le_mul_of_nonneg_left u (Int.le_of_lt hK)
    have := hx.hi; have := hy.hi
    rw [Int.mul_sub, Int.mul_add] at e
    rw [Int.add_mul, Int.add_mul, Int.add_mul, Int.one_mul, Int.mul_add]
    lia
theorem Ap.neg {K : Int} {x : UInt64} {a n : Int} (hx : Ap K x a n) : Ap K (Float64.neg x) (-a) n := by
  obtain ⟨⟨b, m, e, hd⟩, lo, hi⟩ := hx
  refine ⟨⟨_, _, _, neg_decode hd⟩, ?_, ?_⟩
  · rw [neg_val hd, Int.mul_neg, Int.neg_mul]; lia
  · rw [neg_val hd, Int.mul_neg, Int.neg_mul]; lia
theorem Ap.sub {K : Int} {x y : UInt64} {a b n m : Int} (hx : Ap K x a n) (hy : Ap K y b m) (hK : 0 < K) (c c' : Int) (hc : c + c' ≤ 5) (a0 : -(c * K) ≤ a) (a1 : a ≤ c * K) (b0 : -(c' * K) ≤ b) (b1 : b ≤ c' * K) (hn : n ≤ 2 ^ 50) (hm : m ≤ 2 ^ 50) (hn0 : 0 ≤ n) (hm0 : 0 ≤ m) :
    Ap K (Float64.sub x y) (a - b) (n + m + 1) := by
  rw [Int.sub_eq_add_neg]
  have h := hx.add hy.neg hK c c' hc a0 a1 (by lia) (by lia) hn hm hn0 hm0
  unfold Float64.sub
  exact h
theorem Ap.lift {K : Int} {x : UInt64} {a n : Int} (hx : Ap K x a n) (j : Int) (hj : 0 < j) : Ap (K * j) x (a * j) n := by
  obtain ⟨f, lo, hi⟩ := hx
  have e1 : K * j * val x = j * (K * val x) := by ac_rfl
  have e2 : 2 ^ 50 * (a * j * dl) = j * (2 ^ 50 * (a * dl)) := by ac_rfl
  have e3 : n * (K * j * dl) = j * (n * (K * dl)) := by ac_rfl
  refine ⟨f, ?_, ?_⟩
  · rw [e1, e2, e3, ← Int.mul_sub]; exact Int.mul_le_mul_of_nonneg_left lo (Int.le_of_lt hj)
  · rw [e1, e2, e3, ← Int.mul_add]; exact Int.mul_le_mul_of_nonneg_left hi (Int.le_of_lt hj)
theorem sgn_prod (a b : Bool) (x y : Nat) : sgn (a != b) (x * y) = sgn a x * sgn b y := by
  unfold sgn; cases a <;> cases b <;> simp [Int.mul_neg, Int.neg_mul]
theorem mul_near {x y : UInt64} {q : Int} (k : Nat) (hx : Fin1 x) (hv : val x = q * 2 ^ 1018) (hy : Fin1 y) (hk : k ≤ 1900) (hs : (val x * val y).natAbs < 2 ^ 1074 * (2 ^ 53 * 2 ^ k)) :
    Fin1 (mul x y) ∧ -(2 ^ 56 * 2 ^ k) ≤ 2 ^ 56 * val (mul x y) - q * val y ∧ 2 ^ 56 * val (mul x y) - q * val y ≤ 2 ^ 56 * 2 ^ k := by
  obtain ⟨a, m, e, hx⟩ := hx
  obtain ⟨b, j, f, hy⟩ := hy
  have h := near k (mul_right hx hy) (Nat.two_pow_pos _) hk (by rw [← Int.natAbs_mul]; exact hs)
  have e1 : sgn (a != b) ((val x).natAbs * (val y).natAbs) = val x * val y := by rw [val_natAbs hx, val_natAbs hy, sgn_prod, ← val_eq hx, ← val_eq hy]
  rw [e1, hv] at h
  have e2 : ((2 ^ 1074 : Nat) : Int) = 2 ^ 1018 * 2 ^ 56 := by rw [← Int.pow_add, pc]
  rw [e2] at h
  have hp : (0 : Int) < 2 ^ 1018 := Int.pow_pos (by decide)
  have e3 : ∀ P : Int, q * P * val y = P * (q * val y) := fun P => by ac_rfl
  rw [e3, Int.mul_assoc, Int.mul_assoc, ← Int.mul_sub, ← Int.mul_neg] at h
  exact ⟨h.1, Int.le_of_mul_le_mul_left h.2.1 hp, Int.le_of_mul_le_mul_left h.2.2 hp⟩
theorem Ap.mul {K : Int} {x y : UInt64} {b m q : Int} (hy : Ap K y b m) (hx : Fin1 x) (hv : val x = q * 2 ^ 1018) (hq0 : 0 ≤ q) (hq : q ≤ 2 ^ 57) (hK : 0 < K) (b0 : -(2 * K) ≤ b) (b1 : b ≤ 2 * K) (hm : m ≤ 2 ^ 50) (hm0 : 0 ≤ m) :
    Ap (K * 2 ^ 56) (Float64.mul x y) (q * b) (2 * m + 1) := by
  have hd := dl_pos
  have s := hy.size hK 2 b0 b1 hm hm0
  have sz : (val x * val y).natAbs < 2 ^ 1074 * (2 ^ 53 * 2 ^ 1024) := by
    rw [Int.natAbs_mul]
    have l1 : (val x).natAbs ≤ 2 * 2 ^ 1074 := by
      have : ((val x).natAbs : Int) ≤ ((2 * 2 ^ 1074 : Nat) : Int) := by
        rw [hv, Int.natAbs_of_nonneg (Int.mul_nonneg hq0 (Int.le_of_lt (Int.pow_pos (by decide))))]
        have := Int.mul_le_mul_of_nonneg_right hq (Int.le_of_lt (Int.pow_pos (m := 1018) (by decide : (0 : Int) < 2)))
        refine Int.le_trans this (Int.le_of_eq ?_)
        have e1 : (2 : Int) ^ 1074 = 2 ^ 56 * 2 ^ 1018 := by rw [← Int.pow_add]
        rw [Int.natCast_mul, pc, e1, show (2 : Int) ^ 57 = 2 * 2 ^ 56 by decide, Int.mul_assoc]; rfl
      exact Int.ofNat_le.mp this
    have l2 : (val y).natAbs < 2 ^ 52 * 2 ^ 1024 := by
      apply nat_lt_of
      have : ((2 ^ 52 * 2 ^ 1024 : Nat) : Int) = 2 ^ 52 * dl := by rw [Int.natCast_mul, pc, pc, dl_eq]
      rw [this]
      generalize dl = D at *
      (clear hy hx hv hq0 hq hK b0 b1 hm hm0 l1 hd; omega)
    calc _ ≤ (2 * 2 ^ 1074) * (val y).natAbs := Nat.mul_le_mul_right _ l1
      _ < (2 * 2 ^ 1074) * (2 ^ 52 * 2 ^ 1024) := Nat.mul_lt_mul_of_pos_left l2 (Nat.mul_pos (by decide) (Nat.two_pow_pos _))
      _ = 2 ^ 1074 * (2 ^ 53 * 2 ^ 1024) := by
        rw [show (2 : Nat) ^ 53 = 2 * 2 ^ 52 by decide]
        generalize (2 : Nat) ^ 1074 = X
        generalize (2 : Nat) ^ 1024 = Y
        generalize (2 : Nat) ^ 52 = Z
        ac_rfl
  obtain ⟨f, l, u⟩ := mul_near 1024 hx hv hy.fin (by decide) sz
  have ed : (2 : Int) ^ 1024 = dl := dl_eq.symm
  rw [ed] at l u
  have hP : 0 ≤ K * dl := Int.le_of_lt (Int.mul_pos hK hd)
  have q1 := Int.mul_le_mul_of_nonneg_right hq (Int.mul_nonneg hm0 hP)
  have lo := Int.mul_le_mul_of_nonneg_left hy.lo hq0
  have hi := Int.mul_le_mul_of_nonneg_left hy.hi hq0
  have l' := Int.mul_le_mul_of_nonneg_left l (Int.le_of_lt hK)
  have u' := Int.mul_le_mul_of_nonneg_left u (Int.le_of_lt hK)
  have e1 : K * (2 ^ 56 * val (Float64.mul x y) - q * val y) = K * 2 ^ 56 * val (Float64.mul x y) - q * (K * val y) := by
    rw [Int.mul_sub]; congr 1
    · ac_rfl
    · ac_rfl
  have e2 : K * (2 ^ 56 * dl) = 2 ^ 56 * (K * dl) := by ac_rfl
  have e3 : q * (2 ^ 50 * (b * dl) - m * (K * dl)) = 2 ^ 50 * (q * b * dl) - q * (m * (K * dl)) := by
    rw [Int.mul_sub]; congr 1; ac_rfl
  have e4 : q * (2 ^ 50 * (b * dl) + m * (K * dl)) = 2 ^ 50 * (q * b * dl) + q * (m * (K * dl)) := by
    rw [Int.mul_add]; congr 1; ac_rfl
  rw [e1, e2] at u'
  rw [e1, Int.mul_neg, e2] at l'
  rw [e3] at lo
  rw [e4] at hi
  have e5 : (2 * m + 1) * (K * 2 ^ 56 * dl) = 2 ^ 57 * (m * (K * dl)) + 2 ^ 56 * (K * dl) := by
    rw [Int.add_mul, Int.one_mul]; congr 1
    · rw [show (2 : Int) ^ 57 = 2 * 2 ^ 56 by decide]; ac_rfl
    · ac_rfl
  refine ⟨f, ?_, ?_⟩ <;> rw [e5] <;> lia
theorem ap_div {p : Int} (h0 : 0 ≤ p) (h1 : p < 1000) : Ap 255 (divF p 255) p 1 := by
  have hd := dl_pos
  have R : Right (divF p 255) (decide (p < 0) != decide ((255 : Int) < 0)) (p.natAbs * 2 ^ 1074) 255 := ofFrac_right (by decide) (by simp) (by decide)
  have hp : p.natAbs < 2 ^ 10 := by lia
  have h := near 1024 R (by decide) (by decide) (by
    have : p.natAbs * 2 ^ 1074 < 255 * (2 ^ 53 * 2 ^ 1024) := by
      have e : (2 : Nat) ^ 1074 = 2 ^ 50 * 2 ^ 1024 := by rw [← Nat.pow_add]
      rw [e]
      have : 0 < (2 : Nat) ^ 1024 := Nat.two_pow_pos _
      generalize (2 : Nat) ^ 1024 = X at *
      have := Nat.mul_lt_mul_of_pos_right (show p.natAbs < 2 ^ 10 by lia) (show 0 < 2 ^ 50 * X by lia)
      lia
    exact this)
  have e1 : sgn (decide (p < 0) != decide ((255 : Int) < 0)) (p.natAbs * 2 ^ 1074) = 2 ^ 50 * (p * dl) := by
    have : (decide (p < 0) != decide ((255 : Int) < 0)) = false := by simp; omega
    rw [this, sgn_mul, U_dlN]
    have : sgn false p.natAbs = p := by unfold sgn; simp; lia
    rw [this]; ac_rfl
  rw [e1] at h
  have ed : (2 : Int) ^ 1024 = dl := dl_eq.symm
  rw [ed] at h
  obtain ⟨f, l, u⟩ := h
  have e255 : ((255 : Nat) : Int) = 255 := rfl
  rw [e255] at l u
  exact ⟨f, by lia, by (clear h0 h1 hd R hp e1 f l e255; omega)⟩
theorem fin1_of {x : UInt64} (h : isFinite x = true) : Fin1 x := by
  unfold isFinite at h
  cases hd : decode x with
  | nan => rw [hd] at h; cases h
  | inf b => rw [hd] at h; cases h
  | fin b m e => exact ⟨b, m, e, hd⟩
theorem fin_zero : Fin1 0 := fin1_of (by decide +kernel)
theorem cmp_lt0 {x : UInt64} (h : Fin1 x) : (cmp x 0 == some Ordering.lt) = decide (val x < 0) := by
  obtain ⟨a, m, e, hx⟩ := h
  obtain ⟨b, k, f, h0⟩ := fin_zero
  rw [cmp_right hx h0]
  have : val 0 = 0 := by decide +kernel
  rw [this]
  rcases Int.lt_trichotomy (val x) 0 with h | h | h
  · rw [Int.compare_eq_lt.mpr h]; simp [h]
  · rw [h]; simp
  · rw [Int.compare_eq_gt.mpr h]
    have : ¬ val x < 0 := by lia
    simp [this]
theorem val_one : val 4607182418800017408 = 2 ^ 50 * dl := by rw [← U_dl]; decide +kernel
theorem fin_one : Fin1 4607182418800017408 := fin1_of (by decide +kernel)
theorem val_zero : val 0 = 0 := by decide +kernel
theorem cmp_gt1 {x : UInt64} (h : Fin1 x) : (cmp x 4607182418800017408 == some Ordering.gt) = decide (2 ^ 50 * dl < val x) := by
  obtain ⟨a, m, e, hx⟩ := h
  obtain ⟨b, k, f, h1⟩ := fin_one
  rw [cmp_right hx h1, val_one]
  rcases Int.lt_trichotomy (val x) (2 ^ 50 * dl) with h | h | h
  · rw [Int.compare_eq_lt.mpr h]
    have : ¬ 2 ^ 50 * dl < val x := by lia
    rw [decide_eq_false this]; rfl
  · rw [h, decide_eq_false (Int.lt_irrefl _), Int.compare_eq_eq.mpr rfl]; rfl
  · rw [Int.compare_eq_gt.mpr h, decide_eq_true h]; rfl
theorem Ap.clamp {K : Int} {x : UInt64} {a n : Int} (hx : Ap K x a n) (hK : 0 < K) (hn : 0 ≤ n) (h0 : -(1000 * K) ≤ 2 ^ 50 * a) (h1 : 2 ^ 50 * a + n * K ≤ 2 ^ 50 * K) : Ap K (clampF x) a (n + 1000) := by
  have hd := dl_pos
  have hP : 0 < K * dl := Int.mul_pos hK hd
  have lo := hx.lo
  have hi := hx.hi
  have g0 := Int.mul_le_mul_of_nonneg_right h0 (Int.le_of_lt hd)
  have g1 := Int.mul_le_mul_of_nonneg_right h1 (Int.le_of_lt hd)
  have e0 : -(1000 * K) * dl = -(1000 * (K * dl)) := by rw [Int.neg_mul, Int.mul_assoc]
  have e1 : (2 : Int) ^ 50 * a * dl = 2 ^ 50 * (a * dl) := Int.mul_assoc _ _ _
  have e2 : (2 ^ 50 * a + n * K) * dl = 2 ^ 50 * (a * dl) + n * (K * dl) := by rw [Int.add_mul, Int.mul_assoc, Int.mul_assoc]
  have e3 : (2 : Int) ^ 50 * K * dl = 2 ^ 50 * (K * dl) := Int.mul_assoc _ _ _
  rw [e0, e1] at g0
  rw [e2, e3] at g1
  have e4 : (n + 1000) * (K * dl) = n * (K * dl) + 1000 * (K * dl) := Int.add_mul _ _ _
  have hn' : 0 ≤ n * (K * dl) := Int.mul_nonneg hn (Int.le_of_lt hP)
  unfold clampF
  rw [cmp_lt0 hx.fin]
  by_cases hz : val x < 0
  · have zz : K * val x < 0 := Int.mul_neg_of_pos_of_neg hK hz
    have : (cmp 0 4607182418800017408 == some Ordering.gt) = false := by decide +kernel
    simp only [hz, decide_true, if_true, this, Bool.false_eq_true, if_false]
    refine ⟨fin_zero, ?_, ?_⟩ <;> rw [val_zero, e4] <;> lia
  · have h2 : ¬ 2 ^ 50 * dl < val x := fun h => by
      have := Int.mul_lt_mul_of_pos_left h hK
      have e5 : K * (2 ^ 50 * dl) = 2 ^ 50 * (K * dl) := by ac_rfl
      (clear hx hK hn h0 h1 hd hP lo g0 e0 e1 e2 e3 e4 hn' hz h e5; lia)
    simp only [hz, decide_false, Bool.false_eq_true, if_false, cmp_gt1 hx.fin, h2]
    exact ⟨hx.fin, by rw [e4]; lia, by rw [e4]; lia⟩
theorem ni_up {U n M d N : Nat} (hU : 0 < U) (h2 : n * U = M * d) (a0 : N * (4 * U) ≤ 4 * M + U) : 4 * (d * N) ≤ 4 * n + d := by
  refine Nat.le_of_mul_le_mul_right (c := U) ?_ hU
  have b := Nat.mul_le_mul_right d a0
  rw [Nat.add_mul, Nat.mul_assoc 4 M d, ← h2, Nat.mul_left_comm N 4 U, Nat.mul_assoc 4 (N * U) d, Nat.mul_right_comm N U d, Nat.mul_comm N d, Nat.mul_comm U d] at b
  rw [Nat.add_mul, Nat.mul_assoc 4 n U, Nat.mul_assoc 4 (d * N) U]
  exact b
theorem ni_dn {U n M d N : Nat} (hU : 0 < U) (h2 : n * U = M * d) (a1 : 4 * M ≤ N * (4 * U) + U) : 4 * n ≤ 4 * (d * N) + d := by
  refine Nat.le_of_mul_le_mul_right (c := U) ?_ hU
  have b := Nat.mul_le_mul_right d a1
  rw [Nat.add_mul, Nat.mul_assoc 4 M d, ← h2, Nat.mul_left_comm N 4 U, Nat.mul_assoc 4 (N * U) d, Nat.mul_right_comm N U d, Nat.mul_comm N d, Nat.mul_comm U d] at b
  rw [Nat.add_mul, Nat.mul_assoc 4 n U, Nat.mul_assoc 4 (d * N) U]
  exact b
theorem ds_le {a b : Nat} : a ≤ b + dist a b ∧ b ≤ a + dist a b := by unfold dist; exact ⟨by omega, by omega⟩
theorem ds_of {x y n k : Nat} (h : x + k ≤ y) (a : dist n x ≤ dist n y) (b : 4 * dist n y < 2 * k) : False := by
  have h1 := (ds_le (a := n) (b := x)).1
  have h2 := (ds_le (a := n) (b := y)).2
  generalize dist n x = p at *
  generalize dist n y = q at *
  omega
theorem ds_of' {x y n k : Nat} (h : y + k ≤ x) (a : dist n x ≤ dist n y) (b : 4 * dist n y < 2 * k) : False := by
  have h1 := (ds_le (a := n) (b := x)).2
  have h2 := (ds_le (a := n) (b := y)).1
  generalize dist n x = p at *
  generalize dist n y = q at *
  omega
theorem ni_end {n d N h : Nat} (near1 : dist n (d * h) ≤ dist n (d * N)) (hk : 4 * dist n (d * N) ≤ d) (hd : 0 < d) : h = N := by
  have hk' : 4 * dist n (d * N) < 2 * d := Nat.lt_of_le_of_lt hk (by rw [Nat.two_mul]; exact Nat.lt_add_of_pos_left hd)
  rcases Nat.lt_trichotomy h N with q | q | q
  · exact (ds_of (by rw [← Nat.mul_succ]; exact Nat.mul_le_mul_left _ q) near1 hk').elim
  · exact q
  · exact (ds_of' (by rw [← Nat.mul_succ]; exact Nat.mul_le_mul_left _ q) near1 hk').elim
theorem ni_dist {n d N : Nat} (c0 : 4 * (d * N) ≤ 4 * n + d) (c1 : 4 * n ≤ 4 * (d * N) + d) : 4 * dist n (d * N) ≤ d := by
  unfold dist
  generalize d * N = x at *
  omega
theorem near_int {x : UInt64} (N : Nat) (hx : Fin1 x) (h0 : (N : Int) * (4 * (2 ^ 50 * dl)) - 2 ^ 50 * dl ≤ 4 * val x) (h1 : 4 * val x ≤ (N : Int) * (4 * (2 ^ 50 * dl)) + 2 ^ 50 * dl) : Flt.toInt nearestOf x = N ∧ isFinite x = true := by
  obtain ⟨s, m, e, hd⟩ := hx
  refine ⟨?_, by unfold isFinite; rw [hd]⟩
  unfold Flt.toInt
  rw [hd]
  show sgn s (halfEven (shift m 1 e).1 (shift m 1 e).2) = N
  have hpos : 0 < (shift m 1 e).2 := shift_pos _ _ _ (by decide)
  have h2 := shift_one m e 1074 (by have := decode_ge hd; omega)
  have hv := val_eq hd
  have near1 := halfEven_nearest (shift m 1 e).1 (shift m 1 e).2 hpos N
  generalize (shift m 1 e).1 = n at *
  generalize (shift m 1 e).2 = d at *
  have e9 : (e + ((1074 : Nat) : Int)).toNat = (e + 1074).toNat := rfl
  rw [e9] at h2
  generalize hM : m * 2 ^ (e + 1074).toNat = M at *
  have hU : ((2 : Nat) ^ 1074 : Nat) = 2 ^ 50 * 2 ^ 1024 := by rw [← Nat.pow_add]
  rw [hU] at h2
  have hdl : dl = ((2 ^ 1024 : Nat) : Int) := by rw [pc, dl_eq]
  rw [hdl] at h0 h1
  have hDp : 0 < (2 : Nat) ^ 1024 := Nat.two_pow_pos _
  generalize (2 : Nat) ^ 1024 = D at *
  obtain ⟨U, hUU⟩ : ∃ U, U = 2 ^ 50 * D := ⟨_, rfl⟩
  have hUp : 0 < U := by lia
  have c1 : (2 : Int) ^ 50 * (D : Int) = (U : Int) := by rw [hUU, Int.natCast_mul, pc]
  rw [c1] at h0 h1
  rw [← hUU] at h2
  rw [hv] at h0 h1
  have key : s = false ∧ 4 * dist n (d * N) ≤ d ∨ s = true ∧ N = 0 ∧ 4 * n ≤ d := by
    cases s with
    | false =>
      left
      refine ⟨rfl, ?_⟩
      unfold sgn at h0 h1
      simp only [Bool.false_eq_true, if_false] at h0 h1
      have a0 : N * (4 * U) ≤ 4 * M + U := by
        have : ((N * (4 * U) : Nat) : Int) ≤ ((4 * M + U : Nat) : Int) := by push_cast; (clear hpos near1 e9 hdl hDp h2 hUp c1 hd hv h1; omega)
        exact Int.ofNat_le.mp this
      have a1 : 4 * M ≤ N * (4 * U) + U := by
        have : ((4 * M : Nat) : Int) ≤ ((N * (4 * U) + U : Nat) : Int) := by push_cast; omega
        exact Int.ofNat_le.mp this
      have c0 := ni_up hUp h2 a0
      have c1 := ni_dn hUp h2 a1
      exact ni_dist c0 c1
    | true =>
      right
      unfold sgn at h0 h1
      simp only [if_true] at h0 h1
      have hN : N = 0 := by
        rcases Nat.eq_zero_or_pos N with h | h
        · exact h
        · exfalso
          have : (1 : Int) * (4 * U) ≤ (N : Int) * (4 * U) := Int.mul_le_mul_of_nonneg_right (by lia) (by lia)
          (clear hpos near1 e9 hdl hDp h2 hUp c1 hd hv h1 this; lia)
      subst hN
      refine ⟨rfl, rfl, ?_⟩
      have a0 : 4 * M ≤ 0 * (4 * U) + U := by rw [Nat.zero_mul]; (clear hpos near1 e9 hdl hDp h2 hUp c1 hd hv); lia
      have c0 := ni_dn hUp h2 a0
      rwa [Nat.mul_zero, Nat.mul_zero, Nat.zero_add] at c0
  have hN' : halfEven n d = N := by
    have hk : 4 * dist n (d * N) ≤ d := by
      rcases key with ⟨_, k⟩ | ⟨_, hN, k⟩
      · exact k
      · subst hN; unfold dist; simp; omega
    exact ni_end near1 hk hpos
  rw [hN']
  rcases key with ⟨hs, _⟩ | ⟨hs, hN, _⟩
  · rw [hs]; rfl
  · rw [hs, hN]; rfl
theorem fc30 : Fin1 4599075939470750515 ∧ val 4599075939470750515 = 21617278211378380 * 2 ^ 1018 := ⟨fin1_of (by decide +kernel), by decide +kernel⟩
theorem fc59 : Fin1 4603489467105573601 ∧ val 4603489467105573601 = 42513980482377480 * 2 ^ 1018 := ⟨fin1_of (by decide +kernel), by decide +kernel⟩
theorem fc11 : Fin1 4592590756007337001 ∧ val 4592590756007337001 = 7926335344172073 * 2 ^ 1018 := ⟨fin1_of (by decide +kernel), by decide +kernel⟩
theorem fc74 : Fin1 4604840546993784750 ∧ val 4604840546993784750 = 53322619588066672 * 2 ^ 1018 := ⟨fin1_of (by decide +kernel), by decide +kernel⟩
theorem fc27 : Fin1 4598535507515466056 ∧ val 4598535507515466056 = 19455550390240544 * 2 ^ 1018 := ⟨fin1_of (by decide +kernel), by decide +kernel⟩
theorem fc48 : Fin1 4602318531202457272 ∧ val 4602318531202457272 = 34587645138205408 * 2 ^ 1018 := ⟨fin1_of (by decide +kernel), by decide +kernel⟩
theorem fc41 : Fin1 4601057523306793533 ∧ val 4601057523306793533 = 29543613555550452 * 2 ^ 1018 := ⟨fin1_of (by decide +kernel), by decide +kernel⟩
theorem fc94 : Fin1 4606703976345377586 ∧ val 4606703976345377586 = 68230054400809360 * 2 ^ 1018 := ⟨fin1_of (by decide +kernel), by decide +kernel⟩
theorem fc62 : Fin1 4603791717925830846 ∧ val 4603791717925830846 = 44931987044435440 * 2 ^ 1018 := ⟨fin1_of (by decide +kernel), by decide +kernel⟩
theorem fc275 : Fin1 4598621754083818298 ∧ val 4598621754083818298 = 19800536663649512 * 2 ^ 1018 := ⟨fin1_of (by decide +kernel), by decide +kernel⟩
theorem fc63 : Fin1 4603901015759978483 ∧ val 4603901015759978483 = 45806369717616536 * 2 ^ 1018 := ⟨fin1_of (by decide +kernel), by decide +kernel⟩
theorem fc110 : Fin1 4607671262177584182 ∧ val 4607671262177584182 = 79879088078996320 * 2 ^ 1018 := ⟨fin1_of (by decide +kernel), by decide +kernel⟩
theorem fc170 : Fin1 4610375502138591871 ∧ val 4610375502138591871 = 123146927455119344 * 2 ^ 1018 := ⟨fin1_of (by decide +kernel), by decide +kernel⟩
theorem ap_mul {K : Int} {x y : UInt64} {b m q : Int} (hy : Ap K y b m) (hx : Fin1 x ∧ val x = q * 2 ^ 1018) (hK : 0 < K) (hq0 : 0 ≤ q) (hq : q ≤ 2 ^ 57) (b0 : -(2 * K) ≤ b) (b1 : b ≤ 2 * K) (hm0 : 0 ≤ m) (hm : m ≤ 2 ^ 50) : Ap (K * 2 ^ 56) (Float64.mul x y) (q * b) (2 * m + 1) :=
  hy.mul hx.1 hx.2 hq0 hq hK b0 b1 hm hm0
theorem apY {R G B : Int} (r0 : 0 ≤ R) (r1 : R ≤ 400) (g0 : 0 ≤ G) (g1 : G ≤ 400) (b0 : 0 ≤ B) (b1 : B ≤ 400) : Ap (255 * 2 ^ 56) (fY (divF R 255) (divF G 255) (divF B 255)) (21617278211378380 * R + 42513980482377480 * G + 7926335344172073 * B) 11 := by
  have a := ap_mul (ap_div r0 (by (clear r0 g0 g1 b0 b1; omega))) fc30 (by decide) (by decide) (by decide) (by lia) (by lia) (by decide) (by decide)
  have b := ap_mul (ap_div g0 (by lia)) fc59 (by decide) (by decide) (by decide) (by lia) (by lia) (by decide) (by decide)
  have c := ap_mul (ap_div b0 (by lia)) fc11 (by decide) (by decide) (by decide) (by lia) (by lia) (by decide) (by decide)
  exact (a.add b (by decide) 2 1 (by decide) (by lia) (by lia) (by lia) (by lia) (by decide) (by decide) (by decide) (by decide)).add c (by decide) 3 1 (by decide) (by lia) (by lia) (by lia) (by lia) (by decide) (by decide) (by decide) (by decide)
theorem apI {R G B : Int} (r0 : 0 ≤ R) (r1 : R ≤ 400) (g0 : 0 ≤ G) (g1 : G ≤ 400) (b0 : 0 ≤ B) (b1 : B ≤ 400) : Ap (255 * 2 ^ 56 * 2 ^ 56) (fI (divF R 255) (divF B 255) (fY (divF R 255) (divF G 255) (divF B 255))) (53322619588066672 * (R * 2 ^ 56 - (21617278211378380 * R + 42513980482377480 * G + 7926335344172073 * B)) - 19455550390240544 * (B * 2 ^ 56 - (21617278211378380 * R + 42513980482377480 * G + 7926335344172073 * B))) 55 := by
  have y := apY r0 r1 g0 g1 b0 b1
  have r := ((ap_div r0 (by lia)).lift (2 ^ 56) (by decide)).sub y (by decide) 2 2 (by decide) (by lia) (by lia) (by lia) (by lia) (by decide) (by decide) (by decide) (by decide)
  have b := ((ap_div b0 (by lia)).lift (2 ^ 56) (by decide)).sub y (by decide) 2 2 (by decide) (by lia) (by lia) (by lia) (by lia) (by decide) (by decide) (by decide) (by decide)
  have r2 := ap_mul r fc74 (by decide) (by decide) (by decide) (by (clear r1 g0 b0 y r b; lia)) (by (clear r0 g1 b1 y r b; lia)) (by decide) (by decide)
  have b2 := ap_mul b fc27 (by decide) (by decide) (by decide) (by (clear r0 g0 b1 y r b r2; lia)) (by (clear r1 g1 b0 y r b r2; lia)) (by decide) (by decide)
  exact r2.sub b2 (by decide) 2 2 (by decide) (by (clear r1 g0 b0 y r b r2 b2; lia)) (by (clear r0 g1 b1 y r b r2 b2; lia)) (by (clear r0 g0 b1 y r b r2 b2; lia)) (by (clear r1 g1 b0 y r b r2 b2; lia)) (by decide) (by decide) (by decide) (by decide)
theorem apQ {R G B : Int} (r0 : 0 ≤ R) (r1 : R ≤ 400) (g0 : 0 ≤ G) (g1 : G ≤ 400) (b0 : 0 ≤ B) (b1 : B ≤ 400) : Ap (255 * 2 ^ 56 * 2 ^ 56) (fQ (divF R 255) (divF B 255) (fY (divF R 255) (divF G 255) (divF B 255))) (34587645138205408 * (R * 2 ^ 56 - (21617278211378380 * R + 42513980482377480 * G + 7926335344172073 * B)) + 29543613555550452 * (B * 2 ^ 56 - (21617278211378380 * R + 42513980482377480 * G + 7926335344172073 * B))) 55 := by
  have y := apY r0 r1 g0 g1 b0 b1
  have r := ((ap_div r0 (by lia)).lift (2 ^ 56) (by decide)).sub y (by decide) 2 2 (by decide) (by lia) (by lia) (by lia) (by lia) (by decide) (by decide) (by decide) (by decide)
  have b := ((ap_div b0 (by lia)).lift (2 ^ 56) (by decide)).sub y (by decide) 2 2 (by decide) (by lia) (by lia) (by lia) (by lia) (by decide) (by decide) (by decide) (by decide)
  have r2 := ap_mul r fc48 (by decide) (by decide) (by decide) (by lia) (by lia) (by decide) (by decide)
  have b2 := ap_mul b fc41 (by decide) (by decide) (by decide) (by lia) (by lia) (by decide) (by decide)
  exact r2.add b2 (by decide) 2 2 (by decide) (by (clear r1 g0 b0 y r b r2 b2; lia)) (by (clear r0 g1 b1 y r b r2 b2; lia)) (by (clear r0 g0 b1 y r b r2 b2; lia)) (by (clear r1 g1 b0 y r b r2 b2; lia)) (by decide) (by decide) (by decide) (by decide)
theorem mul_near' {x y : UInt64} {q : Int} (k : Nat) (hx : Fin1 x) (hv : val x = q * 2 ^ 1018) (hy : Fin1 y) (hk : k ≤ 1900) (hs : (val y * val x).natAbs < 2 ^ 1074 * (2 ^ 53 * 2 ^ k)) :
    Fin1 (mul y x) ∧ -(2 ^ 56 * 2 ^ k) ≤ 2 ^ 56 * val (mul y x) - q * val y ∧ 2 ^ 56 * val (mul y x) - q * val y ≤ 2 ^ 56 * 2 ^ k := by
  obtain ⟨a, m, e, hx⟩ := hx
  obtain ⟨b, j, f, hy⟩ := hy
  have h := near k (mul_right hy hx) (Nat.two_pow_pos _) hk (by rw [← Int.natAbs_mul]; exact hs)
  have e1 : sgn (b != a) ((val y).natAbs * (val x).natAbs) = val y * val x := by rw [val_natAbs hx, val_natAbs hy, sgn_prod, ← val_eq hx, ← val_eq hy]
  rw [e1, hv] at h
  have e2 : ((2 ^ 1074 : Nat) : Int) = 2 ^ 1018 * 2 ^ 56 := by rw [← Int.pow_add, pc]
  rw [e2] at h
  have hp : (0 : Int) < 2 ^ 1018 := Int.pow_pos (by decide)
  have e3 : ∀ P : Int, val y * (q * P) = P * (q * val y) := fun P => by ac_rfl
  rw [e3, Int.mul_assoc, Int.mul_assoc, ← Int.mul_sub, ← Int.mul_neg] at h
  exact ⟨h.1, Int.le_of_mul_le_mul_left h.2.1 hp, Int.le_of_mul_le_mul_left h.2.2 hp⟩
theorem big_prod (X Y Z : Nat) (pX : 0 < X) (h : Z < 2 ^ 52 * Y) : 255 * X * Z < X * (2 ^ 53 * (2 ^ 7 * Y)) := by
  have e : 255 * X * Z = X * (255 * Z) := by ac_rfl
  rw [e]
  exact Nat.mul_lt_mul_of_pos_left (by lia) pX
theorem fc255 : Fin1 (ofInt 255) ∧ val (ofInt 255) = (255 * 2 ^ 56) * 2 ^ 1018 := ⟨fin1_of (by decide +kernel), by decide +kernel⟩
theorem ap_end {z : UInt64} {a : Int} (N : Int) (h : Ap (255 * 2 ^ 56 * 2 ^ 56 * 2 ^ 56) z a 1237) (hN0 : 0 ≤ N) (hN : N ≤ 250) (h0 : N * 2 ^ 168 - 2 ^ 130 ≤ a) (h1 : a ≤ N * 2 ^ 168 + 2 ^ 130) : finZ z ∧ rnd z = N := by
  have hd := dl_pos
  have s := h.size (by decide) 2 (by lia) (by lia) (by decide) (by decide)
  have sz : (val z * val (ofInt 255)).natAbs < 2 ^ 1074 * (2 ^ 53 * 2 ^ 1031) := by
    rw [Int.natAbs_mul]
    have l1 : (val (ofInt 255)).natAbs = 255 * 2 ^ 1074 := by decide +kernel
    have l2 : (val z).natAbs < 2 ^ 52 * 2 ^ 1024 := by
      apply nat_lt_of
      have : ((2 ^ 52 * 2 ^ 1024 : Nat) : Int) = 2 ^ 52 * dl := by rw [Int.natCast_mul, pc, pc, dl_eq]
      rw [this]
      generalize dl = D at *
      lia
    rw [l1]
    have e1 : (2 : Nat) ^ 1031 = 2 ^ 7 * 2 ^ 1024 := by rw [← Nat.pow_add]
    rw [e1, Nat.mul_comm (val z).natAbs]
    exact big_prod _ _ _ (Nat.two_pow_pos _) l2
  obtain ⟨f, l, u⟩ := mul_near' 1031 fc255.1 fc255.2 h.fin (by decide) sz
  have e1 : (2 : Int) ^ 1031 = 128 * dl := by rw [dl_eq, show (128 : Int) = 2 ^ 7 by decide, ← Int.pow_add]
  rw [e1] at l u
  obtain ⟨n, rfl⟩ := Int.eq_ofNat_of_zero_le hN0
  have lo := h.lo
  have hi := h.hi
  have g0 := Int.mul_le_mul_of_nonneg_right h0 (Int.le_of_lt hd)
  have g1 := Int.mul_le_mul_of_nonneg_right h1 (Int.le_of_lt hd)
  rw [Int.sub_mul] at g0
  rw [Int.add_mul] at g1
  have e2 : (n : Int) * 2 ^ 168 * dl = 2 ^ 168 * ((n : Int) * dl) := by ac_rfl
  rw [e2] at g0 g1
  have e3 : (n : Int) * (4 * (2 ^ 50 * dl)) = 2 ^ 52 * ((n : Int) * dl) := by
    rw [show (2 : Int) ^ 52 = 4 * 2 ^ 50 by decide]; ac_rfl
  have r := near_int n f (by
    rw [e3]
    generalize (n : Int) * dl = A at *
    generalize a * dl = C at *
    generalize dl = D at *
    generalize val (Float64.mul z (ofInt 255)) = M at *
    generalize val z = Z at *
    lia) (by
    rw [e3]
    generalize (n : Int) * dl = A at *
    generalize a * dl = C at *
    generalize dl = D at *
    generalize val (Float64.mul z (ofInt 255)) = M at *
    generalize val z = Z at *
    lia)
  exact ⟨r.2, r.1⟩
theorem thirdR {R G B : Int} (r0 : 0 ≤ R) (r1 : R ≤ 400) (g0 : 0 ≤ G) (g1 : G ≤ 400) (b0 : 0 ≤ B) (b1 : B ≤ 400) {g : Int} (l0 : 0 ≤ g) (l1 : g ≤ 400) (n0 : 0 ≤ g - R) (n1 : g - R ≤ 250) :
    let y := fY (divF R 255) (divF G 255) (divF B 255)
    let z := fR (Float64.sub (divF g 255) y) (Float64.neg (fI (divF R 255) (divF B 255) y)) (Float64.neg (fQ (divF R 255) (divF B 255) y))
    finZ z ∧ rnd z = g - R := by
  intro y z
  have ly := (((ap_div l0 (by omega)).lift (2 ^ 56) (by decide)).sub (apY r0 r1 g0 g1 b0 b1) (by decide) 2 2 (by decide) (by lia) (by lia) (by lia) (by lia) (by decide) (by decide) (by decide) (by decide)).lift (2 ^ 56) (by decide) |>.lift (2 ^ 56) (by decide)
  have i := ap_mul (apI r0 r1 g0 g1 b0 b1).neg fc94 (by decide) (by decide) (by decide) (by lia) (by lia) (by decide) (by decide)
  have q := ap_mul (apQ r0 r1 g0 g1 b0 b1).neg fc62 (by decide) (by decide) (by decide) (by lia) (by lia) (by decide) (by decide)
  have s := (ly.add i (by decide) 2 2 (by decide) (by (clear r0 g0 b0 l1 n0 n1 ly i q; lia)) (by (clear r0 r1 g1 b1 l0 n0 ly i q; lia)) (by (clear r0 g1 b1 l0 l1 n0 n1 ly i q; lia)) (by (clear r1 g0 b0 l0 l1 n0 n1 ly i q; lia)) (by decide) (by decide) (by decide) (by decide)).add q (by decide) 3 2 (by decide) (by (clear r0 g0 b1 l1 n0 n1 ly i q; lia)) (by (clear r0 g1 b0 l0 l1 n0 ly i q; lia)) (by (clear r0 g1 b0 l0 l1 n0 n1 ly i q; lia)) (by (clear r1 g0 b1 l0 l1 n0 n1 ly i q; lia)) (by decide) (by decide) (by decide) (by decide)
  have c := s.clamp (by decide) (by decide) (by (clear r0 r1 g1 b0 l1 n1 ly i q s; lia)) (by (clear r0 g0 b1 l0 l1 n0 ly i q s; lia))
  exact ap_end (g - R) c n0 n1 (by (clear r1 g1 b0 l0 l1 n0 n1 ly i q s c; lia)) (by (clear r0 g0 b1 l0 l1 n0 n1 ly i q s c; lia))
theorem thirdG {R G B : Int} (r0 : 0 ≤ R) (r1 : R ≤ 400) (g0 : 0 ≤ G) (g1 : G ≤ 400) (b0 : 0 ≤ B) (b1 : B ≤ 400) {g : Int} (l0 : 0 ≤ g) (l1 : g ≤ 400) (n0 : 0 ≤ g - G) (n1 : g - G ≤ 250) :
    let y := fY (divF R 255) (divF G 255) (divF B 255)
    let z := fG (Float64.sub (divF g 255) y) (Float64.neg (fI (divF R 255) (divF B 255) y)) (Float64.neg (fQ (divF R 255) (divF B 255) y))
    finZ z ∧ rnd z = g - G := by
  intro y z
  have ly := (((ap_div l0 (by lia)).lift (2 ^ 56) (by decide)).sub (apY r0 r1 g0 g1 b0 b1) (by decide) 2 2 (by decide) (by lia) (by lia) (by lia) (by lia) (by decide) (by decide) (by decide) (by decide)).lift (2 ^ 56) (by decide) |>.lift (2 ^ 56) (by decide)
  have i := ap_mul (apI r0 r1 g0 g1 b0 b1).neg fc275 (by decide) (by decide) (by decide) (by lia) (by lia) (by decide) (by decide)
  have q := ap_mul (apQ r0 r1 g0 g1 b0 b1).neg fc63 (by decide) (by decide) (by decide) (by lia) (by lia) (by decide) (by decide)
  have s := (ly.sub i (by decide) 2 2 (by decide) (by lia) (by (clear r1 g0 b1 l0 l1 n0 ly i q; lia)) (by (clear r0 g1 b1 l0 l1 n0 n1 ly i q; lia)) (by (clear r1 g0 b0 l0 l1 n0 n1 ly i q; lia)) (by decide) (by decide) (by decide) (by decide)).sub q (by decide) 3 2 (by decide) (by (clear r0 g0 b0 l1 n0 n1 ly i q; lia)) (by (clear r1 g0 b1 l0 l1 n0 ly i q; lia)) (by (clear r0 g1 b0 l0 l1 n0 n1 ly i q; lia)) (by (clear r1 g0 b1 l0 l1 n0 n1 ly i q; lia)) (by decide) (by decide) (by decide) (by decide)
  have c := s.clamp (by decide) (by decide) (by (clear r1 g0 g1 b0 l1 n1 ly i q s; lia)) (by (clear r0 g0 b1 l0 l1 n0 ly i q s; lia))
  exact ap_end (g - G) c n0 n1 (by (clear r1 g1 b0 l0 l1 n0 n1 ly i q s c; lia)) (by (clear r0 g0 b1 l0 l1 n0 n1 ly i q s c; lia))
theorem thirdB {R G B : Int} (r0 : 0 ≤ R) (r1 : R ≤ 400) (g0 : 0 ≤ G) (g1 : G ≤ 400) (b0 : 0 ≤ B) (b1 : B ≤ 400) {g : Int} (l0 : 0 ≤ g) (l1 : g ≤ 400) (n0 : 0 ≤ g - B) (n1 : g - B ≤ 250) :
    let y := fY (divF R 255) (divF G 255) (divF B 255)
    let z := fB (Float64.sub (divF g 255) y) (Float64.neg (fI (divF R 255) (divF B 255) y)) (Float64.neg (fQ (divF R 255) (divF B 255) y))
    finZ z ∧ rnd z = g - B := by
  intro y z
  have ly := (((ap_div l0 (by lia)).lift (2 ^ 56) (by decide)).sub (apY r0 r1 g0 g1 b0 b1) (by decide) 2 2 (by decide) (by lia) (by lia) (by lia) (by lia) (by decide) (by decide) (by decide) (by decide)).lift (2 ^ 56) (by decide) |>.lift (2 ^ 56) (by decide)
  have i := ap_mul (apI r0 r1 g0 g1 b0 b1).neg fc110 (by decide) (by decide) (by decide) (by lia) (by lia) (by decide) (by decide)
  have q := ap_mul (apQ r0 r1 g0 g1 b0 b1).neg fc170 (by decide) (by decide) (by decide) (by lia) (by lia) (by decide) (by decide)
  have s := (ly.sub i (by decide) 2 2 (by decide) (by lia) (by (clear r1 g1 b0 b1 l0 n0 ly i q; lia)) (by (clear r0 g1 b1 l0 l1 n0 n1 ly i q; lia)) (by (clear r1 g0 b0 l0 l1 n0 n1 ly i q; lia)) (by decide) (by decide) (by decide) (by decide)).add q (by decide) 3 2 (by decide) (by (clear r1 g0 b0 l1 n0 n1 ly i q; lia)) (by (clear r0 g1 b0 l0 l1 n0 ly i q; lia)) (by (clear r0 g1 b0 l0 l1 n0 n1 ly i q; lia)) (by (clear r1 g0 b1 l0 l1 n0 n1 ly i q; lia)) (by decide) (by decide) (by decide) (by decide)
  have c := s.clamp (by decide) (by decide) (by (clear r0 g1 b0 b1 l1 n1 ly i q s; lia)) (by (clear r1 g0 b0 l0 l1 n0 ly i q s; lia))
  exact ap_end (g - B) c n0 n1 (by (clear r0 g1 b1 l0 l1 n0 n1 ly i q s c; lia)) (by (clear r1 g0 b0 l0 l1 n0 n1 ly i q s c; lia))
noncomputable def cd (s : Int) (c j : Nat) : Int := if c = j then s else 0
theorem cd_b {s : Int} (h : 40 ≤ s) (c j : Nat) : 0 ≤ cd s c j := by unfold cd; split; exact Int.le_trans (by decide) h; exact Int.le_refl _
theorem cd_sum {s : Int} {c1 c2 : Nat} (h1 : c1 < 3) (h2 : c2 < 3) (h : c1 ≠ c2) {j : Nat} (hj : j < 3) : cd s c1 j + cd s c2 j + cd s (3 - c1 - c2) j = s := by
  have q : ∀ c1 : Fin 3, ∀ c2 : Fin 3, ∀ j : Fin 3, c1.1 = c2.1 ∨ (c1.1 = j.1 ∧ ¬ c2.1 = j.1 ∧ ¬ 3 - c1.1 - c2.1 = j.1) ∨ (¬ c1.1 = j.1 ∧ c2.1 = j.1 ∧ ¬ 3 - c1.1 - c2.1 = j.1) ∨ (¬ c1.1 = j.1 ∧ ¬ c2.1 = j.1 ∧ 3 - c1.1 - c2.1 = j.1) := by decide
  unfold cd
  rcases q ⟨c1, h1⟩ ⟨c2, h2⟩ ⟨j, hj⟩ with a | ⟨a, b, c⟩ | ⟨a, b, c⟩ | ⟨a, b, c⟩
  · exact absurd a h
  · rw [if_pos a, if_neg b, if_neg c, Int.add_zero, Int.add_zero]
  · rw [if_neg a, if_pos b, if_neg c, Int.zero_add, Int.add_zero]
  · rw [if_neg a, if_neg b, if_pos c, Int.zero_add, Int.zero_add]
theorem third_lin {s w1 w2 wn a b c : Int} (hs0 : 40 ≤ s) (hs1 : s < 140) (h1 : 0 ≤ w1 ∧ w1 < 64) (h2 : 0 ≤ w2 ∧ w2 < 64) (h3 : 0 ≤ wn ∧ wn < 64) (h : a + b + c = s) (ha : 0 ≤ a) (hb : 0 ≤ b) (hc : 0 ≤ c) :
    0 ≤ w1 + a + (w2 + b) ∧ w1 + a + (w2 + b) ≤ 400 ∧ w1 + w2 + wn + s - (w1 + a + (w2 + b)) = wn + c ∧ 0 ≤ wn + c ∧ wn + c ≤ 250 ∧ 0 ≤ w1 + w2 + wn + s ∧ w1 + w2 + wn + s ≤ 400 := by
  refine ⟨by (clear hs0 hs1 h3 hc; lia), by lia, by (clear hs0 hs1 h1 h2 h3 ha hb hc; lia), by lia, by lia, by lia, by lia⟩
theorem third_ok (s w1 w2 wn : Int) (c1 c2 : Nat) (hs0 : 40 ≤ s) (hs1 : s < 140) (h1 : 0 ≤ w1 ∧ w1 < 64) (h2 : 0 ≤ w2 ∧ w2 < 64) (h3 : 0 ≤ wn ∧ wn < 64) (hc1 : c1 < 3) (hc2 : c2 < 3) (hne : c1 ≠ c2) :
    let p := light s w1 c1; let q := light s w2 c2; let g := w1 + w2 + wn + s; let o := light s wn (3 - c1 - c2)
    finZ (tR p.1 p.2.1 p.2.2 q.1 q.2.1 q.2.2 g) ∧ finZ (tG p.1 p.2.1 p.2.2 q.1 q.2.1 q.2.2 g) ∧ finZ (tB p.1 p.2.1 p.2.2 q.1 q.2.1 q.2.2 g) ∧
    rnd (tR p.1 p.2.1 p.2.2 q.1 q.2.1 q.2.2 g) = o.1 ∧ rnd (tG p.1 p.2.1 p.2.2 q.1 q.2.1 q.2.2 g) = o.2.1 ∧ rnd (tB p.1 p.2.1 p.2.2 q.1 q.2.1 q.2.2 g) = o.2.2 := by
  intro p q g o
  have d : ∀ j, j < 3 → cd s c1 j + cd s c2 j + cd s (3 - c1 - c2) j = s := fun j hj => cd_sum hc1 hc2 hne hj
  have k0 := third_lin hs0 hs1 h1 h2 h3 (d 0 (by decide)) (cd_b hs0 c1 0) (cd_b hs0 c2 0) (cd_b hs0 (3 - c1 - c2) 0)
  have k1 := third_lin hs0 hs1 h1 h2 h3 (d 1 (by decide)) (cd_b hs0 c1 1) (cd_b hs0 c2 1) (cd_b hs0 (3 - c1 - c2) 1)
  have k2 := third_lin hs0 hs1 h1 h2 h3 (d 2 (by decide)) (cd_b hs0 c1 2) (cd_b hs0 c2 2) (cd_b hs0 (3 - c1 - c2) 2)
  obtain ⟨a0, a1, o1, m1, n1, g0, g1⟩ := k0
  obtain ⟨b0, b1, o2, m2, n2, _, _⟩ := k1
  obtain ⟨d0, d1, o3, m3, n3, _, _⟩ := k2
  have r := thirdR a0 a1 b0 b1 d0 d1 g0 g1 (o1 ▸ m1) (o1 ▸ n1)
  have gg := thirdG a0 a1 b0 b1 d0 d1 g0 g1 (o2 ▸ m2) (o2 ▸ n2)
  have bb := thirdB a0 a1 b0 b1 d0 d1 g0 g1 (o3 ▸ m3) (o3 ▸ n3)
  exact ⟨r.1, gg.1, bb.1, r.2.trans o1, gg.2.trans o2, bb.2.trans o3⟩
section
variable {prog : Program} {w : World} {A : Around} {E : Value → Shared → Prop} {h₀ : Heap} {L : Addr} {m : Str → Option Value} {env : Env}
inductive CEnd (h₀ : Heap) (L : Addr) (m : Str → Option Value) (s₁ : Shared) (C : Addr) (oC : Obj) (D : Addr) (ys : List Value) (own : List (Addr × Obj)) (wr : List Addr) (J : List Value → List (Addr × Obj) → Prop) (v : Value) (s' : Shared) : Prop
  | mk (h' : Heap) (tk' : Nat) (nw' : List (Addr × Obj)) (e1 : s' = { s₁ with heap := h', toks := tk' }) (e2 : Fr h₀ L h' m) (e3 : News h₀ L h' ((C, oC) :: (D, LCg.lst ys) :: (own ++ nw'))) (e4 : (∀ p ∈ nw', p.1 ≠ C ∧ p.1 ≠ D ∧ p.1 ∉ wr)) (e5 : J (ys ++ [v]) nw') : CEnd h₀ L m s₁ C oC D ys own wr J v s'
theorem off1_of {D : Addr} : ∀ {l : List (Addr × Obj)}, (∀ p ∈ l, p.1 ≠ D) → LCg.Off1 D l
  | [], _ => trivial
  | _ :: _, h => ⟨h _ List.mem_cons_self, off1_of fun p hp => h p (List.mem_cons_of_mem _ hp)⟩
theorem off1_mem {D : Addr} : ∀ {l : List (Addr × Obj)}, LCg.Off1 D l → ∀ p ∈ l, p.1 ≠ D
  | [], _, _, h => nomatch h
  | _ :: _, h, p, hp => by
    rcases List.mem_cons.mp hp with rfl | hp
    · exact h.1
    · exact off1_mem h.2 p hp
inductive CompG (prog : Program) (w : World) (A : Around) (h₀ : Heap) (L : Addr) (m : Str → Option Value) (env : Env) (elt target : PySem.Expr) (scope : Scope) (cl : List (Str × Addr)) (Fin : Shared → List Value → List (Addr × Obj) → Prop) (it : Value) (s₂ : Shared) : Prop
  | mk (I : Addr) (fp wr : List Addr) (n : Nat) (P Md : Nat → Value → Heap → Prop) (St : Nat → Heap → Prop) (news : List (Addr × Obj)) (Bd : Nat → (Str → Option Value) → Prop) (J : List Value → List (Addr × Obj) → Prop) (e1 : it = .ref I) (e2 : KTurns prog w A target I fp wr n P Md St) (e3 : (∀ (s : Shared) (Q E : Value → Shared → Prop), St 0 s.heap → Q (.ref I) s → wpAny (model prog w) A (pyIter (.ref I)) Q E s)) (e4 : n ≤ sizeLine) (e5 : St 0 s₂.heap) (e6 : (∀ b ∈ fp, b < s₂.heap.objs.size)) (e7 : Fr h₀ L s₂.heap m) (e8 : News h₀ L s₂.heap news) (e9 : L ∉ fp) (e10 : (∀ b ∈ wr, h₀.get? b = none)) (e11 : (∀ p ∈ news, p.1 ∉ wr)) (e12 : (∀ i h, St i h → ∀ b ∈ wr, ∃ o, h.get? b = some o)) (e13 : (∀ i v C (cm : Str → Option Value) h tk (Q : Unit → Shared → Prop) (E' : Value → Shared → Prop), i < n → P i v h → h.Ns C cm → (∀ h' tk' cm', h'.Ns C cm' → Bd i cm' → (∀ b o, b ≠ C → h.get? b = some o → h'.get? b = some o) → Q () { s₂ with heap := h', toks := tk' }) → wpAny (model prog w) A (assign target (compEnvC scope cl C env) v) Q E' { s₂ with heap := h, toks := tk })) (e14 : J [] news) (e15 : (∀ i ys nw C oC D cm h tk own (E' : Value → Shared → Prop), i < n → ys.length = i → J ys nw → LCg.NsObj oC cm → Bd i cm → (∀ p ∈ nw, p.1 ≠ C ∧ p.1 ≠ D ∧ p.1 ∉ wr) → C ≠ D → (∀ b ∈ wr, ∃ o, (b, o) ∈ own) → (∀ p ∈ own, p.1 ≠ C ∧ p.1 ≠ D) → Fr h₀ L h m → News h₀ L h ((C, oC) :: (D, LCg.lst ys) :: (own ++ nw)) → wpAny (model prog w) A (eval elt (compEnvC scope cl C env)) (CEnd h₀ L m { s₂ with heap := h, toks := tk } C oC D ys own wr J) E' { s₂ with heap := h, toks := tk })) (e16 : ∀ ys nw, ys.length = n → J ys nw → Fin s₂ ys nw) : CompG prog w A h₀ L m env elt target scope cl Fin it s₂
noncomputable def Scg_block : Prop := ∀ {prog : Program} {w : World} {A : Around} {E : Value → Shared → Prop} {h₀ : Heap} {L : Addr} {m : Str → Option Value} {env : Env} {elt iter target : PySem.Expr} {scope : Scope} {cl : List (Str × Addr)} {pos : Pos} {s₂ : Shared} {it : Value} {Fin : Shared → List Value → List (Addr × Obj) → Prop} {RR : Value → Addr → Result → Shared → Prop} (hcell : ∀ y ∈ scope.names, y.2 ≠ .cell) (hkind : scope.kind = .function) (G : CompG prog w A h₀ L m env elt target scope cl Fin it s₂) (hRR : ∀ D C h tk m' ys nw', Fr h₀ L h m → News h₀ L h ((D, LCg.lst ys) :: nw') → h.Ns C m' → h₀.get? C = none → C ≠ L → C ≠ D → (∀ p ∈ nw', p.1 ≠ C) → (∀ p ∈ nw', p.1 ≠ D) → Fin s₂ ys nw' → RR (.ref D) C (.ok .next) { s₂ with heap := h, toks := tk }),
    wpAny (model prog w) A (newList []) (fun acc s₃ => wpAny (model prog w) A (newFunctionEnv scope env.globals cl [] env.qual none .none (some env)) (fun cenv s₄ =>
      codeAny (model prog w) A (.compStart (.ListComp elt [⟨target, iter, [], 0⟩] scope pos) 0 it acc { cenv with scope := relabel scope env }) (RR acc cenv.locals) s₄) E s₃) E s₂
noncomputable def kTcg_block : {P : (yPR→yW→yA→yQ→yH→yN→yM→yEN→yPX→yPX→yPX→ycs→ycl→yPO→ys→yFN→yRR→yN→yAS→yAS→yN→yMD→yMD→ySH→yR→yBD→yJJ→Prop) // (∀ x1 x2 x3 x4 x5 x6 x7 x8 x9 x10 x11 x12 x13 x14 x15 x16 x17 x18 x19 x20 x21 x22 x23 x24 x25 x26 x27, P x1 x2 x3 x4 x5 x6 x7 x8 x9 x10 x11 x12 x13 x14 x15 x16 x17 x18 x19 x20 x21 x22 x23 x24 x25 x26 x27) → Scg_block} := by
  refine' ⟨_, fun hPI1 => ?main⟩
  case main =>
    unfold Scg_block
    intro prog w A E h₀ L m env elt iter target scope cl pos s₂ it Fin RR hcell hkind G hRR
    obtain ⟨I, fp, wr, n, P, Md, St, news, Bd, J, rfl, W, hself, hsz, hst, hfp, F, N, hLf, hwr, hnw, hwo, hasg, j0, helt, hfin⟩ := G
    revert hcell hkind hRR W hself hsz hst hfp F N hLf hwr hnw hwo hasg j0 helt hfin
    exact hPI1 prog w A E h₀ L m env elt iter target scope cl pos s₂ Fin RR I fp wr n P Md St news Bd J
noncomputable def pI1 (v : Vars) : Prop := kTcg_block.1 (v.PR 0) (v.W 0) (v.A 0) (v.Q 0) (v.H 0) (v.N 0) (v.M 0) (v.EN 0) (v.PX 0) (v.PX 1) (v.PX 2) (v.cs 0) (v.cl 0) (v.PO 0) (v.s 0) (v.FN 0) (v.RR 0) (v.N 1) (v.AS 0) (v.AS 1) (v.N 2) (v.MD 0) (v.MD 1) (v.SH 0) (v.R 0) (v.BD 0) (v.JJ 0)
@[irreducible] noncomputable def vI1 : Vars := hk pI1
noncomputable def ktI1 : {P : (yH→yH→Prop) // (∀ x1 x2, P x1 x2) → pI1 vI1} := by
  refine' ⟨(_ : yPR→yW→yA→yQ→yH→yN→yM→yEN→yPX→yPX→yPX→ycs→ycl→yPO→ys→yFN→yRR→yN→yAS→yAS→yN→yMD→yMD→ySH→yR→yBD→yJJ→yH→yH→Prop) (vI1.PR 0) (vI1.W 0) (vI1.A 0) (vI1.Q 0) (vI1.H 0) (vI1.N 0) (vI1.M 0) (vI1.EN 0) (vI1.PX 0) (vI1.PX 1) (vI1.PX 2) (vI1.cs 0) (vI1.cl 0) (vI1.PO 0) (vI1.s 0) (vI1.FN 0) (vI1.RR 0) (vI1.N 1) (vI1.AS 0) (vI1.AS 1) (vI1.N 2) (vI1.MD 0) (vI1.MD 1) (vI1.SH 0) (vI1.R 0) (vI1.BD 0) (vI1.JJ 0), fun hPI2 => ?main⟩
  case main =>
    intro hcell hkind hRR W hself hsz hst hfp F N hLf hwr hnw hwo hasg j0 helt hfin
    generalize vI1.PR 0 = prog, vI1.W 0 = w, vI1.A 0 = A, vI1.Q 0 = E, vI1.H 0 = h₀, vI1.N 0 = L, vI1.M 0 = m, vI1.EN 0 = env, vI1.PX 0 = elt, vI1.PX 1 = iter, vI1.PX 2 = target, vI1.cs 0 = scope, vI1.cl 0 = cl, vI1.PO 0 = pos, vI1.s 0 = s₂, vI1.FN 0 = Fin, vI1.RR 0 = RR, vI1.N 1 = I, vI1.AS 0 = fp, vI1.AS 1 = wr, vI1.N 2 = n, vI1.MD 0 = P, vI1.MD 1 = Md, vI1.SH 0 = St, vI1.R 0 = news, vI1.BD 0 = Bd, vI1.JJ 0 = J at *
    refine wpAny_newObj_type (wpAny_newFunctionEnv hcell (by intro y hy; simp at hy) (fun h₁ hns₁ hsb₁ => ?_) hkind)
    dsimp only at hns₁ hsb₁ ⊢
    generalize hH2 : s₂.heap.push { cls := .type "list", dict := none, data := .seq ([] : List Value).toArray } = H2 at hns₁ hsb₁ ⊢
    have hC : H2.objs.size = s₂.heap.objs.size + 1 := by rw [← hH2, Heap.size_push]
    have hDC : s₂.heap.objs.size ≠ H2.objs.size := by rw [hC]; exact Nat.ne_of_lt (Nat.lt_succ_self _)
    have below : ∀ b, b < s₂.heap.objs.size → b ≠ H2.objs.size ∧ b ≠ s₂.heap.objs.size := fun b hb => ⟨by rw [hC]; exact Nat.ne_of_lt (Nat.lt_succ_of_lt hb), Nat.ne_of_lt hb⟩
    have hDf : s₂.heap.objs.size ∉ fp := fun hm => Nat.lt_irrefl _ (hfp _ hm)
    have hCf : H2.objs.size ∉ fp := fun hm => by have := hfp _ hm; rw [hC] at this; exact Nat.lt_irrefl _ (Nat.lt_of_succ_lt this)
    have old : ∀ b o, s₂.heap.get? b = some o → h₁.get? b = some o := fun b o e => hsb₁.extBut b o (below b (Heap.lt_size e)).1 (Heap.get?_push_of_some _ (hH2 ▸ Heap.get?_push_of_some _ e))
    have hacc : h₁.get? s₂.heap.objs.size = some (LCg.lst []) := hsb₁.extBut _ _ hDC (Heap.get?_push_of_some _ (hH2 ▸ Heap.get?_push_size _ rfl))
    have hst₁ : St 0 h₁ := W.frame _ _ _ hst fun b _ o e => old b o e
    have fresh : ∀ a, s₂.heap.objs.size ≤ a → s₂.heap.get? a = none := fun a ha => by
      cases e : s₂.heap.get? a with
      | none => rfl
      | some o' => exact absurd (Heap.lt_size e) (Nat.not_lt.mpr ha)
    have fresh₀ : ∀ a, s₂.heap.objs.size ≤ a → h₀.get? a = none := fun a ha => by
      cases e : h₀.get? a with
      | none => rfl
      | some o' => have := F.keep a o' e; rw [fresh a ha] at this; cases this
    have hD₀ : h₀.get? s₂.heap.objs.size = none := fresh₀ _ (Nat.le_refl _)
    have hC₀ : h₀.get? H2.objs.size = none := fresh₀ _ (by rw [hC]; exact Nat.le_succ _)
    have hLlt : L < s₂.heap.objs.size := F.ns.lt
    have hDL : s₂.heap.objs.size ≠ L := Ne.symm (below L hLlt).2
    have hCL : H2.objs.size ≠ L := Ne.symm (below L hLlt).1
    have hLw : L ∉ wr := fun h => hLf (W.sub _ h)
    have hDw : s₂.heap.objs.size ∉ wr := fun h => hDf (W.sub _ h)
    have hCw : H2.objs.size ∉ wr := fun h => hCf (W.sub _ h)
    have oldw : ∀ b o, h₀.get? b = some o → b ∉ wr := fun b o e hb => by rw [hwr b hb] at e; cases e
    have off₀ : ∀ p ∈ news, p.1 ≠ H2.objs.size ∧ p.1 ≠ s₂.heap.objs.size ∧ p.1 ∉ wr := fun p hp => ⟨(below _ (Heap.lt_size (N p hp).1)).1, (below _ (Heap.lt_size (N p hp).1)).2, hnw p hp⟩
    revert hcell hkind hRR W hself hsz hst hfp F N hLf hwr hnw hwo hasg j0 helt hfin hns₁ hDC hDf hCf old hacc hst₁ hD₀ hC₀ hDL hCL hLw hDw hCw oldw off₀
    exact hPI2 h₁ H2
noncomputable def pI2 (v : Vars) : Prop := ktI1.1 (v.H 0) (v.H 1)
@[irreducible] noncomputable def vI2 : Vars := hk pI2
noncomputable def ktI2 : {P : (yH→yN→yN→yVS→yM→yR→yV→yH→yN→yH→Prop) // (∀ x1 x2 x3 x4 x5 x6 x7 x8 x9 x10, P x1 x2 x3 x4 x5 x6 x7 x8 x9 x10) → pI2 vI2} := by
  refine' ⟨(_ : yPR→yW→yA→yQ→yH→yN→yM→yEN→yPX→yPX→yPX→ycs→ycl→yPO→ys→yFN→yRR→yN→yAS→yAS→yN→yMD→yMD→ySH→yR→yBD→yJJ→yH→yH→yH→yN→yN→yVS→yM→yR→yV→yH→yN→yH→Prop) (vI1.PR 0) (vI1.W 0) (vI1.A 0) (vI1.Q 0) (vI1.H 0) (vI1.N 0) (vI1.M 0) (vI1.EN 0) (vI1.PX 0) (vI1.PX 1) (vI1.PX 2) (vI1.cs 0) (vI1.cl 0) (vI1.PO 0) (vI1.s 0) (vI1.FN 0) (vI1.RR 0) (vI1.N 1) (vI1.AS 0) (vI1.AS 1) (vI1.N 2) (vI1.MD 0) (vI1.MD 1) (vI1.SH 0) (vI1.R 0) (vI1.BD 0) (vI1.JJ 0) (vI2.H 0) (vI2.H 1), fun hPI3 => ?main⟩
  case main =>
    intro hcell hkind hRR W hself hsz hst hfp F N hLf hwr hnw hwo hasg j0 helt hfin hns₁ hDC hDf hCf old hacc hst₁ hD₀ hC₀ hDL hCL hLw hDw hCw oldw off₀
    generalize vI1.PR 0 = prog, vI1.W 0 = w, vI1.A 0 = A, vI1.Q 0 = E, vI1.H 0 = h₀, vI1.N 0 = L, vI1.M 0 = m, vI1.EN 0 = env, vI1.PX 0 = elt, vI1.PX 1 = iter, vI1.PX 2 = target, vI1.cs 0 = scope, vI1.cl 0 = cl, vI1.PO 0 = pos, vI1.s 0 = s₂, vI1.FN 0 = Fin, vI1.RR 0 = RR, vI1.N 1 = I, vI1.AS 0 = fp, vI1.AS 1 = wr, vI1.N 2 = n, vI1.MD 0 = P, vI1.MD 1 = Md, vI1.SH 0 = St, vI1.R 0 = news, vI1.BD 0 = Bd, vI1.JJ 0 = J, vI2.H 0 = h₁, vI2.H 1 = H2 at *
    have loop : ∀ s₃ : Shared, s₃ = { s₂ with heap := h₁, toks := s₂.toks + ([] : List (Str × Value)).length } →
        codeAny (model prog w) A (.compLoop (.ListComp elt [⟨target, iter, [], 0⟩] scope pos) 0 (.ref I) (.ref s₂.heap.objs.size) (compEnvC scope cl H2.objs.size env))
          (RR (.ref s₂.heap.objs.size) H2.objs.size) s₃ := by
      rintro s₃ rfl
      refine kcp_loop
        (fun k s' => ∃ h' tk i ys m' nw, s' = { s₂ with heap := h', toks := tk } ∧ i ≤ n ∧ k = n + 1 - i ∧ ys.length = i ∧ St i h' ∧ Fr h₀ L h' m ∧ h'.Ns H2.objs.size m' ∧
          News h₀ L h' ((s₂.heap.objs.size, LCg.lst ys) :: nw) ∧ (∀ p ∈ nw, p.1 ≠ H2.objs.size ∧ p.1 ≠ s₂.heap.objs.size ∧ p.1 ∉ wr) ∧ J ys nw) ?_ (n + 1)
        ⟨h₁, _, 0, [], _, news, rfl, Nat.zero_le _, rfl, rfl, hst₁, F.keeps old, hns₁, fun p hp => ?_, off₀, j0⟩
      · rintro k s' ⟨h', tk, i, ys, m', nw, rfl, hi, rfl, hyl, hst', F', hn', N', off', hJ⟩
        have next : ∀ h₂ : Heap, (∀ b o, b ∉ wr → h'.get? b = some o → h₂.get? b = some o) → Fr h₀ L h₂ m ∧ News h₀ L h₂ ((s₂.heap.objs.size, LCg.lst ys) :: nw) := fun h₂ hk₂ =>
          ⟨⟨F'.ns.at' fun o e => hk₂ _ o hLw e, fun b o e => hk₂ b o (oldw b o e) (F'.keep b o e), F'.above⟩, fun p hp => ⟨hk₂ _ _ (by
            rcases List.mem_cons.mp hp with rfl | hp
            · exact hDw
            · exact (off' p hp).2.2) (N' p hp).1, (N' p hp).2⟩⟩
        by_cases hlt : i < n
        · refine W.item i _ _ _ hlt hst' fun v h₂ tk₂ hMd hk₂ => ?_
          refine W.go i v _ _ _ hMd fun h₃ qP hst₃ hk₃ => ?_
          have up : ∀ b o, b ∉ wr → h'.get? b = some o → h₃.get? b = some o := fun b o hb e => hk₃ b o hb (hk₂ b o hb e)
          obtain ⟨F₃, N₃⟩ := next h₃ up
          revert hcell hkind hRR W hself hsz hst hfp F N hLf hwr hnw hwo hasg j0 helt hfin hDC hDf hCf hD₀ hC₀ hDL hCL hCw hi hyl hn' off' hJ hlt qP hst₃ up F₃ N₃
          exact hPI3 h' tk i ys m' nw v h₂ tk₂ h₃
        · have hin : i = n := Nat.le_antisymm hi (Nat.not_lt.mp hlt)
          subst hin
          refine W.done _ _ _ hst' fun h₂ tk₂ hk₂ => ?_
          obtain ⟨F₂, N₂⟩ := next h₂ hk₂
          exact hRR _ _ h₂ tk₂ _ ys nw F₂ N₂ (hn'.at' fun o e => hk₂ _ o hCw e) hC₀ hCL (Ne.symm hDC) (fun p hp => (off' p hp).1) (fun p hp => (off' p hp).2.1) (hfin ys nw hyl hJ)
      · rcases List.mem_cons.mp hp with rfl | hp
        · exact ⟨hacc, hDL, hD₀⟩
        · exact ⟨old _ _ (N p hp).1, (N p hp).2⟩
    exact codeAny_compStart_list (loop _ rfl) (hself _ _ _ hst₁ (loop _ rfl))
noncomputable def pI3 (v : Vars) : Prop := ktI2.1 (v.H 0) (v.N 0) (v.N 1) (v.VS 0) (v.M 0) (v.R 0) (v.V 0) (v.H 1) (v.N 2) (v.H 2)
@[irreducible] noncomputable def vI3 : Vars := hk pI3
noncomputable def ktI3 : {P : (yH→yN→yM→yO→Prop) // (∀ x1 x2 x3 x4, P x1 x2 x3 x4) → pI3 vI3} := by
  refine' ⟨(_ : yPR→yW→yA→yQ→yH→yN→yM→yEN→yPX→yPX→yPX→ycs→ycl→yPO→ys→yFN→yRR→yN→yAS→yAS→yN→yMD→yMD→ySH→yR→yBD→yJJ→yH→yH→yH→yN→yN→yVS→yM→yR→yV→yH→yN→yH→yH→yN→yM→yO→Prop) (vI1.PR 0) (vI1.W 0) (vI1.A 0) (vI1.Q 0) (vI1.H 0) (vI1.N 0) (vI1.M 0) (vI1.EN 0) (vI1.PX 0) (vI1.PX 1) (vI1.PX 2) (vI1.cs 0) (vI1.cl 0) (vI1.PO 0) (vI1.s 0) (vI1.FN 0) (vI1.RR 0) (vI1.N 1) (vI1.AS 0) (vI1.AS 1) (vI1.N 2) (vI1.MD 0) (vI1.MD 1) (vI1.SH 0) (vI1.R 0) (vI1.BD 0) (vI1.JJ 0) (vI2.H 0) (vI2.H 1) (vI3.H 0) (vI3.N 0) (vI3.N 1) (vI3.VS 0) (vI3.M 0) (vI3.R 0) (vI3.V 0) (vI3.H 1) (vI3.N 2) (vI3.H 2), fun hPI4 => ?main⟩
  case main =>
    intro hcell hkind hRR W hself hsz hst hfp F N hLf hwr hnw hwo hasg j0 helt hfin hDC hDf hCf hD₀ hC₀ hDL hCL hCw hi hyl hn' off' hJ hlt qP hst₃ up F₃ N₃
    generalize vI1.PR 0 = prog, vI1.W 0 = w, vI1.A 0 = A, vI1.Q 0 = E, vI1.H 0 = h₀, vI1.N 0 = L, vI1.M 0 = m, vI1.EN 0 = env, vI1.PX 0 = elt, vI1.PX 1 = iter, vI1.PX 2 = target, vI1.cs 0 = scope, vI1.cl 0 = cl, vI1.PO 0 = pos, vI1.s 0 = s₂, vI1.FN 0 = Fin, vI1.RR 0 = RR, vI1.N 1 = I, vI1.AS 0 = fp, vI1.AS 1 = wr, vI1.N 2 = n, vI1.MD 0 = P, vI1.MD 1 = Md, vI1.SH 0 = St, vI1.R 0 = news, vI1.BD 0 = Bd, vI1.JJ 0 = J, vI2.H 0 = h₁, vI2.H 1 = H2, vI3.H 0 = h', vI3.N 0 = tk, vI3.N 1 = i, vI3.VS 0 = ys, vI3.M 0 = m', vI3.R 0 = nw, vI3.V 0 = v, vI3.H 1 = h₂, vI3.N 2 = tk₂, vI3.H 2 = h₃ at *
    refine hasg i v H2.objs.size m' h₃ tk₂ _ _ hlt qP (hn'.at' fun o e => up _ o hCw e) fun h₄ tk₄ cm hn₄ hbd hk₄ => ?_
    have hst₄ : St (i + 1) h₄ := W.frame _ _ _ hst₃ fun b hb o e => hk₄ b o (fun q => hCf (by have q' : b = H2.objs.size := q; rw [← q']; exact hb)) e
    obtain ⟨oC, heC, hoC⟩ := LCg.ns_obj hn₄
    revert hcell hkind hRR W hself hsz hst hfp F N hLf hwr hnw hwo hasg j0 helt hfin hDC hDf hCf hD₀ hC₀ hDL hCL hi hyl off' hJ hlt F₃ N₃ hbd hk₄ hst₄ heC hoC
    exact hPI4 h₄ tk₄ cm oC
noncomputable def pI4 (v : Vars) : Prop := ktI3.1 (v.H 0) (v.N 0) (v.M 0) (v.O 0)
@[irreducible] noncomputable def vI4 : Vars := hk pI4
noncomputable def ktI4 : {P : (yV→yH→yN→yR→Prop) // (∀ x1 x2 x3 x4, P x1 x2 x3 x4) → pI4 vI4} := by
  refine' ⟨(_ : yPR→yW→yA→yQ→yH→yN→yM→yEN→yPX→yPX→yPX→ycs→ycl→yPO→ys→yFN→yRR→yN→yAS→yAS→yN→yMD→yMD→ySH→yR→yBD→yJJ→yH→yH→yH→yN→yN→yVS→yM→yR→yV→yH→yN→yH→yH→yN→yM→yO→yV→yH→yN→yR→Prop) (vI1.PR 0) (vI1.W 0) (vI1.A 0) (vI1.Q 0) (vI1.H 0) (vI1.N 0) (vI1.M 0) (vI1.EN 0) (vI1.PX 0) (vI1.PX 1) (vI1.PX 2) (vI1.cs 0) (vI1.cl 0) (vI1.PO 0) (vI1.s 0) (vI1.FN 0) (vI1.RR 0) (vI1.N 1) (vI1.AS 0) (vI1.AS 1) (vI1.N 2) (vI1.MD 0) (vI1.MD 1) (vI1.SH 0) (vI1.R 0) (vI1.BD 0) (vI1.JJ 0) (vI2.H 0) (vI2.H 1) (vI3.H 0) (vI3.N 0) (vI3.N 1) (vI3.VS 0) (vI3.M 0) (vI3.R 0) (vI3.V 0) (vI3.H 1) (vI3.N 2) (vI3.H 2) (vI4.H 0) (vI4.N 0) (vI4.M 0) (vI4.O 0), fun hPI5 => ?main⟩
  case main =>
    intro hcell hkind hRR W hself hsz hst hfp F N hLf hwr hnw hwo hasg j0 helt hfin hDC hDf hCf hD₀ hC₀ hDL hCL hi hyl off' hJ hlt F₃ N₃ hbd hk₄ hst₄ heC hoC
    generalize vI1.PR 0 = prog, vI1.W 0 = w, vI1.A 0 = A, vI1.Q 0 = E, vI1.H 0 = h₀, vI1.N 0 = L, vI1.M 0 = m, vI1.EN 0 = env, vI1.PX 0 = elt, vI1.PX 1 = iter, vI1.PX 2 = target, vI1.cs 0 = scope, vI1.cl 0 = cl, vI1.PO 0 = pos, vI1.s 0 = s₂, vI1.FN 0 = Fin, vI1.RR 0 = RR, vI1.N 1 = I, vI1.AS 0 = fp, vI1.AS 1 = wr, vI1.N 2 = n, vI1.MD 0 = P, vI1.MD 1 = Md, vI1.SH 0 = St, vI1.R 0 = news, vI1.BD 0 = Bd, vI1.JJ 0 = J, vI2.H 0 = h₁, vI2.H 1 = H2, vI3.H 0 = h', vI3.N 0 = tk, vI3.N 1 = i, vI3.VS 0 = ys, vI3.M 0 = m', vI3.R 0 = nw, vI3.V 0 = v, vI3.H 1 = h₂, vI3.N 2 = tk₂, vI3.H 2 = h₃, vI4.H 0 = h₄, vI4.N 0 = tk₄, vI4.M 0 = cm, vI4.O 0 = oC at *
    have F₄ : Fr h₀ L h₄ m := ⟨F₃.ns.at' fun o e => hk₄ _ o (Ne.symm hCL) e, fun b o e => hk₄ b o (fun q => by rw [q, hC₀] at e; cases e) (F₃.keep b o e), F₃.above⟩
    have Nown : News h₀ L h₄ (PyProof.Rows.ownOf h₀ fp h₄) := news_ownOf hLf
    have N₄ : News h₀ L h₄ ((H2.objs.size, oC) :: (s₂.heap.objs.size, LCg.lst ys) :: (PyProof.Rows.ownOf h₀ fp h₄ ++ nw)) := fun p hp => by
      rcases List.mem_cons.mp hp with rfl | hp
      · exact ⟨heC, hCL, hC₀⟩
      rcases List.mem_cons.mp hp with rfl | hp
      · have z := N₃ _ List.mem_cons_self
        exact ⟨hk₄ _ _ hDC z.1, z.2⟩
      rcases List.mem_append.mp hp with hp | hp
      · exact Nown p hp
      · have z := N₃ p (List.mem_cons_of_mem _ hp)
        exact ⟨hk₄ _ _ (off' p hp).1 z.1, z.2⟩
    refine wpAny_mono (helt i ys nw H2.objs.size oC s₂.heap.objs.size cm h₄ tk₄ (PyProof.Rows.ownOf h₀ fp h₄) _ hlt hyl hJ hoC hbd off' (Ne.symm hDC)
      (fun b hb => ?_) (fun p hp => ⟨fun e => hCf (e ▸ ownOf_sub p hp), fun e => hDf (e ▸ ownOf_sub p hp)⟩) F₄ N₄) (fun y s₅ h₅ => ?_) fun _ _ e => e
    · obtain ⟨o, q⟩ := hwo _ _ hst₄ b hb
      exact ⟨o, mem_ownOf (W.sub b hb) (hwr b hb) q⟩
    · obtain ⟨h₅, tk₅, nw₅, rfl, F₅, N₅, off₅, hJ₅⟩ := h₅
      revert hcell hkind hRR W hself hsz hst hfp F N hLf hwr hnw hwo hasg j0 helt hfin hDC hDf hD₀ hDL hi hyl hlt hst₄ hoC F₄ F₅ N₅ off₅ hJ₅
      exact hPI5 y h₅ tk₅ nw₅
noncomputable def pI5 (v : Vars) : Prop := ktI4.1 (v.V 0) (v.H 0) (v.N 0) (v.R 0)
@[irreducible] noncomputable def vI5 : Vars := hk pI5
theorem tI5 : pI5 vI5 := by
  intro hcell hkind hRR W hself hsz hst hfp F N hLf hwr hnw hwo hasg j0 helt hfin hDC hDf hD₀ hDL hi hyl hlt hst₄ hoC F₄ F₅ N₅ off₅ hJ₅
  generalize vI1.PR 0 = prog, vI1.W 0 = w, vI1.A 0 = A, vI1.Q 0 = E, vI1.H 0 = h₀, vI1.N 0 = L, vI1.M 0 = m, vI1.EN 0 = env, vI1.PX 0 = elt, vI1.PX 1 = iter, vI1.PX 2 = target, vI1.cs 0 = scope, vI1.cl 0 = cl, vI1.PO 0 = pos, vI1.s 0 = s₂, vI1.FN 0 = Fin, vI1.RR 0 = RR, vI1.N 1 = I, vI1.AS 0 = fp, vI1.AS 1 = wr, vI1.N 2 = n, vI1.MD 0 = P, vI1.MD 1 = Md, vI1.SH 0 = St, vI1.R 0 = news, vI1.BD 0 = Bd, vI1.JJ 0 = J, vI2.H 0 = h₁, vI2.H 1 = H2, vI3.H 0 = h', vI3.N 0 = tk, vI3.N 1 = i, vI3.VS 0 = ys, vI3.M 0 = m', vI3.R 0 = nw, vI3.V 0 = v, vI3.H 1 = h₂, vI3.N 2 = tk₂, vI3.H 2 = h₃, vI4.H 0 = h₄, vI4.N 0 = tk₄, vI4.M 0 = cm, vI4.O 0 = oC, vI5.V 0 = y, vI5.H 0 = h₅, vI5.N 0 = tk₅, vI5.R 0 = nw₅ at *
  have zC := (N₅ (H2.objs.size, oC) List.mem_cons_self).1
  have zD := (N₅ (s₂.heap.objs.size, LCg.lst ys) (List.mem_cons_of_mem _ List.mem_cons_self)).1
  have hst₅ : St (i + 1) h₅ := W.frame _ _ _ hst₄ fun b hb o e => by
    cases hn : h₀.get? b with
    | some o₀ =>
      have : o₀ = o := by have q := F₄.keep b o₀ hn; rw [e] at q; exact (Option.some.inj q).symm
      exact this ▸ F₅.keep b o₀ hn
    | none => exact (N₅ _ (List.mem_cons_of_mem _ (List.mem_cons_of_mem _ (List.mem_append_left _ (mem_ownOf hb hn e))))).1
  refine append_at (hsz := by show ys.toArray.size ≤ sizeLine; rw [List.size_toArray, hyl]; exact Nat.le_trans hi hsz) zD fun h₆ hs₆ hD₆ => ?_
  refine ⟨n + 1 - (i + 1), by lia, h₆, tk₅, i + 1, ys ++ [y], _, nw₅, rfl, hlt, rfl, by rw [List.length_append, List.length_singleton, hyl], W.frame _ _ _ hst₅ fun b hb o e => hs₆.extBut b o (fun q => hDf (q ▸ hb)) e, F₅.change hs₆ hDL hD₀,
    (hoC.ns zC).sameBut hs₆ (Ne.symm hDC), fun p hp => ?_, off₅, hJ₅⟩
  rcases List.mem_cons.mp hp with rfl | hp
  · exact ⟨hD₆.trans (congrArg some (LCg.lst_snoc ys y)), hDL, hD₀⟩
  · have z := N₅ p (List.mem_cons_of_mem _ (List.mem_cons_of_mem _ (List.mem_append_right _ hp)))
    exact ⟨hs₆.extBut _ _ (off₅ p hp).2.1 z.1, z.2⟩
theorem aI5 : ∀ v, pI5 v := hkv tI5 (by unfold vI5; rfl)
theorem tI4 : pI4 vI4 := ktI4.2 (fun x1 x2 x3 x4 => aI5 {d0v with H := sl x2 [], N := sl x3 [], V := sl x1 [], R := sl x4 []})
theorem aI4 : ∀ v, pI4 v := hkv tI4 (by unfold vI4; rfl)
theorem tI3 : pI3 vI3 := ktI3.2 (fun x1 x2 x3 x4 => aI4 {d0v with H := sl x1 [], N := sl x2 [], O := sl x4 [], M := sl x3 []})
theorem aI3 : ∀ v, pI3 v := hkv tI3 (by unfold vI3; rfl)
theorem tI2 : pI2 vI2 := ktI2.2 (fun x1 x2 x3 x4 x5 x6 x7 x8 x9 x10 => aI3 {d0v with H := sl x1 [x8, x10], N := sl x2 [x3, x9], V := sl x7 [], VS := sl x4 [], M := sl x5 [], R := sl x6 []})
theorem aI2 : ∀ v, pI2 v := hkv tI2 (by unfold vI2; rfl)
theorem tI1 : pI1 vI1 := ktI1.2 (fun x1 x2 => aI2 {d0v with H := sl x1 [x2]})
theorem aI1 : ∀ v, pI1 v := hkv tI1 (by unfold vI1; rfl)
theorem Tcg_block : Scg_block := kTcg_block.2 (fun x1 x2 x3 x4 x5 x6 x7 x8 x9 x10 x11 x12 x13 x14 x15 x16 x17 x18 x19 x20 x21 x22 x23 x24 x25 x26 x27 => aI1 {d0v with W := sl x2 [], cs := sl x12 [], cl := sl x13 [], A := sl x3 [], s := sl x15 [], H := sl x5 [], N := sl x6 [x18, x21], M := sl x7 [], R := sl x25 [], Q := sl x4 [], AS := sl x19 [x20], PR := sl x1 [], EN := sl x8 [], PX := sl x9 [x10, x11], PO := sl x14 [], JJ := sl x27 [], FN := sl x16 [], MD := sl x22 [x23], SH := sl x24 [], BD := sl x26 [], RR := sl x17 []})
theorem cg_block : Scg_block := Tcg_block
theorem ListComp_G {elt iter target : PySem.Expr} {scope : Scope} {cl : List (Str × Addr)} {pos : Pos} {s : Shared} {Q : Value → Shared → Prop} (F₀ : Fr h₀ L s.heap m)
    (hclos : closureFor scope env = pure cl) (hcell : ∀ y ∈ scope.names, y.2 ≠ .cell) (hkind : scope.kind = .function)
    (hnames : ∀ y ∈ scope.names, y.2 = .local → scope.names.lookup y.1 = some .local)
    (h : wpAny (model prog w) A (eval iter env) (fun xv s₁ => wpAny (model prog w) A (pyIter xv) (fun it s₂ => CompG prog w A h₀ L m env elt target scope cl (fun s₂ => LCg.FinE h₀ L m s₂ Q) it s₂) E s₁) E s)
    (hs : ∀ x, foldedSetIterable iter env x = pure x := by intro _; rfl) :
    wpAny (model prog w) A (eval (.ListComp elt [⟨target, iter, [], 0⟩] scope pos) env) Q E s := by
  rw [eval_ListComp]
  refine wpAny_comprehension_free (use := none) rfl hs hclos hkind hnames (wpAny_mono h (fun xv s₁ h₁ => wpAny_mono h₁ (fun it s₂ h₂ => ?_) fun _ _ e => e) fun _ _ e => e)
  refine cg_block hcell hkind h₂ ?_
  intro D C h tk m' ys news' F' N' hn hC₀ hCL hCD offC offD fin
  refine ⟨m', hn, fun h'' hs'' => fin D h'' tk (F'.change hs'' hCL hC₀) (fun p hp => ?_) (off1_of offD)⟩
  refine ⟨hs''.extBut _ _ ?_ (N' p hp).1, (N' p hp).2⟩
  rcases List.mem_cons.mp hp with rfl | hp
  · exact Ne.symm hCD
  · exact offC p hp
theorem Assign_ListComp_G {elt iter target : PySem.Expr} {y : Str} {py : Pos} {scope : Scope} {cl : List (Str × Addr)} {pos spos : Pos} {s : Shared} {Q : Flow → Shared → Prop} (F₀ : Fr h₀ L s.heap m) (hLe : env.locals = L)
    (hsw : swapsWith (.ListComp elt [⟨target, iter, [], 0⟩] scope pos) (some (.Name y py)) spos.line env = pure true)
    (hclos : closureFor scope env = pure cl) (hcell : ∀ z ∈ scope.names, z.2 ≠ .cell) (hkind : scope.kind = .function)
    (hnames : ∀ z ∈ scope.names, z.2 = .local → scope.names.lookup z.1 = some .local)
    (hy : env.kindOf y = some .local) (hp : (env.scope.kind == .class || (env.scope.kind == .module && env.locals != env.globals)) = false)
    (h : wpAny (model prog w) A (eval iter env) (fun xv s₁ => wpAny (model prog w) A (pyIter xv) (fun it s₂ => CompG prog w A h₀ L m env elt target scope cl (fun s₂ => LCg.FinA h₀ L m s₂ y Q) it s₂) E s₁) E s)
    (hs : ∀ x, foldedSetIterable iter env x = pure x := by intro _; rfl) :
    wpAny (model prog w) A (exec (.Assign [.Name y py] (.ListComp elt [⟨target, iter, [], 0⟩] scope pos) spos) env) Q E s := by
  subst hLe
  rw [exec_Assign_Name_used _ _ _ _ hsw]
  refine wpAny_bind (wpAny_standAt (wpAny_bind ?_))
  show wpAny _ A (do let _ ← comprehension (.ListComp elt [⟨target, iter, [], 0⟩] scope pos) scope env _ (newList []) false (eval iter env) (some (assign (.Name y py) env))) _ _ s
  refine wpAny_bind (wpAny_mono (wpAny_comprehension_free (use := some (assign (.Name y py) env)) (Q := fun _ s' => Q .next s') rfl hs hclos hkind hnames
    (wpAny_mono h (fun xv s₁ h₁ => wpAny_mono h₁ (fun it s₂ h₂ => ?_) fun _ _ e => e) fun _ _ e => e)) (fun _ s' hq => wpAny_pure (wpAny_pure hq)) fun _ _ e => e)
  refine cg_block hcell hkind h₂ ?_
  intro D C h' tk m' ys news' F' N' hn hC₀ hCL hCD offC offD fin
  show wpAny _ A (assign (.Name y py) env (.ref D)) _ _ _
  refine wpAny_assign_Name (wpAny_storeName_local hy F'.ns (fun h₂ hn₂ hs₂ => ?_) hp)
  have hL₀ : h₀.get? env.locals = none := Heap.get?_none_of_le F'.above
  have F₂ : Fr h₀ env.locals h₂ (fun z => if z = y then some (.ref D) else m z) := ⟨hn₂, fun b o e => hs₂.extBut b o (fun q => by rw [q, hL₀] at e; cases e) (F'.keep b o e), F'.above⟩
  refine ⟨m', hn.sameBut hs₂ hCL, fun h'' hs'' => fin D h'' _ (F₂.change hs'' hCL hC₀) (fun p hp => ?_) (off1_of offD)⟩
  have z : h₂.get? p.1 = some p.2 := hs₂.extBut _ _ (N' p hp).2.1 (N' p hp).1
  refine ⟨hs''.extBut _ _ ?_ z, (N' p hp).2⟩
  rcases List.mem_cons.mp hp with rfl | hp
  · exact Ne.symm hCD
  · exact offC p hp
noncomputable def CElt (prog : Program) (w : World) (A : Around) (h₀ : Heap) (L : Addr) (m : Str → Option Value) (env : Env) (elt : PySem.Expr) (scope : Scope) (cl : List (Str × Addr)) (s : Shared) (J : List Value → List (Addr × Obj) → Prop) (ys : List Value) (nw : List (Addr × Obj)) (bind : (Str → Option Value) → Prop) : Prop :=
  ∀ (C : Addr) (oC : Obj) (D : Addr) (cm : Str → Option Value) (h : Heap) (tk : Nat) (own : List (Addr × Obj)) (wr : List Addr) (E' : Value → Shared → Prop), J ys nw → LCg.NsObj oC cm → bind cm → (∀ p ∈ nw, p.1 ≠ C ∧ p.1 ≠ D ∧ p.1 ∉ wr) → C ≠ D → (∀ b ∈ wr, ∃ o, (b, o) ∈ own) → (∀ p ∈ own, p.1 ≠ C ∧ p.1 ≠ D) →
    Fr h₀ L h m → News h₀ L h ((C, oC) :: (D, LCg.lst ys) :: (own ++ nw)) →
    wpAny (model prog w) A (eval elt (compEnvC scope cl C env)) (CEnd h₀ L m { s with heap := h, toks := tk } C oC D ys own wr J) E' { s with heap := h, toks := tk }
variable {elt : PySem.Expr} {scope : Scope} {cl : List (Str × Addr)} {s : Shared} {Fin : Shared → List Value → List (Addr × Obj) → Prop} {news : List (Addr × Obj)} {x : Str} {px : Pos}
theorem asg_name (hkind : scope.kind = .function) (hx : scope.names.lookup x = some .local) {v : Value} {C : Addr} {cm : Str → Option Value} {h : Heap} {tk : Nat} {Q : Unit → Shared → Prop} {E' : Value → Shared → Prop} (hn : h.Ns C cm)
    (k : ∀ h' tk' cm', h'.Ns C cm' → cm' x = some v → (∀ b o, b ≠ C → h.get? b = some o → h'.get? b = some o) → Q () { s with heap := h', toks := tk' }) :
    wpAny (model prog w) A (assign (.Name x px) (compEnvC scope cl C env) v) Q E' { s with heap := h, toks := tk } :=
  wpAny_assign_Name (wpAny_storeName_local (lookup_relabel_local hx) hn (fun h₃ hn₃ hs₃ => k h₃ _ _ hn₃ (by simp) fun b o hb e => hs₃.extBut b o hb e) (by simp [compEnvC, relabel, hkind]))
theorem comp_list {ax : Addr} {vs : List Value} {k : Nat} (hkind : scope.kind = .function) (hx : scope.names.lookup x = some .local) (hh : A.handled = none) (F : Fr h₀ L s.heap m) (N : News h₀ L s.heap news)
    (hm : (ax, ({ cls := .type "list", data := .seq vs.toArray k } : Obj)) ∈ news) (hsz : vs.length ≤ sizeLine) (J : List Value → List (Addr × Obj) → Prop) (j0 : J [] news)
    (helt : ∀ i v ys nw, vs[i]? = some v → ys.length = i → CElt prog w A h₀ L m env elt scope cl s J ys nw fun cm => cm x = some v)
    (fin : ∀ s₂ ys nw, (∃ h, s₂ = { s with heap := h }) → ys.length = vs.length → J ys nw → Fin s₂ ys nw) :
    wpAny (model prog w) A (pyIter (.ref ax)) (fun it s₂ => CompG prog w A h₀ L m env elt (.Name x px) scope cl Fin it s₂) E s := by
  have hl : s.heap.IsList ax vs.toArray := ⟨_, (N _ hm).1, rfl, k, rfl⟩
  have hlt : ax < s.heap.objs.size := Heap.lt_size (N _ hm).1
  refine wpAny_pyIter_list hl ?_
  have up : ∀ b o, s.heap.get? b = some o → (s.heap.push { cls := .type "list_iterator", data := .fields #[.ref ax, .int 0 0] }).get? b = some o := fun b o e => Heap.get?_push_of_some _ e
  have W := Walks.list (prog := prog) (w := w) hh s.heap.objs.size ax (Nat.ne_of_lt hlt) vs.toArray
  refine ⟨s.heap.objs.size, _, _, vs.toArray.size, _, _, _, news, (fun i cm => ∀ v, vs[i]? = some v → cm x = some v), J, rfl, KTurns.ofWalks W (fun i v s Q E st q => letGo_listiter st.1 q), (fun s Q E st q => W.self 0 s Q E st q), by simpa using hsz,
    ⟨⟨_, Heap.get?_push_size _ rfl, rfl, rfl⟩, hl.push _⟩, ?_, F.keeps up, N.grown up, ?_, ?_, ?_, ?_, ?_, j0, ?_, ?_⟩
  · intro b hb
    show b < (s.heap.push _).objs.size
    rw [Heap.size_push]
    rcases List.mem_cons.mp hb with rfl | hb
    · exact Nat.lt_succ_self _
    · rw [List.mem_singleton.mp hb]; exact Nat.lt_succ_of_lt hlt
  · intro hb
    rcases List.mem_cons.mp hb with e | hb
    · exact absurd F.ns.lt (e ▸ Nat.lt_irrefl _)
    · exact (N _ hm).2.1 (List.mem_singleton.mp hb).symm
  · intro b hb
    rw [List.mem_singleton.mp hb]
    exact next_is_new F
  · intro p hp hI
    exact absurd (Heap.lt_size (N p hp).1) ((List.mem_singleton.mp hI) ▸ Nat.lt_irrefl _)
  · intro i h st b hb
    rw [List.mem_singleton.mp hb]
    obtain ⟨o, e, _⟩ := st.1
    exact ⟨o, e⟩
  · intro i v C cm h tk Q E' hi qP hn kk
    refine asg_name (s := s) hkind hx hn fun h' tk' cm' hn' hv hk => kk h' tk' cm' hn' (fun v' hv' => ?_) hk
    have qP' : vs[i]? = some v := by simpa using qP
    rw [hv'] at qP'
    cases qP'
    exact hv
  · intro i ys nw C oC D cm h tk own E' hi hyl hJ hC hb off hCD hwo hown F' N'
    have hi' : i < vs.length := by simpa using hi
    exact helt i vs[i] ys nw (List.getElem?_eq_getElem hi') hyl C oC D cm h tk own _ E' hJ hC (hb _ (List.getElem?_eq_getElem hi')) off hCD hwo hown F' N'
  · intro ys nw hyl hJ
    exact fin _ ys nw ⟨_, rfl⟩ (by simpa using hyl) hJ
theorem comp_tuple : ∀ {prog : Program} {w : World} {A : Around} {E : Value → Shared → Prop} {h₀ : Heap} {L : Addr} {m : Str → Option Value} {env : Env} {elt : PySem.Expr} {scope : Scope} {cl : List (Str × Addr)} {s : Shared} {Fin : Shared → List Value → List (Addr × Obj) → Prop} {news : List (Addr × Obj)} {x : Str} {px : Pos} {ax : Addr} {vs : List Value} {k : Nat} (hkind : scope.kind = .function) (hx : scope.names.lookup x = some .local) (hh : A.handled = none) (F : Fr h₀ L s.heap m) (N : News h₀ L s.heap news) (hm : (ax, ({ cls := .type "tuple", data := .seq vs.toArray k } : Obj)) ∈ news) (hsz : vs.length ≤ sizeLine) (J : List Value → List (Addr × Obj) → Prop) (j0 : J [] news) (helt : ∀ i v ys nw, vs[i]? = some v → ys.length = i → CElt prog w A h₀ L m env elt scope cl s J ys nw fun cm => cm x = some v) (fin : ∀ s₂ ys nw, (∃ h, s₂ = { s with heap := h }) → ys.length = vs.length → J ys nw → Fin s₂ ys nw),
    wpAny (model prog w) A (pyIter (.ref ax)) (fun it s₂ => CompG prog w A h₀ L m env elt (.Name x px) scope cl Fin it s₂) E s := by
  intro prog w A E h₀ L m env elt scope cl s Fin news x px ax vs k hkind hx hh F N hm hsz J j0 helt fin
  have hl : s.heap.IsTuple ax vs.toArray := ⟨_, (N _ hm).1, rfl, k, rfl⟩
  have hlt : ax < s.heap.objs.size := Heap.lt_size (N _ hm).1
  refine wpAny_pyIter_tuple hl ?_
  have up : ∀ b o, s.heap.get? b = some o → (s.heap.push { cls := .type "tuple_iterator", data := .fields #[.ref ax, .int 0 0] }).get? b = some o := fun b o e => Heap.get?_push_of_some _ e
  have W := Walks.tuple (prog := prog) (w := w) hh s.heap.objs.size ax (Nat.ne_of_lt hlt) vs.toArray
  refine ⟨s.heap.objs.size, _, _, vs.toArray.size, _, _, _, news, (fun i cm => ∀ v, vs[i]? = some v → cm x = some v), J, rfl, KTurns.ofWalks W (fun i v s Q E st q => letGo_tupleiter st.1 q), (fun s Q E st q => W.self 0 s Q E st q), by simpa using hsz,
    ⟨⟨_, Heap.get?_push_size _ rfl, rfl, rfl⟩, ⟨_, up _ _ (N _ hm).1, rfl, k, rfl⟩⟩, ?_, F.keeps up, N.grown up, ?_, ?_, ?_, ?_, ?_, j0, ?_, ?_⟩
  · intro b hb
    show b < (s.heap.push _).objs.size
    rw [Heap.size_push]
    rcases List.mem_cons.mp hb with rfl | hb
    · exact Nat.lt_succ_self _
    · rw [List.mem_singleton.mp hb]; exact Nat.lt_succ_of_lt hlt
  · intro hb
    rcases List.mem_cons.mp hb with e | hb
    · exact absurd F.ns.lt (e ▸ Nat.lt_irrefl _)
    · exact (N _ hm).2.1 (List.mem_singleton.mp hb).symm
  · intro b hb
    rw [List.mem_singleton.mp hb]
    exact next_is_new F
  · intro p hp hI
    exact absurd (Heap.lt_size (N p hp).1) ((List.mem_singleton.mp hI) ▸ Nat.lt_irrefl _)
  · intro i h st b hb
    rw [List.mem_singleton.mp hb]
    obtain ⟨o, e, _⟩ := st.1
    exact ⟨o, e⟩
  · intro i v C cm h tk Q E' hi qP hn kk
    refine asg_name (s := s) hkind hx hn fun h' tk' cm' hn' hv hk => kk h' tk' cm' hn' (fun v' hv' => ?_) hk
    have qP' : vs[i]? = some v := by simpa using qP
    rw [hv'] at qP'
    cases qP'
    exact hv
  · intro i ys nw C oC D cm h tk own E' hi hyl hJ hC hb off hCD hwo hown F' N'
    have hi' : i < vs.length := by simpa using hi
    exact helt i vs[i] ys nw (List.getElem?_eq_getElem hi') hyl C oC D cm h tk own _ E' hJ hC (hb _ (List.getElem?_eq_getElem hi')) off hCD hwo hown F' N'
  · intro ys nw hyl hJ
    exact fin _ ys nw ⟨_, rfl⟩ (by simpa using hyl) hJ
theorem comp_range : ∀ {prog : Program} {w : World} {A : Around} {E : Value → Shared → Prop} {h₀ : Heap} {L : Addr} {m : Str → Option Value} {env : Env} {elt : PySem.Expr} {scope : Scope} {cl : List (Str × Addr)} {s : Shared} {Fin : Shared → List Value → List (Addr × Obj) → Prop} {news : List (Addr × Obj)} {x : Str} {px : Pos} {r : Addr} {a₀ b₀ : Int} {t₀ u₀ v₀ : Tok} {n : Nat} (hkind : scope.kind = .function) (hx : scope.names.lookup x = some .local) (hh : A.handled = none) (F : Fr h₀ L s.heap m) (N : News h₀ L s.heap news) (hr : IsRange s.heap r a₀ b₀ 1 t₀ u₀ v₀) (hsmall : Builtin.Range.small a₀ b₀ 1 = true) (hn : Builtin.Range.rangeSize a₀ b₀ 1 = ((n : Nat) : Int)) (hsz : n ≤ sizeLine) (J : List Value → List (Addr × Obj) → Prop) (j0 : J [] news) (helt : ∀ i ys nw, i < n → ys.length = i → CElt prog w A h₀ L m env elt scope cl s J ys nw fun cm => ∃ t, cm x = some (.int (a₀ + (i : Int)) t)) (fin : ∀ s₂ ys nw, (∃ h, s₂ = { s with heap := h }) → ys.length = n → J ys nw → Fin s₂ ys nw),
    wpAny (model prog w) A (pyIter (.ref r)) (fun it s₂ => CompG prog w A h₀ L m env elt (.Name x px) scope cl Fin it s₂) E s := by
  intro prog w A E h₀ L m env elt scope cl s Fin news x px r a₀ b₀ t₀ u₀ v₀ n hkind hx hh F N hr hsmall hn hsz J j0 helt fin
  refine wpAny_pyIter_range hr hsmall ?_
  have W := LCg.range_walks (prog := prog) (w := w) (I := s.heap.objs.size) hh a₀ n
  refine ⟨s.heap.objs.size, _, _, n, _, _, _, news, (fun i cm => ∃ t, cm x = some (.int (a₀ + (i : Int)) t)), J, rfl, KTurns.ofWalks W ?_, (fun s Q E st q => W.self 0 s Q E st q), hsz,
    (by show IsRangeIter _ _ _ _ _; rw [hn]; simpa using Heap.get?_push_size _ rfl), ?_, F.keeps fun _ _ e => Heap.get?_push_of_some _ e, N.grown fun _ _ e => Heap.get?_push_of_some _ e, ?_, ?_, ?_, ?_, ?_, j0, ?_, ?_⟩
  · intro i v s Q E st q
    have st' : IsRangeIter s.heap _ _ _ _ := st
    unfold letOwnedTupleGo
    exact wpAny_pure q
  · intro b hb
    rw [List.mem_singleton.mp hb]
    show s.heap.objs.size < (s.heap.push _).objs.size
    rw [Heap.size_push]; exact Nat.lt_succ_self _
  · intro hb
    exact absurd F.ns.lt ((List.mem_singleton.mp hb) ▸ Nat.lt_irrefl _)
  · intro b hb
    rw [List.mem_singleton.mp hb]
    exact next_is_new F
  · intro p hp hI
    exact absurd (Heap.lt_size (N p hp).1) ((List.mem_singleton.mp hI) ▸ Nat.lt_irrefl _)
  · intro i h st b hb
    rw [List.mem_singleton.mp hb]
    exact ⟨_, st⟩
  · intro i v C cm h tk Q E' hi qP hn kk
    obtain ⟨t, rfl⟩ := qP
    exact asg_name (s := s) hkind hx hn fun h' tk' cm' hn' hv hk => kk h' tk' cm' hn' ⟨t, hv⟩ hk
  · intro i ys nw C oC D cm h tk own E' hi hyl hJ hC hb off hCD hwo hown F' N'
    exact helt i ys nw hi hyl C oC D cm h tk own _ E' hJ hC hb off hCD hwo hown F' N'
  · intro ys nw hyl hJ
    exact fin _ ys nw ⟨_, rfl⟩ hyl hJ
noncomputable def Scomp_zip : Prop := ∀ {prog : Program} {w : World} {A : Around} {E : Value → Shared → Prop} {h₀ : Heap} {L : Addr} {m : Str → Option Value} {env : Env} {elt : PySem.Expr} {scope : Scope} {cl : List (Str × Addr)} {s : Shared} {Fin : Shared → List Value → List (Addr × Obj) → Prop} {news : List (Addr × Obj)} {l1 l2 : Addr} {xs ys₀ : List Value} {n1 n2 : Nat} {a b : Str} {pa pb tp : Pos} {kk : Nat} (hkind : scope.kind = .function) (hxa : scope.names.lookup a = some .local) (hxb : scope.names.lookup b = some .local) (hab : ¬ a = b) (hh : A.handled = none) (F : Fr h₀ L s.heap m) (N : News h₀ L s.heap news) (hm1 : (l1, ({ cls := .type "list", data := .seq xs.toArray n1 } : Obj)) ∈ news) (hm2 : (l2, ({ cls := .type "list", data := .seq ys₀.toArray n2 } : Obj)) ∈ news) (hsz : min xs.length ys₀.length ≤ sizeLine) (J : List Value → List (Addr × Obj) → Prop) (j0 : J [] news) (helt : ∀ i v₁ v₂ ys nw, xs[i]? = some v₁ → ys₀[i]? = some v₂ → ys.length = i → CElt prog w A h₀ L m env elt scope cl s J ys nw fun cm => cm a = some v₁ ∧ cm b = some v₂) (fin : ∀ s₂ ys nw, (∃ h, s₂ = { s with heap := h }) → ys.length = min xs.length ys₀.length → J ys nw → Fin s₂ ys nw),
    wpAny (model prog w) A (call (.type "zip") [.ref l1, .ref l2]) (fun xv s₁ => wpAny (model prog w) A (pyIter xv) (fun it s₂ => CompG prog w A h₀ L m env elt (.Tuple [.Name a pa, .Name b pb] kk tp) scope cl Fin it s₂) E s₁) E s
noncomputable def kTcomp_zip : {P : (yPR→yW→yA→yQ→yH→yN→yM→yEN→yPX→ycs→ycl→ys→yFN→yR→yN→yN→yVS→yVS→yN→yN→ycn→ycn→yPO→yPO→yPO→yN→yJJ→yH→Prop) // (∀ x1 x2 x3 x4 x5 x6 x7 x8 x9 x10 x11 x12 x13 x14 x15 x16 x17 x18 x19 x20 x21 x22 x23 x24 x25 x26 x27 x28, P x1 x2 x3 x4 x5 x6 x7 x8 x9 x10 x11 x12 x13 x14 x15 x16 x17 x18 x19 x20 x21 x22 x23 x24 x25 x26 x27 x28) → Scomp_zip} := by
  refine' ⟨_, fun hPcza => ?main⟩
  case main =>
    unfold Scomp_zip
    intro prog w A E h₀ L m env elt scope cl s Fin news l1 l2 xs ys₀ n1 n2 a b pa pb tp kk hkind hxa hxb hab hh F N hm1 hm2 hsz J j0 helt fin
    have hl1 : s.heap.IsList l1 xs.toArray := ⟨_, (N _ hm1).1, rfl, n1, rfl⟩
    have hl2 : s.heap.IsList l2 ys₀.toArray := ⟨_, (N _ hm2).1, rfl, n2, rfl⟩
    have hlt1 : l1 < s.heap.objs.size := Heap.lt_size (N _ hm1).1
    have hlt2 : l2 < s.heap.objs.size := Heap.lt_size (N _ hm2).1
    have hLs : L < s.heap.objs.size := F.ns.lt
    have D : ZipApart (s.heap.objs.size + 4) (s.heap.objs.size + 2) (s.heap.objs.size + 3) s.heap.objs.size (s.heap.objs.size + 1) l1 l2 := ktu_apart _ _ _ hlt1 hlt2
    refine call_zip_2 hl1 hl2 fun h' hz hTI hTO hi1 hi2 hsz' hk => ?_
    revert hkind hxa hxb hab hh F N hm1 hm2 hsz j0 helt fin hl1 hl2 hlt1 hlt2 hLs D hz hTI hTO hi1 hi2 hsz' hk
    exact hPcza prog w A E h₀ L m env elt scope cl s Fin news l1 l2 xs ys₀ n1 n2 a b pa pb tp kk J h'
noncomputable def pcza (v : Vars) : Prop := kTcomp_zip.1 (v.PR 0) (v.W 0) (v.A 0) (v.Q 0) (v.H 0) (v.N 0) (v.M 0) (v.EN 0) (v.PX 0) (v.cs 0) (v.cl 0) (v.s 0) (v.FN 0) (v.R 0) (v.N 1) (v.N 2) (v.VS 0) (v.VS 1) (v.N 3) (v.N 4) (v.cn 0) (v.cn 1) (v.PO 0) (v.PO 1) (v.PO 2) (v.N 5) (v.JJ 0) (v.H 1)
@[irreducible] noncomputable def vcza : Vars := hk pcza
theorem tcza : pcza vcza := by
  intro hkind hxa hxb hab hh F N hm1 hm2 hsz j0 helt fin hl1 hl2 hlt1 hlt2 hLs D hz hTI hTO hi1 hi2 hsz' hk
  generalize vcza.PR 0 = prog, vcza.W 0 = w, vcza.A 0 = A, vcza.Q 0 = E, vcza.H 0 = h₀, vcza.N 0 = L, vcza.M 0 = m, vcza.EN 0 = env, vcza.PX 0 = elt, vcza.cs 0 = scope, vcza.cl 0 = cl, vcza.s 0 = s, vcza.FN 0 = Fin, vcza.R 0 = news, vcza.N 1 = l1, vcza.N 2 = l2, vcza.VS 0 = xs, vcza.VS 1 = ys₀, vcza.N 3 = n1, vcza.N 4 = n2, vcza.cn 0 = a, vcza.cn 1 = b, vcza.PO 0 = pa, vcza.PO 1 = pb, vcza.PO 2 = tp, vcza.N 5 = kk, vcza.JJ 0 = J, vcza.H 1 = h' at *
  refine wpAny_pyIter_zip hz ?_
  have W := KTurns.ofWalksU (elts := [.Name a pa, .Name b pb]) (k := kk) (pos := tp) (WalksT.zip2 (prog := prog) (w := w) hh _ _ _ _ _ _ _ D xs.toArray ys₀.toArray).toU
  have hmin : min xs.toArray.size ys₀.toArray.size = min xs.length ys₀.length := by simp
  refine ⟨s.heap.objs.size + 4, _, _, _, _, _, _, news, (fun i cm => ∀ v₁ v₂, xs[i]? = some v₁ → ys₀[i]? = some v₂ → cm a = some v₁ ∧ cm b = some v₂), J, rfl, W, (fun s Q E st q => wpAny_pyIter_zip st.1 q), by rw [hmin]; exact hsz, ?_, ?_, F.keeps hk, N.grown hk, ?_, ?_, ?_, ?_, ?_, j0, ?_, ?_⟩
  · exact ⟨hz, hTI, ⟨_, _, hTO⟩, hi1, hi2, hl1.at fun o e => hk _ o e, hl2.at fun o e => hk _ o e⟩
  · intro c hc
    show c < h'.objs.size
    simp only [List.mem_cons, List.not_mem_nil, or_false] at hc
    replace hlt1 := ltN hlt1
    replace hlt2 := ltN hlt2
    rcases hc with rfl | rfl | rfl | rfl | rfl | rfl | rfl <;> (refine ltN ?_; lia)
  · intro hc
    simp only [List.mem_cons, List.not_mem_nil, or_false] at hc
    rcases hc with e | e | e | e | e | e | e
    · exact absurd hLs (by rw [e]; first | exact Nat.not_lt.mpr (Nat.le_add_right _ _) | exact Nat.lt_irrefl _)
    · exact absurd hLs (by rw [e]; first | exact Nat.not_lt.mpr (Nat.le_add_right _ _) | exact Nat.lt_irrefl _)
    · exact absurd hLs (by rw [e]; first | exact Nat.not_lt.mpr (Nat.le_add_right _ _) | exact Nat.lt_irrefl _)
    · exact absurd hLs (by rw [e]; first | exact Nat.not_lt.mpr (Nat.le_add_right _ _) | exact Nat.lt_irrefl _)
    · exact absurd hLs (by rw [e]; first | exact Nat.not_lt.mpr (Nat.le_add_right _ _) | exact Nat.lt_irrefl _)
    · exact (N _ hm1).2.1 e.symm
    · exact (N _ hm2).2.1 e.symm
  · intro c hc
    simp only [List.mem_cons, List.not_mem_nil, or_false] at hc
    rcases hc with rfl | rfl | rfl | rfl
    · exact ktu_new F (Nat.le_add_right _ _)
    · exact ktu_new F (Nat.le_add_right _ _)
    · exact ktu_new F (Nat.le_refl _)
    · exact ktu_new F (Nat.le_add_right _ _)
  · intro p hp hc
    have := Heap.lt_size (N p hp).1
    simp only [List.mem_cons, List.not_mem_nil, or_false] at hc
    rcases hc with e | e | e | e <;> exact absurd this (by rw [e]; first | exact Nat.not_lt.mpr (Nat.le_add_right _ _) | exact Nat.lt_irrefl _)
  · rintro i h ⟨hz, hTI, ⟨_, _, hTO⟩, ⟨o1, ho1, _⟩, ⟨o2, ho2, _⟩, _⟩ c hc
    simp only [List.mem_cons, List.not_mem_nil, or_false] at hc
    rcases hc with rfl | rfl | rfl | rfl
    · exact ⟨_, hz⟩
    · exact ⟨_, hTO⟩
    · exact ⟨_, ho1⟩
    · exact ⟨_, ho2⟩
  · rintro i v C cm h tk Q E' hi ⟨T, vals, rfl, ⟨v₁, v₂, h1, h2, rfl⟩, hT⟩ hn kq
    refine kcp_assign (env := compEnvC scope cl C env) hh hT (lookup_relabel_local hxa) (lookup_relabel_local hxb) (by simp [compEnvC, relabel, hkind]) hn fun h₄ tk₄ hn₄ hs₄ => kq h₄ tk₄ _ hn₄ (fun w₁ w₂ e1 e2 => ?_) hs₄
    have h1' : xs[i]? = some v₁ := by simpa using h1
    have h2' : ys₀[i]? = some v₂ := by simpa using h2
    rw [e1] at h1'
    rw [e2] at h2'
    cases h1'
    cases h2'
    exact ⟨by simp [hab], by simp⟩
  · intro i ys nw C oC D' cm h tk own E' hi hyl hJ hC hb off hCD hwo hown F' N'
    rw [hmin] at hi
    have ha' : i < xs.length := by lia
    have hb' : i < ys₀.length := by lia
    exact helt i xs[i] ys₀[i] ys nw (List.getElem?_eq_getElem ha') (List.getElem?_eq_getElem hb') hyl C oC D' cm h tk own _ E' hJ hC (hb _ _ (List.getElem?_eq_getElem ha') (List.getElem?_eq_getElem hb')) off hCD hwo hown F' N'
  · intro ys nw hyl hJ
    exact fin { s with heap := h' } ys nw ⟨_, rfl⟩ (by rw [hyl, hmin]) hJ
theorem acza : ∀ v, pcza v := hkv tcza (by unfold vcza; rfl)
theorem Tcomp_zip : Scomp_zip := kTcomp_zip.2 (fun x1 x2 x3 x4 x5 x6 x7 x8 x9 x10 x11 x12 x13 x14 x15 x16 x17 x18 x19 x20 x21 x22 x23 x24 x25 x26 x27 x28 => acza {d0v with W := sl x2 [], cn := sl x21 [x22], cs := sl x10 [], cl := sl x11 [], A := sl x3 [], s := sl x12 [], H := sl x5 [x28], N := sl x6 [x15, x16, x19, x20, x26], VS := sl x17 [x18], M := sl x7 [], R := sl x14 [], Q := sl x4 [], PR := sl x1 [], EN := sl x8 [], PX := sl x9 [], PO := sl x23 [x24, x25], JJ := sl x27 [], FN := sl x13 []})
theorem comp_zip : Scomp_zip := Tcomp_zip
end
section
variable {prog : Program} {w : World} {A : Around} {R : Result → Shared → Prop} {s : Shared} {E : Value → Shared → Prop}
theorem turn2_0 (elt t1 i1 t2 i2 : PySem.Expr) (scope : Scope) (pos : Pos) (it acc : Value) (env : Env) :
    compTurn (.ListComp elt [⟨t1, i1, [], 0⟩, ⟨t2, i2, [], 0⟩] scope pos) 0 it acc env = (do
      standAt i1.pos
      match ← pyNext it with
      | none => pure (.done .next)
      | some v =>
        letOwnedTupleGo t1 it v
        assign t1 env v
        let mut ok := true
        for c in ([] : List PySem.Expr) do
          if ok then ok ← isTrue c env (eval c env)
        if ok then
          let x ← eval i2 env
          standAt i2.pos
          let x ← foldedSetIterable i2 env x
          let _ ← runOwn (.compStart (.ListComp elt [⟨t1, i1, [], 0⟩, ⟨t2, i2, [], 0⟩] scope pos) 1 (← holding [x] (pyIter x)) acc env) env
        again (.compLoop (.ListComp elt [⟨t1, i1, [], 0⟩, ⟨t2, i2, [], 0⟩] scope pos) 0 it acc env)) := by rfl
theorem turn2_1 (elt t1 i1 t2 i2 : PySem.Expr) (scope : Scope) (pos : Pos) (it acc : Value) (env : Env) :
    compTurn (.ListComp elt [⟨t1, i1, [], 0⟩, ⟨t2, i2, [], 0⟩] scope pos) 1 it acc env = (do
      standAt i2.pos
      match ← pyNext it with
      | none => pure (.done .next)
      | some v =>
        letOwnedTupleGo t2 it v
        assign t2 env v
        let mut ok := true
        for c in ([] : List PySem.Expr) do
          if ok then ok ← isTrue c env (eval c env)
        if ok then
          (do let _ ← call (.builtin "list.append") [acc, ← eval elt env])
        again (.compLoop (.ListComp elt [⟨t1, i1, [], 0⟩, ⟨t2, i2, [], 0⟩] scope pos) 1 it acc env)) := by rfl
theorem comp2_inner {elt t1 i1 t2 i2 : PySem.Expr} {scope : Scope} {pos : Pos} {it acc : Value} {env : Env} (I : Nat → Shared → Prop)
    (turn : ∀ n s, I n s → wpAny (model prog w) A (pyNext it) (fun r s₁ => match r with
      | none => R (.ok .next) s₁
      | some v => wpAny (model prog w) A (letOwnedTupleGo t2 it v) (fun _ s₀ => wpAny (model prog w) A (assign t2 env v) (fun _ s₂ =>
          wpAny (model prog w) A (eval elt env) (fun x s₄ =>
            wpAny (model prog w) A (call (.builtin "list.append") [acc, x]) (fun _ s₅ => ∃ m, m < n ∧ I m s₅) (notedBy (model prog w) A env fun e s' => R (.error e) s') s₄) (notedBy (model prog w) A env fun e s' => R (.error e) s') s₂)
          (notedBy (model prog w) A env fun e s' => R (.error e) s') s₀) (notedBy (model prog w) A env fun e s' => R (.error e) s') s₁) (notedBy (model prog w) A env fun e s' => R (.error e) s') s)
    (n : Nat) (h : I n s) : codeAny (model prog w) A (.compLoop (.ListComp elt [⟨t1, i1, [], 0⟩, ⟨t2, i2, [], 0⟩] scope pos) 1 it acc env) R s := by
  refine codeAny_loop rfl I (fun n s hI => ?_) n h
  show wpAny _ A ((compTurn (.ListComp elt [⟨t1, i1, [], 0⟩, ⟨t2, i2, [], 0⟩] scope pos) 1 it acc env).onRaise (fun x => do noteFrame x env; theTreesLotGoes x)) _ _ s
  refine wpAny_noted ?_
  rw [turn2_1]
  refine wpAny_bind (wpAny_standAt (wpAny_bind (wpAny_mono (turn n s hI) (fun r s₁ h₁ => ?_) fun _ _ h' => h')))
  cases r with
  | none => exact wpAny_pure h₁
  | some v =>
    refine wpAny_bind (wpAny_mono h₁ (fun _ s₀ h₀' => ?_) fun _ _ h' => h')
    refine wpAny_bind (wpAny_mono h₀' (fun _ s₂ h₂ => ?_) fun _ _ h' => h')
    refine wpAny_bind (wpAny_tests_nil ?_)
    exact wpAny_bind (wpAny_bind (wpAny_mono h₂ (fun x s₄ h₄ => wpAny_bind (wpAny_mono h₄ (fun _ s₅ h₅ => wpAny_pure (wpAny_pure ⟨rfl, h₅⟩)) fun _ _ h' => h')) fun _ _ h' => h'))
theorem comp2_outer {elt t1 i1 t2 i2 : PySem.Expr} {scope : Scope} {pos : Pos} {it acc : Value} {env : Env} (I : Nat → Shared → Prop)
    (hs : ∀ x, foldedSetIterable i2 env x = pure x)
    (turn : ∀ n s, I n s → wpAny (model prog w) A (pyNext it) (fun r s₁ => match r with
      | none => R (.ok .next) s₁
      | some v => wpAny (model prog w) A (letOwnedTupleGo t1 it v) (fun _ s₀ => wpAny (model prog w) A (assign t1 env v) (fun _ s₂ =>
          wpAny (model prog w) A (eval i2 env) (fun x s₄ =>
            wpAny (model prog w) A (pyIter x) (fun it2 s₅ => codeAny (model prog w) A (.compStart (.ListComp elt [⟨t1, i1, [], 0⟩, ⟨t2, i2, [], 0⟩] scope pos) 1 it2 acc env)
              (fun r s₆ => match r with | .ok _ => ∃ m, m < n ∧ I m s₆ | .error e => cameBackBy (model prog w) A env (notedBy (model prog w) A env fun e s' => R (.error e) s') e s₆) s₅) (notedBy (model prog w) A env fun e s' => R (.error e) s') s₄) (notedBy (model prog w) A env fun e s' => R (.error e) s') s₂)
          (notedBy (model prog w) A env fun e s' => R (.error e) s') s₀) (notedBy (model prog w) A env fun e s' => R (.error e) s') s₁) (notedBy (model prog w) A env fun e s' => R (.error e) s') s)
    (n : Nat) (h : I n s) : codeAny (model prog w) A (.compLoop (.ListComp elt [⟨t1, i1, [], 0⟩, ⟨t2, i2, [], 0⟩] scope pos) 0 it acc env) R s := by
  refine codeAny_loop rfl I (fun n s hI => ?_) n h
  show wpAny _ A ((compTurn (.ListComp elt [⟨t1, i1, [], 0⟩, ⟨t2, i2, [], 0⟩] scope pos) 0 it acc env).onRaise (fun x => do noteFrame x env; theTreesLotGoes x)) _ _ s
  refine wpAny_noted ?_
  rw [turn2_0]
  refine wpAny_bind (wpAny_standAt (wpAny_bind (wpAny_mono (turn n s hI) (fun r s₁ h₁ => ?_) fun _ _ h' => h')))
  cases r with
  | none => exact wpAny_pure h₁
  | some v =>
    refine wpAny_bind (wpAny_mono h₁ (fun _ s₀ h₀' => ?_) fun _ _ h' => h')
    refine wpAny_bind (wpAny_mono h₀' (fun _ s₂ h₂ => ?_) fun _ _ h' => h')
    refine wpAny_bind (wpAny_tests_nil ?_)
    refine wpAny_bind (wpAny_mono h₂ (fun x s₄ h₄ => ?_) fun _ _ h' => h')
    refine wpAny_bind (wpAny_standAt ?_)
    refine wpAny_bind (wpAny_of_eq (hs x) ?_)
    refine wpAny_bind (wpAny_holding (wpAny_mono h₄ (fun it2 s₅ h₅ => ?_) fun _ _ h' => h'))
    refine wpAny_bind (wpAny_runOwn (codeAny_mono h₅ fun r s₆ h₆ => ?_))
    cases r with
    | ok f => exact wpAny_pure ⟨rfl, h₆⟩
    | error e => exact h₆
theorem comp2_start {elt t1 i1 t2 i2 : PySem.Expr} {scope : Scope} {pos : Pos} {it acc : Value} {env : Env}
    (h0 : codeAny (model prog w) A (.compLoop (.ListComp elt [⟨t1, i1, [], 0⟩, ⟨t2, i2, [], 0⟩] scope pos) 1 it acc env) R s)
    (h : wpAny (model prog w) A (pyIter it) (fun it' s' => codeAny (model prog w) A (.compLoop (.ListComp elt [⟨t1, i1, [], 0⟩, ⟨t2, i2, [], 0⟩] scope pos) 1 it' acc env) R s')
      (notedBy (model prog w) A env fun x s' => R (.error x) s') s) :
    codeAny (model prog w) A (.compStart (.ListComp elt [⟨t1, i1, [], 0⟩, ⟨t2, i2, [], 0⟩] scope pos) 1 it acc env) R s := by
  refine codeAny_of_tree ?_
  show wpAny _ _ ((compStart (.ListComp elt [⟨t1, i1, [], 0⟩, ⟨t2, i2, [], 0⟩] scope pos) 1 it acc env).onRaise (fun x => do noteFrame x env; standAt theWindowsPlace)) _ _ s
  refine wpAny_notedAt ?_
  unfold compStart
  show wpAny _ _ (ask >>= _) _ _ s
  refine wpAny_bind (wpAny_askSetting (wpAny_ite ?_))
  split
  · first
      | exact wpAny_bind (wpAny_pure (wpAny_pure (And.intro rfl h0)))
      | exact wpAny_pure (And.intro rfl h0)
  · first
      | exact wpAny_bind (wpAny_rule (wpAny_bind (wpAny_standAt (wpAny_bind (wpAny_mono h (fun it' s' h' => wpAny_pure (And.intro rfl h')) fun _ _ x => x)))))
      | (refine wpAny_bind (wpAny_rule ?_); show wpAny _ _ (standAt i2.pos >>= _) _ _ s; exact wpAny_bind (wpAny_standAt (wpAny_bind (wpAny_mono h (fun it' s' h' => wpAny_pure (And.intro rfl h')) fun _ _ x => x))))
end
section
variable {prog : Program} {w : World} {A : Around} {E : Value → Shared → Prop} {h₀ : Heap} {L : Addr} {m : Str → Option Value} {env : Env}
noncomputable def flat2 (zs : Nat → List Value) (i : Nat) : List Value := (List.range i).flatMap zs
theorem flat2_succ (zs : Nat → List Value) (i : Nat) : flat2 zs (i + 1) = flat2 zs i ++ zs i := by
  unfold flat2; rw [List.range_succ, List.flatMap_append]; simp
theorem flat2_len {zs : Nat → List Value} {sz : Nat} (h : ∀ i, (zs i).length ≤ sz) : ∀ i, (flat2 zs i).length ≤ i * sz
  | 0 => Nat.zero_le _
  | i + 1 => by rw [flat2_succ, List.length_append, Nat.succ_mul]; have := h i; have := flat2_len h i; lia
noncomputable def SListComp2 : Prop := ∀ {prog : Program} {w : World} {A : Around} {E : Value → Shared → Prop} {h₀ : Heap} {L : Addr} {m : Str → Option Value} {env : Env} {i1 i2 : PySem.Expr} {x z : Str} {px pz pe : Pos} {scope : Scope} {cl : List (Str × Addr)} {pos : Pos} {s : Shared} {Q : Value → Shared → Prop} {news : List (Addr × Obj)} {ax : Addr} {vs : List Value} {k : Nat} {zs : Nat → List Value} {sz : Nat} (hclos : closureFor scope env = pure cl) (hcell : ∀ y ∈ scope.names, y.2 ≠ .cell) (hkind : scope.kind = .function) (hnames : ∀ y ∈ scope.names, y.2 = .local → scope.names.lookup y.1 = some .local) (hx : scope.names.lookup x = some .local) (hz : scope.names.lookup z = some .local) (hh : A.handled = none) (hdz : (z == ("__debug__" : Str)) = false) (F : Fr h₀ L s.heap m) (N : News h₀ L s.heap news) (hi1 : ∀ (Q : Value → Shared → Prop), Q (.ref ax) s → wpAny (model prog w) A (eval i1 env) Q E s) (hm : (ax, ({ cls := .type "list", data := .seq vs.toArray k } : Obj)) ∈ news) (hvl : vs.length ≤ 1000) (hsz : ∀ i, (zs i).length ≤ sz) (hszl : sz ≤ 1000) (hs : ∀ x, foldedSetIterable i1 env x = pure x) (hs2 : ∀ env x, foldedSetIterable i2 env x = pure x) (hin : ∀ i v, vs[i]? = some v → ∃ b n, (b, ({ cls := .type "list", data := .seq (zs i).toArray n } : Obj)) ∈ news ∧
      ∀ (I : Addr) (oI : Obj) (C : Addr) (oC : Obj) (D : Addr) (oD : Obj) (cm : Str → Option Value) (h : Heap) (tk : Nat) (E' : Value → Shared → Prop), LCg.NsObj oC cm → cm x = some v → (∀ p ∈ news, p.1 ≠ I ∧ p.1 ≠ C ∧ p.1 ≠ D) →
        Fr h₀ L h m → News h₀ L h ((I, oI) :: (C, oC) :: (D, oD) :: news) →
        wpAny (model prog w) A (eval i2 (compEnvC scope cl C env)) (fun u s' => u = .ref b ∧ ∃ tk', s' = { s with heap := h, toks := tk' }) E' { s with heap := h, toks := tk }) (hfin : ∀ D h' tk, Fr h₀ L h' m → News h₀ L h' ((D, LCg.lst (flat2 zs vs.length)) :: news) → (∀ p ∈ news, p.1 ≠ D) → Q (.ref D) { s with heap := h', toks := tk }),
    wpAny (model prog w) A (eval (.ListComp (.Name z pe) [⟨.Name x px, i1, [], 0⟩, ⟨.Name z pz, i2, [], 0⟩] scope pos) env) Q E s
noncomputable def kTListComp2 : {P : (yPR→yW→yA→yQ→yH→yN→yM→yEN→yPX→yPX→ycn→ycn→yPO→yPO→yPO→ycs→ycl→yPO→ys→yQ→yR→yN→yVS→yN→yZS→yN→Prop) // (∀ x1 x2 x3 x4 x5 x6 x7 x8 x9 x10 x11 x12 x13 x14 x15 x16 x17 x18 x19 x20 x21 x22 x23 x24 x25 x26, P x1 x2 x3 x4 x5 x6 x7 x8 x9 x10 x11 x12 x13 x14 x15 x16 x17 x18 x19 x20 x21 x22 x23 x24 x25 x26) → SListComp2} := by
  refine' ⟨_, fun hPl2a => ?main⟩
  case main =>
    unfold SListComp2
    intro prog w A E h₀ L m env i1 i2 x z px pz pe scope cl pos s Q news ax vs k zs sz hclos hcell hkind hnames hx hz hh hdz F N hi1 hm hvl hsz hszl hs hs2 hin hfin
    rw [eval_ListComp]
    refine wpAny_comprehension_free (use := none) rfl hs hclos hkind hnames (hi1 _ ?_)
    revert hclos hcell hkind hnames hx hz hh hdz F N hi1 hm hvl hsz hszl hs hs2 hin hfin
    exact hPl2a prog w A E h₀ L m env i1 i2 x z px pz pe scope cl pos s Q news ax vs k zs sz
noncomputable def pl2a (v : Vars) : Prop := kTListComp2.1 (v.PR 0) (v.W 0) (v.A 0) (v.Q 0) (v.H 0) (v.N 0) (v.M 0) (v.EN 0) (v.PX 0) (v.PX 1) (v.cn 0) (v.cn 1) (v.PO 0) (v.PO 1) (v.PO 2) (v.cs 0) (v.cl 0) (v.PO 3) (v.s 0) (v.Q 1) (v.R 0) (v.N 1) (v.VS 0) (v.N 2) (v.ZS 0) (v.N 3)
@[irreducible] noncomputable def vl2a : Vars := hk pl2a
noncomputable def ktl2a : {P : (yN→yH→yH→yH→yN→yN→Prop) // (∀ x1 x2 x3 x4 x5 x6, P x1 x2 x3 x4 x5 x6) → pl2a vl2a} := by
  refine' ⟨(_ : yPR→yW→yA→yQ→yH→yN→yM→yEN→yPX→yPX→ycn→ycn→yPO→yPO→yPO→ycs→ycl→yPO→ys→yQ→yR→yN→yVS→yN→yZS→yN→yN→yH→yH→yH→yN→yN→Prop) (vl2a.PR 0) (vl2a.W 0) (vl2a.A 0) (vl2a.Q 0) (vl2a.H 0) (vl2a.N 0) (vl2a.M 0) (vl2a.EN 0) (vl2a.PX 0) (vl2a.PX 1) (vl2a.cn 0) (vl2a.cn 1) (vl2a.PO 0) (vl2a.PO 1) (vl2a.PO 2) (vl2a.cs 0) (vl2a.cl 0) (vl2a.PO 3) (vl2a.s 0) (vl2a.Q 1) (vl2a.R 0) (vl2a.N 1) (vl2a.VS 0) (vl2a.N 2) (vl2a.ZS 0) (vl2a.N 3), fun hPl2b => ?main⟩
  case main =>
    intro hclos hcell hkind hnames hx hz hh hdz F N hi1 hm hvl hsz hszl hs hs2 hin hfin
    generalize vl2a.PR 0 = prog, vl2a.W 0 = w, vl2a.A 0 = A, vl2a.Q 0 = E, vl2a.H 0 = h₀, vl2a.N 0 = L, vl2a.M 0 = m, vl2a.EN 0 = env, vl2a.PX 0 = i1, vl2a.PX 1 = i2, vl2a.cn 0 = x, vl2a.cn 1 = z, vl2a.PO 0 = px, vl2a.PO 1 = pz, vl2a.PO 2 = pe, vl2a.cs 0 = scope, vl2a.cl 0 = cl, vl2a.PO 3 = pos, vl2a.s 0 = s, vl2a.Q 1 = Q, vl2a.R 0 = news, vl2a.N 1 = ax, vl2a.VS 0 = vs, vl2a.N 2 = k, vl2a.ZS 0 = zs, vl2a.N 3 = sz at *
    have hl : s.heap.IsList ax vs.toArray := ⟨_, (N _ hm).1, rfl, k, rfl⟩
    have hlt : ax < s.heap.objs.size := Heap.lt_size (N _ hm).1
    refine wpAny_pyIter_list hl ?_
    generalize hI : s.heap.objs.size = I at *
    generalize hH1 : s.heap.push { cls := .type "list_iterator", data := .fields #[.ref ax, .int 0 0] } = H1
    have up1 : ∀ b o, s.heap.get? b = some o → H1.get? b = some o := fun b o e => by rw [← hH1]; exact Heap.get?_push_of_some _ e
    have it1 : H1.IsListIter I ax 0 := by rw [← hH1, ← hI]; exact ⟨_, Heap.get?_push_size _ rfl, rfl, rfl⟩
    have hs1 : H1.objs.size = I + 1 := by rw [← hH1, Heap.size_push, hI]
    have F1 : Fr h₀ L H1 m := F.keeps up1
    have N1 : News h₀ L H1 news := N.grown up1
    have ltN1 : ∀ p ∈ news, p.1 < I := fun p hp => by rw [← hI]; exact Heap.lt_size (N p hp).1
    have hLI : L < I := by rw [← hI]; exact F.ns.lt
    have fresh₀ : ∀ a, I ≤ a → h₀.get? a = none := fun a ha => by
      cases e : h₀.get? a with
      | none => rfl
      | some o' =>
        have q := Heap.lt_size (F.keep a o' e)
        rw [hI] at q
        exact absurd q (Nat.not_lt.mpr ha)
    refine wpAny_newObj_type (wpAny_newFunctionEnv hcell (by intro y hy; simp at hy) (fun h₁ hns₁ hsb₁ => ?_) hkind)
    dsimp only at hns₁ hsb₁ ⊢
    generalize hH2 : H1.push { cls := .type "list", dict := none, data := .seq ([] : List Value).toArray } = H2 at hns₁ hsb₁ ⊢
    have hC : H2.objs.size = I + 1 + 1 := by rw [← hH2, Heap.size_push, hs1]
    rw [hC] at hns₁ hsb₁ ⊢
    rw [hs1]
    generalize hDe : I + 1 = D at *
    generalize hCe : D + 1 = C at *
    have nID : I ≠ D := by rw [← hDe]; exact Nat.ne_of_lt (Nat.lt_succ_self _)
    have nDC : D ≠ C := by rw [← hCe]; exact Nat.ne_of_lt (Nat.lt_succ_self _)
    have nIC : I ≠ C := by rw [← hCe, ← hDe]; exact Nat.ne_of_lt (Nat.lt_succ_of_lt (Nat.lt_succ_self _))
    have hID : I < D := by rw [← hDe]; exact Nat.lt_succ_self _
    have hDC : D < C := by rw [← hCe]; exact Nat.lt_succ_self _
    have offN : ∀ p ∈ news, p.1 ≠ I ∧ p.1 ≠ C ∧ p.1 ≠ D := fun p hp =>
      ⟨Nat.ne_of_lt (ltN1 p hp), Nat.ne_of_lt (Nat.lt_trans (ltN1 p hp) (Nat.lt_trans hID hDC)), Nat.ne_of_lt (Nat.lt_trans (ltN1 p hp) hID)⟩
    have old : ∀ b o, H1.get? b = some o → h₁.get? b = some o := fun b o e => by
      have hb : b < D := by rw [← hs1]; exact Heap.lt_size e
      exact hsb₁.extBut b o (Nat.ne_of_lt (Nat.lt_trans hb hDC)) (Heap.get?_push_of_some _ (hH2 ▸ Heap.get?_push_of_some _ e))
    have hacc : h₁.get? D = some (LCg.lst []) := hsb₁.extBut _ _ nDC (Heap.get?_push_of_some _ (by rw [← hH2, ← hs1]; exact Heap.get?_push_size _ rfl))
    have hL0 : ∀ a, I ≤ a → a ≠ L ∧ h₀.get? a = none := fun a ha => ⟨Ne.symm (Nat.ne_of_lt (Nat.lt_of_lt_of_le hLI ha)), fresh₀ a ha⟩
    have hID' : I ≤ D := Nat.le_of_lt hID
    have hIC' : I ≤ C := Nat.le_of_lt (Nat.lt_trans hID hDC)
    have stepF : ∀ {h h' : Heap} {b : Addr}, I ≤ b → Fr h₀ L h m → (∀ c o, c ≠ b → h.get? c = some o → h'.get? c = some o) → Fr h₀ L h' m := fun {h h' b} hb G e =>
      ⟨G.ns.at' fun o q => e _ o (Ne.symm (hL0 b hb).1) q, fun c o q => e c o (fun z => by rw [z, (hL0 b hb).2] at q; cases q) (G.keep c o q), G.above⟩
    have stepN : ∀ {h h' : Heap} {b : Addr} {l : List (Addr × Obj)}, News h₀ L h l → (∀ c o, c ≠ b → h.get? c = some o → h'.get? c = some o) → (∀ p ∈ l, p.1 ≠ b) → News h₀ L h' l := fun {h h' b l} G e off p hp => ⟨e _ _ (off p hp) (G p hp).1, (G p hp).2⟩
    have consOff : ∀ {b : Addr} {o : Obj} {c : Addr}, b ≠ c → (∀ p ∈ news, p.1 ≠ c) → ∀ p ∈ (b, o) :: news, p.1 ≠ c := fun hb hn p hp => by
      rcases List.mem_cons.mp hp with rfl | hp
      · exact hb
      · exact hn p hp
    have NlistOf : ∀ {h : Heap} {l : List (Addr × Obj)} {b : Addr} {us : List Value} {n : Nat}, News h₀ L h l → (b, ({ cls := .type "list", data := .seq us.toArray n } : Obj)) ∈ l → h.IsList b us.toArray := fun G hm => ⟨_, (G _ hm).1, rfl, _, rfl⟩
    revert hclos hcell hkind hnames hx hz hh hdz F N hi1 hm hvl hsz hszl hs hs2 hin hfin hl hI hlt hH1 up1 it1 F1 N1 ltN1 hLI fresh₀ hH2 hDe hs1 hCe hns₁ hsb₁ hC nID nDC nIC hID hDC offN old hacc hL0 hID' hIC' stepF stepN consOff NlistOf
    exact hPl2b I H1 h₁ H2 D C
noncomputable def pl2b (v : Vars) : Prop := ktl2a.1 (v.N 0) (v.H 0) (v.H 1) (v.H 2) (v.N 1) (v.N 2)
@[irreducible] noncomputable def vl2b : Vars := hk pl2b
noncomputable def ktl2b : {P : (yH→yN→yN→yM→yH→yH→yN→yM→Prop) // (∀ x1 x2 x3 x4 x5 x6 x7 x8, P x1 x2 x3 x4 x5 x6 x7 x8) → pl2b vl2b} := by
  refine' ⟨(_ : yPR→yW→yA→yQ→yH→yN→yM→yEN→yPX→yPX→ycn→ycn→yPO→yPO→yPO→ycs→ycl→yPO→ys→yQ→yR→yN→yVS→yN→yZS→yN→yN→yH→yH→yH→yN→yN→yH→yN→yN→yM→yH→yH→yN→yM→Prop) (vl2a.PR 0) (vl2a.W 0) (vl2a.A 0) (vl2a.Q 0) (vl2a.H 0) (vl2a.N 0) (vl2a.M 0) (vl2a.EN 0) (vl2a.PX 0) (vl2a.PX 1) (vl2a.cn 0) (vl2a.cn 1) (vl2a.PO 0) (vl2a.PO 1) (vl2a.PO 2) (vl2a.cs 0) (vl2a.cl 0) (vl2a.PO 3) (vl2a.s 0) (vl2a.Q 1) (vl2a.R 0) (vl2a.N 1) (vl2a.VS 0) (vl2a.N 2) (vl2a.ZS 0) (vl2a.N 3) (vl2b.N 0) (vl2b.H 0) (vl2b.H 1) (vl2b.H 2) (vl2b.N 1) (vl2b.N 2), fun hPl2c => ?main⟩
  case main =>
    intro hclos hcell hkind hnames hx hz hh hdz F N hi1 hm hvl hsz hszl hs hs2 hin hfin hl hI hlt hH1 up1 it1 F1 N1 ltN1 hLI fresh₀ hH2 hDe hs1 hCe hns₁ hsb₁ hC nID nDC nIC hID hDC offN old hacc hL0 hID' hIC' stepF stepN consOff NlistOf
    generalize vl2a.PR 0 = prog, vl2a.W 0 = w, vl2a.A 0 = A, vl2a.Q 0 = E, vl2a.H 0 = h₀, vl2a.N 0 = L, vl2a.M 0 = m, vl2a.EN 0 = env, vl2a.PX 0 = i1, vl2a.PX 1 = i2, vl2a.cn 0 = x, vl2a.cn 1 = z, vl2a.PO 0 = px, vl2a.PO 1 = pz, vl2a.PO 2 = pe, vl2a.cs 0 = scope, vl2a.cl 0 = cl, vl2a.PO 3 = pos, vl2a.s 0 = s, vl2a.Q 1 = Q, vl2a.R 0 = news, vl2a.N 1 = ax, vl2a.VS 0 = vs, vl2a.N 2 = k, vl2a.ZS 0 = zs, vl2a.N 3 = sz, vl2b.N 0 = I, vl2b.H 0 = H1, vl2b.H 1 = h₁, vl2b.H 2 = H2, vl2b.N 1 = D, vl2b.N 2 = C at *
    have loop : ∀ s₃ : Shared, s₃ = { s with heap := h₁, toks := s.toks + ([] : List (Str × Value)).length } →
        codeAny (model prog w) A (.compLoop (.ListComp (.Name z pe) [⟨.Name x px, i1, [], 0⟩, ⟨.Name z pz, i2, [], 0⟩] scope pos) 0 (.ref I) (.ref D) (compEnvC scope cl C env))
          (compPost (model prog w) A E none Q (.ref D) C) s₃ := by
      rintro s₃ rfl
      refine comp2_outer
        (fun kk s' => ∃ h' tk i m', s' = { s with heap := h', toks := tk } ∧ i ≤ vs.length ∧ kk = vs.length + 1 - i ∧ h'.IsListIter I ax i ∧ Fr h₀ L h' m ∧ h'.Ns C m' ∧
          News h₀ L h' ((D, LCg.lst (flat2 zs i)) :: news)) (hs2 _) ?_ (vs.length + 1)
        ⟨h₁, _, 0, _, rfl, Nat.zero_le _, rfl, it1.at fun o e => old _ _ e, F1.keeps old, hns₁, fun p hp => ?_⟩
      · rintro kk s' ⟨h', tk, i, m', rfl, hi, rfl, hit, F', hn', N'⟩
        have Nn : News h₀ L h' news := fun p hp => N' p (List.mem_cons_of_mem _ hp)
        by_cases hlt' : i < vs.length
        · refine wpAny_pyNext_list_item hit (NlistOf Nn hm) (x := vs[i]) (by simpa using List.getElem?_eq_getElem hlt') fun h2 hit2 hs2' => ?_
          have e2 : ∀ c o, c ≠ I → h'.get? c = some o → h2.get? c = some o := fun c o hc e => hs2'.extBut c o hc e
          have F2 := stepF (Nat.le_refl I) F' e2
          have N2 := stepN N' e2 (consOff (Ne.symm nID) fun p hp => (offN p hp).1)
          have hn2 : h2.Ns C m' := hn'.at' fun o e => e2 _ o (Ne.symm nIC) e
          refine wpAny_pure ?_
          refine asg_name (s := s) hkind hx hn2 fun h3 tk3 cm hn3 hv3 e3 => ?_
          revert hclos hcell hkind hnames hx hz hh hdz F N hi1 hm hvl hsz hszl hs hs2 hin hfin hl hI hlt hH1 up1 it1 F1 N1 ltN1 hLI fresh₀ hH2 hDe hs1 hCe hns₁ hsb₁ hC nID nDC nIC hID hDC offN old hacc hL0 hID' hIC' stepF stepN consOff NlistOf hi hit F' hn' N' Nn hlt' hit2 hs2' e2 F2 N2 hn2 hn3 hv3 e3
          exact hPl2c h' tk i m' h2 h3 tk3 cm
        · have hin' : i = vs.length := Nat.le_antisymm hi (Nat.not_lt.mp hlt')
          subst hin'
          refine wpAny_pyNext_list_end hh hit (NlistOf Nn hm) (by simp) fun h2 e2 => ?_
          have e2' : ∀ c o, c ≠ I → h'.get? c = some o → h2.get? c = some o := fun c o hc e => e2 c o hc e
          have F2 := stepF (Nat.le_refl I) F' e2'
          have N2 := stepN N' e2' (consOff (Ne.symm nID) fun p hp => (offN p hp).1)
          refine ⟨m', hn'.at' fun o e => e2' _ o (Ne.symm nIC) e, fun h'' hs'' => hfin D h'' tk (F2.change hs'' (hL0 C hIC').1 (hL0 C hIC').2) (fun p hp => ?_) (fun p hp => (offN p hp).2.2)⟩
          exact ⟨hs''.extBut _ _ (consOff (o := LCg.lst (flat2 zs vs.length)) nDC (fun p hp => (offN p hp).2.1) p hp) (N2 p hp).1, (N2 p hp).2⟩
      · rcases List.mem_cons.mp hp with rfl | hp
        · exact ⟨hacc, hL0 D hID'⟩
        · exact ⟨old _ _ (N1 p hp).1, (N1 p hp).2⟩
    exact codeAny_compStart_list (loop _ rfl) (wpAny_pyIter_listiter (it1.at fun o e => old _ _ e) (loop _ rfl))
noncomputable def pl2c (v : Vars) : Prop := ktl2b.1 (v.H 0) (v.N 0) (v.N 1) (v.M 0) (v.H 1) (v.H 2) (v.N 2) (v.M 1)
@[irreducible] noncomputable def vl2c : Vars := hk pl2c
noncomputable def ktl2c : {P : (yN→yN→yO→yO→yN→Prop) // (∀ x1 x2 x3 x4 x5, P x1 x2 x3 x4 x5) → pl2c vl2c} := by
  refine' ⟨(_ : yPR→yW→yA→yQ→yH→yN→yM→yEN→yPX→yPX→ycn→ycn→yPO→yPO→yPO→ycs→ycl→yPO→ys→yQ→yR→yN→yVS→yN→yZS→yN→yN→yH→yH→yH→yN→yN→yH→yN→yN→yM→yH→yH→yN→yM→yN→yN→yO→yO→yN→Prop) (vl2a.PR 0) (vl2a.W 0) (vl2a.A 0) (vl2a.Q 0) (vl2a.H 0) (vl2a.N 0) (vl2a.M 0) (vl2a.EN 0) (vl2a.PX 0) (vl2a.PX 1) (vl2a.cn 0) (vl2a.cn 1) (vl2a.PO 0) (vl2a.PO 1) (vl2a.PO 2) (vl2a.cs 0) (vl2a.cl 0) (vl2a.PO 3) (vl2a.s 0) (vl2a.Q 1) (vl2a.R 0) (vl2a.N 1) (vl2a.VS 0) (vl2a.N 2) (vl2a.ZS 0) (vl2a.N 3) (vl2b.N 0) (vl2b.H 0) (vl2b.H 1) (vl2b.H 2) (vl2b.N 1) (vl2b.N 2) (vl2c.H 0) (vl2c.N 0) (vl2c.N 1) (vl2c.M 0) (vl2c.H 1) (vl2c.H 2) (vl2c.N 2) (vl2c.M 1), fun hPl2d => ?main⟩
  case main =>
    intro hclos hcell hkind hnames hx hz hh hdz F N hi1 hm hvl hsz hszl hs hs2 hin hfin hl hI hlt hH1 up1 it1 F1 N1 ltN1 hLI fresh₀ hH2 hDe hs1 hCe hns₁ hsb₁ hC nID nDC nIC hID hDC offN old hacc hL0 hID' hIC' stepF stepN consOff NlistOf hi hit F' hn' N' Nn hlt' hit2 hs2' e2 F2 N2 hn2 hn3 hv3 e3
    generalize vl2a.PR 0 = prog, vl2a.W 0 = w, vl2a.A 0 = A, vl2a.Q 0 = E, vl2a.H 0 = h₀, vl2a.N 0 = L, vl2a.M 0 = m, vl2a.EN 0 = env, vl2a.PX 0 = i1, vl2a.PX 1 = i2, vl2a.cn 0 = x, vl2a.cn 1 = z, vl2a.PO 0 = px, vl2a.PO 1 = pz, vl2a.PO 2 = pe, vl2a.cs 0 = scope, vl2a.cl 0 = cl, vl2a.PO 3 = pos, vl2a.s 0 = s, vl2a.Q 1 = Q, vl2a.R 0 = news, vl2a.N 1 = ax, vl2a.VS 0 = vs, vl2a.N 2 = k, vl2a.ZS 0 = zs, vl2a.N 3 = sz, vl2b.N 0 = I, vl2b.H 0 = H1, vl2b.H 1 = h₁, vl2b.H 2 = H2, vl2b.N 1 = D, vl2b.N 2 = C, vl2c.H 0 = h', vl2c.N 0 = tk, vl2c.N 1 = i, vl2c.M 0 = m', vl2c.H 1 = h2, vl2c.H 2 = h3, vl2c.N 2 = tk3, vl2c.M 1 = cm at *
    have F3 := stepF hIC' F2 e3
    have N3 := stepN N2 e3 (consOff nDC fun p hp => (offN p hp).2.1)
    have hit3 : h3.IsListIter I ax (i + 1) := hit2.at fun o e => e3 _ o nIC e
    obtain ⟨b, nb, hb, hev⟩ := hin i vs[i] (List.getElem?_eq_getElem hlt')
    obtain ⟨oC, heC, hoC⟩ := LCg.ns_obj hn3
    obtain ⟨oI, heI, hoI⟩ := id hit3
    refine wpAny_mono (hev I oI C oC D (LCg.lst (flat2 zs i)) cm h3 tk3 _ hoC hv3 offN F3 (fun p hp => ?_)) (fun u s₄ hu => ?_) fun _ _ e => e
    · rcases List.mem_cons.mp hp with rfl | hp
      · exact ⟨heI, hL0 I (Nat.le_refl I)⟩
      rcases List.mem_cons.mp hp with rfl | hp
      · exact ⟨heC, hL0 C hIC'⟩
      · exact N3 p hp
    obtain ⟨rfl, tk4, rfl⟩ := hu
    (try clear hev)
    revert hclos hcell hkind hnames hx hz hh hdz F N hi1 hm hvl hsz hszl hs hs2 hin hfin hl hI hlt hH1 up1 it1 F1 N1 ltN1 hLI fresh₀ hH2 hDe hs1 hCe hns₁ hsb₁ hC nID nDC nIC hID hDC offN old hacc hL0 hID' hIC' stepF stepN consOff NlistOf hi hit F' hn' N' Nn hlt' hit2 hs2' e2 F2 N2 hn2 hn3 hv3 e3 F3 N3 hit3 hb heC hoC heI hoI
    exact hPl2d b nb oC oI tk4
noncomputable def pl2d (v : Vars) : Prop := ktl2c.1 (v.N 0) (v.N 1) (v.O 0) (v.O 1) (v.N 2)
@[irreducible] noncomputable def vl2d : Vars := hk pl2d
noncomputable def ktl2d : {P : (yN→yH→Prop) // (∀ x1 x2, P x1 x2) → pl2d vl2d} := by
  refine' ⟨(_ : yPR→yW→yA→yQ→yH→yN→yM→yEN→yPX→yPX→ycn→ycn→yPO→yPO→yPO→ycs→ycl→yPO→ys→yQ→yR→yN→yVS→yN→yZS→yN→yN→yH→yH→yH→yN→yN→yH→yN→yN→yM→yH→yH→yN→yM→yN→yN→yO→yO→yN→yN→yH→Prop) (vl2a.PR 0) (vl2a.W 0) (vl2a.A 0) (vl2a.Q 0) (vl2a.H 0) (vl2a.N 0) (vl2a.M 0) (vl2a.EN 0) (vl2a.PX 0) (vl2a.PX 1) (vl2a.cn 0) (vl2a.cn 1) (vl2a.PO 0) (vl2a.PO 1) (vl2a.PO 2) (vl2a.cs 0) (vl2a.cl 0) (vl2a.PO 3) (vl2a.s 0) (vl2a.Q 1) (vl2a.R 0) (vl2a.N 1) (vl2a.VS 0) (vl2a.N 2) (vl2a.ZS 0) (vl2a.N 3) (vl2b.N 0) (vl2b.H 0) (vl2b.H 1) (vl2b.H 2) (vl2b.N 1) (vl2b.N 2) (vl2c.H 0) (vl2c.N 0) (vl2c.N 1) (vl2c.M 0) (vl2c.H 1) (vl2c.H 2) (vl2c.N 2) (vl2c.M 1) (vl2d.N 0) (vl2d.N 1) (vl2d.O 0) (vl2d.O 1) (vl2d.N 2), fun hPl2e => ?main⟩
  case main =>
    intro hclos hcell hkind hnames hx hz hh hdz F N hi1 hm hvl hsz hszl hs hs2 hin hfin hl hI hlt hH1 up1 it1 F1 N1 ltN1 hLI fresh₀ hH2 hDe hs1 hCe hns₁ hsb₁ hC nID nDC nIC hID hDC offN old hacc hL0 hID' hIC' stepF stepN consOff NlistOf hi hit F' hn' N' Nn hlt' hit2 hs2' e2 F2 N2 hn2 hn3 hv3 e3 F3 N3 hit3 hb heC hoC heI hoI
    generalize vl2a.PR 0 = prog, vl2a.W 0 = w, vl2a.A 0 = A, vl2a.Q 0 = E, vl2a.H 0 = h₀, vl2a.N 0 = L, vl2a.M 0 = m, vl2a.EN 0 = env, vl2a.PX 0 = i1, vl2a.PX 1 = i2, vl2a.cn 0 = x, vl2a.cn 1 = z, vl2a.PO 0 = px, vl2a.PO 1 = pz, vl2a.PO 2 = pe, vl2a.cs 0 = scope, vl2a.cl 0 = cl, vl2a.PO 3 = pos, vl2a.s 0 = s, vl2a.Q 1 = Q, vl2a.R 0 = news, vl2a.N 1 = ax, vl2a.VS 0 = vs, vl2a.N 2 = k, vl2a.ZS 0 = zs, vl2a.N 3 = sz, vl2b.N 0 = I, vl2b.H 0 = H1, vl2b.H 1 = h₁, vl2b.H 2 = H2, vl2b.N 1 = D, vl2b.N 2 = C, vl2c.H 0 = h', vl2c.N 0 = tk, vl2c.N 1 = i, vl2c.M 0 = m', vl2c.H 1 = h2, vl2c.H 2 = h3, vl2c.N 2 = tk3, vl2c.M 1 = cm, vl2d.N 0 = b, vl2d.N 1 = nb, vl2d.O 0 = oC, vl2d.O 1 = oI, vl2d.N 2 = tk4 at *
    have Nn3 : News h₀ L h3 news := fun p hp => N3 p (List.mem_cons_of_mem _ hp)
    refine wpAny_pyIter_list (NlistOf Nn3 hb) ?_
    generalize hJ : h3.objs.size = J at *
    generalize hH4 : h3.push { cls := .type "list_iterator", data := .fields #[.ref b, .int 0 0] } = H4
    have up4 : ∀ c o, h3.get? c = some o → H4.get? c = some o := fun c o e => by rw [← hH4]; exact Heap.get?_push_of_some _ e
    have ltJ : ∀ c o, h3.get? c = some o → c < J := fun c o e => by rw [← hJ]; exact Heap.lt_size e
    have hIJ : I < J := ltJ _ _ heI
    have nIJ : I ≠ J := Nat.ne_of_lt hIJ
    have nCJ : C ≠ J := Nat.ne_of_lt (ltJ _ _ heC)
    have nDJ : D ≠ J := Nat.ne_of_lt (ltJ _ _ (N3 _ List.mem_cons_self).1)
    have offJ : ∀ p ∈ news, p.1 ≠ J := fun p hp => Nat.ne_of_lt (ltJ _ _ (Nn3 p hp).1)
    have hIJ' : I ≤ J := Nat.le_of_lt hIJ
    have it4 : H4.IsListIter J b 0 := by rw [← hH4, ← hJ]; exact ⟨_, Heap.get?_push_size _ rfl, rfl, rfl⟩
    have hzl : (zs i).length ≤ sizeLine := by rw [PySem.sizeLine_eq]; have := hsz i; lia
    revert hclos hcell hkind hnames hx hz hh hdz F N hi1 hm hvl hsz hszl hs hs2 hin hfin hl hI hlt hH1 up1 it1 F1 N1 ltN1 hLI fresh₀ hH2 hDe hs1 hCe hns₁ hsb₁ hC nID nDC nIC hID hDC offN old hacc hL0 hID' hIC' stepF stepN consOff NlistOf hi hit F' hn' N' Nn hlt' hit2 hs2' e2 F2 N2 hn2 hn3 hv3 e3 F3 N3 hit3 hb heC hoC heI hoI Nn3 hJ hH4 up4 ltJ hIJ nIJ nCJ nDJ offJ hIJ' it4 hzl
    exact hPl2e J H4
noncomputable def pl2e (v : Vars) : Prop := ktl2d.1 (v.N 0) (v.H 0)
@[irreducible] noncomputable def vl2e : Vars := hk pl2e
noncomputable def ktl2e : {P : (yH→yN→yN→yM→Prop) // (∀ x1 x2 x3 x4, P x1 x2 x3 x4) → pl2e vl2e} := by
  refine' ⟨(_ : yPR→yW→yA→yQ→yH→yN→yM→yEN→yPX→yPX→ycn→ycn→yPO→yPO→yPO→ycs→ycl→yPO→ys→yQ→yR→yN→yVS→yN→yZS→yN→yN→yH→yH→yH→yN→yN→yH→yN→yN→yM→yH→yH→yN→yM→yN→yN→yO→yO→yN→yN→yH→yH→yN→yN→yM→Prop) (vl2a.PR 0) (vl2a.W 0) (vl2a.A 0) (vl2a.Q 0) (vl2a.H 0) (vl2a.N 0) (vl2a.M 0) (vl2a.EN 0) (vl2a.PX 0) (vl2a.PX 1) (vl2a.cn 0) (vl2a.cn 1) (vl2a.PO 0) (vl2a.PO 1) (vl2a.PO 2) (vl2a.cs 0) (vl2a.cl 0) (vl2a.PO 3) (vl2a.s 0) (vl2a.Q 1) (vl2a.R 0) (vl2a.N 1) (vl2a.VS 0) (vl2a.N 2) (vl2a.ZS 0) (vl2a.N 3) (vl2b.N 0) (vl2b.H 0) (vl2b.H 1) (vl2b.H 2) (vl2b.N 1) (vl2b.N 2) (vl2c.H 0) (vl2c.N 0) (vl2c.N 1) (vl2c.M 0) (vl2c.H 1) (vl2c.H 2) (vl2c.N 2) (vl2c.M 1) (vl2d.N 0) (vl2d.N 1) (vl2d.O 0) (vl2d.O 1) (vl2d.N 2) (vl2e.N 0) (vl2e.H 0), fun hPl2f => ?main⟩
  case main =>
    intro hclos hcell hkind hnames hx hz hh hdz F N hi1 hm hvl hsz hszl hs hs2 hin hfin hl hI hlt hH1 up1 it1 F1 N1 ltN1 hLI fresh₀ hH2 hDe hs1 hCe hns₁ hsb₁ hC nID nDC nIC hID hDC offN old hacc hL0 hID' hIC' stepF stepN consOff NlistOf hi hit F' hn' N' Nn hlt' hit2 hs2' e2 F2 N2 hn2 hn3 hv3 e3 F3 N3 hit3 hb heC hoC heI hoI Nn3 hJ hH4 up4 ltJ hIJ nIJ nCJ nDJ offJ hIJ' it4 hzl
    generalize vl2a.PR 0 = prog, vl2a.W 0 = w, vl2a.A 0 = A, vl2a.Q 0 = E, vl2a.H 0 = h₀, vl2a.N 0 = L, vl2a.M 0 = m, vl2a.EN 0 = env, vl2a.PX 0 = i1, vl2a.PX 1 = i2, vl2a.cn 0 = x, vl2a.cn 1 = z, vl2a.PO 0 = px, vl2a.PO 1 = pz, vl2a.PO 2 = pe, vl2a.cs 0 = scope, vl2a.cl 0 = cl, vl2a.PO 3 = pos, vl2a.s 0 = s, vl2a.Q 1 = Q, vl2a.R 0 = news, vl2a.N 1 = ax, vl2a.VS 0 = vs, vl2a.N 2 = k, vl2a.ZS 0 = zs, vl2a.N 3 = sz, vl2b.N 0 = I, vl2b.H 0 = H1, vl2b.H 1 = h₁, vl2b.H 2 = H2, vl2b.N 1 = D, vl2b.N 2 = C, vl2c.H 0 = h', vl2c.N 0 = tk, vl2c.N 1 = i, vl2c.M 0 = m', vl2c.H 1 = h2, vl2c.H 2 = h3, vl2c.N 2 = tk3, vl2c.M 1 = cm, vl2d.N 0 = b, vl2d.N 1 = nb, vl2d.O 0 = oC, vl2d.O 1 = oI, vl2d.N 2 = tk4, vl2e.N 0 = J, vl2e.H 0 = H4 at *
    have inner : ∀ s₅ : Shared, s₅ = { s with heap := H4, toks := tk4 } →
        codeAny (model prog w) A (.compLoop (.ListComp (.Name z pe) [⟨.Name x px, i1, [], 0⟩, ⟨.Name z pz, i2, [], 0⟩] scope pos) 1 (.ref J) (.ref D) (compEnvC scope cl C env))
          (fun r s₆ => match r with
            | .ok _ => ∃ m_1, m_1 < vs.length + 1 - i ∧ ∃ h' tk i m', s₆ = { s with heap := h', toks := tk } ∧ i ≤ vs.length ∧ m_1 = vs.length + 1 - i ∧ h'.IsListIter I ax i ∧ Fr h₀ L h' m ∧ h'.Ns C m' ∧ News h₀ L h' ((D, LCg.lst (flat2 zs i)) :: news)
            | .error e => cameBackBy (model prog w) A (compEnvC scope cl C env) (notedBy (model prog w) A (compEnvC scope cl C env) fun e s' => compPost (model prog w) A E none Q (.ref D) C (.error e) s') e s₆) s₅ := by
      rintro s₅ rfl
      refine comp2_inner
        (fun kk s' => ∃ h' tk j m', s' = { s with heap := h', toks := tk } ∧ j ≤ (zs i).length ∧ kk = (zs i).length + 1 - j ∧ h'.IsListIter J b j ∧ h'.IsListIter I ax (i + 1) ∧ Fr h₀ L h' m ∧ h'.Ns C m' ∧
          News h₀ L h' ((D, LCg.lst (flat2 zs i ++ (zs i).take j)) :: news)) ?_ ((zs i).length + 1)
        ⟨H4, tk4, 0, cm, rfl, Nat.zero_le _, rfl, it4, hit3.at fun o e => up4 _ _ e, F3.keeps up4, hn3.at' fun o e => up4 _ _ e, by
          rw [List.take_zero, List.append_nil]; exact N3.grown up4⟩
      rintro kk s' ⟨h5, tk5, j, m5, rfl, hj, rfl, hit5, hitI5, F5, hn5, N5⟩
      revert hclos hcell hkind hnames hx hz hh hdz F N hi1 hm hvl hsz hszl hs hs2 hin hfin hl hI hlt hH1 up1 it1 F1 N1 ltN1 hLI fresh₀ hH2 hDe hs1 hCe hns₁ hsb₁ hC nID nDC nIC hID hDC offN old hacc hL0 hID' hIC' stepF stepN consOff NlistOf hi hit F' hn' N' Nn hlt' hit2 hs2' e2 F2 N2 hn2 hn3 hv3 e3 F3 N3 hit3 hb heC hoC heI hoI Nn3 hJ hH4 up4 ltJ hIJ nIJ nCJ nDJ offJ hIJ' it4 hzl hj hit5 hitI5 F5 hn5 N5
      exact hPl2f h5 tk5 j m5
    exact comp2_start (inner _ rfl) (wpAny_pyIter_listiter it4 (inner _ rfl))
noncomputable def pl2f (v : Vars) : Prop := ktl2e.1 (v.H 0) (v.N 0) (v.N 1) (v.M 0)
@[irreducible] noncomputable def vl2f : Vars := hk pl2f
noncomputable def ktl2f : {P : (yH→yH→yN→yM→Prop) // (∀ x1 x2 x3 x4, P x1 x2 x3 x4) → pl2f vl2f} := by
  refine' ⟨(_ : yPR→yW→yA→yQ→yH→yN→yM→yEN→yPX→yPX→ycn→ycn→yPO→yPO→yPO→ycs→ycl→yPO→ys→yQ→yR→yN→yVS→yN→yZS→yN→yN→yH→yH→yH→yN→yN→yH→yN→yN→yM→yH→yH→yN→yM→yN→yN→yO→yO→yN→yN→yH→yH→yN→yN→yM→yH→yH→yN→yM→Prop) (vl2a.PR 0) (vl2a.W 0) (vl2a.A 0) (vl2a.Q 0) (vl2a.H 0) (vl2a.N 0) (vl2a.M 0) (vl2a.EN 0) (vl2a.PX 0) (vl2a.PX 1) (vl2a.cn 0) (vl2a.cn 1) (vl2a.PO 0) (vl2a.PO 1) (vl2a.PO 2) (vl2a.cs 0) (vl2a.cl 0) (vl2a.PO 3) (vl2a.s 0) (vl2a.Q 1) (vl2a.R 0) (vl2a.N 1) (vl2a.VS 0) (vl2a.N 2) (vl2a.ZS 0) (vl2a.N 3) (vl2b.N 0) (vl2b.H 0) (vl2b.H 1) (vl2b.H 2) (vl2b.N 1) (vl2b.N 2) (vl2c.H 0) (vl2c.N 0) (vl2c.N 1) (vl2c.M 0) (vl2c.H 1) (vl2c.H 2) (vl2c.N 2) (vl2c.M 1) (vl2d.N 0) (vl2d.N 1) (vl2d.O 0) (vl2d.O 1) (vl2d.N 2) (vl2e.N 0) (vl2e.H 0) (vl2f.H 0) (vl2f.N 0) (vl2f.N 1) (vl2f.M 0), fun hPl2g => ?main⟩
  case main =>
    intro hclos hcell hkind hnames hx hz hh hdz F N hi1 hm hvl hsz hszl hs hs2 hin hfin hl hI hlt hH1 up1 it1 F1 N1 ltN1 hLI fresh₀ hH2 hDe hs1 hCe hns₁ hsb₁ hC nID nDC nIC hID hDC offN old hacc hL0 hID' hIC' stepF stepN consOff NlistOf hi hit F' hn' N' Nn hlt' hit2 hs2' e2 F2 N2 hn2 hn3 hv3 e3 F3 N3 hit3 hb heC hoC heI hoI Nn3 hJ hH4 up4 ltJ hIJ nIJ nCJ nDJ offJ hIJ' it4 hzl hj hit5 hitI5 F5 hn5 N5
    generalize vl2a.PR 0 = prog, vl2a.W 0 = w, vl2a.A 0 = A, vl2a.Q 0 = E, vl2a.H 0 = h₀, vl2a.N 0 = L, vl2a.M 0 = m, vl2a.EN 0 = env, vl2a.PX 0 = i1, vl2a.PX 1 = i2, vl2a.cn 0 = x, vl2a.cn 1 = z, vl2a.PO 0 = px, vl2a.PO 1 = pz, vl2a.PO 2 = pe, vl2a.cs 0 = scope, vl2a.cl 0 = cl, vl2a.PO 3 = pos, vl2a.s 0 = s, vl2a.Q 1 = Q, vl2a.R 0 = news, vl2a.N 1 = ax, vl2a.VS 0 = vs, vl2a.N 2 = k, vl2a.ZS 0 = zs, vl2a.N 3 = sz, vl2b.N 0 = I, vl2b.H 0 = H1, vl2b.H 1 = h₁, vl2b.H 2 = H2, vl2b.N 1 = D, vl2b.N 2 = C, vl2c.H 0 = h', vl2c.N 0 = tk, vl2c.N 1 = i, vl2c.M 0 = m', vl2c.H 1 = h2, vl2c.H 2 = h3, vl2c.N 2 = tk3, vl2c.M 1 = cm, vl2d.N 0 = b, vl2d.N 1 = nb, vl2d.O 0 = oC, vl2d.O 1 = oI, vl2d.N 2 = tk4, vl2e.N 0 = J, vl2e.H 0 = H4, vl2f.H 0 = h5, vl2f.N 0 = tk5, vl2f.N 1 = j, vl2f.M 0 = m5 at *
    have Nn5 : News h₀ L h5 news := fun p hp => N5 p (List.mem_cons_of_mem _ hp)
    by_cases hlj : j < (zs i).length
    · refine wpAny_pyNext_list_item hit5 (NlistOf Nn5 hb) (x := (zs i)[j]) (by simpa using List.getElem?_eq_getElem hlj) fun h6 hit6 hs6 => ?_
      have e6 : ∀ c o, c ≠ J → h5.get? c = some o → h6.get? c = some o := fun c o hc e => hs6.extBut c o hc e
      have F6 := stepF hIJ' F5 e6
      have N6 := stepN N5 e6 (consOff nDJ offJ)
      have hn6 : h6.Ns C m5 := hn5.at' fun o e => e6 _ o nCJ e
      refine wpAny_pure ?_
      refine asg_name (s := s) hkind hz hn6 fun h7 tk7 cm7 hn7 hv7 e7 => ?_
      revert hclos hcell hkind hnames hx hz hh hdz F N hi1 hm hvl hsz hszl hs hs2 hin hfin hl hI hlt hH1 up1 it1 F1 N1 ltN1 hLI fresh₀ hH2 hDe hs1 hCe hns₁ hsb₁ hC nID nDC nIC hID hDC offN old hacc hL0 hID' hIC' stepF stepN consOff NlistOf hi hit F' hn' N' Nn hlt' hit2 hs2' e2 F2 N2 hn2 hn3 hv3 e3 F3 N3 hit3 hb heC hoC heI hoI Nn3 hJ hH4 up4 ltJ hIJ nIJ nCJ nDJ offJ hIJ' it4 hzl hj hit5 hitI5 F5 hn5 N5 Nn5 hlj hit6 hs6 e6 F6 N6 hn6 hn7 hv7 e7
      exact hPl2g h6 h7 tk7 cm7
    · have hjn : j = (zs i).length := Nat.le_antisymm hj (Nat.not_lt.mp hlj)
      subst hjn
      refine wpAny_pyNext_list_end hh hit5 (NlistOf Nn5 hb) (by simp) fun h6 e6 => ?_
      have e6' : ∀ c o, c ≠ J → h5.get? c = some o → h6.get? c = some o := fun c o hc e => e6 c o hc e
      refine ⟨vs.length + 1 - (i + 1), by lia, h6, tk5, i + 1, m5, rfl, hlt', rfl, hitI5.at fun o e => e6' _ o nIJ e, stepF hIJ' F5 e6', hn5.at' fun o e => e6' _ o nCJ e, ?_⟩
      rw [flat2_succ, ← List.take_length (l := zs i)]
      exact stepN N5 e6' (consOff nDJ offJ)
noncomputable def pl2g (v : Vars) : Prop := ktl2f.1 (v.H 0) (v.H 1) (v.N 0) (v.M 0)
@[irreducible] noncomputable def vl2g : Vars := hk pl2g
theorem tl2g : pl2g vl2g := by
  intro hclos hcell hkind hnames hx hz hh hdz F N hi1 hm hvl hsz hszl hs hs2 hin hfin hl hI hlt hH1 up1 it1 F1 N1 ltN1 hLI fresh₀ hH2 hDe hs1 hCe hns₁ hsb₁ hC nID nDC nIC hID hDC offN old hacc hL0 hID' hIC' stepF stepN consOff NlistOf hi hit F' hn' N' Nn hlt' hit2 hs2' e2 F2 N2 hn2 hn3 hv3 e3 F3 N3 hit3 hb heC hoC heI hoI Nn3 hJ hH4 up4 ltJ hIJ nIJ nCJ nDJ offJ hIJ' it4 hzl hj hit5 hitI5 F5 hn5 N5 Nn5 hlj hit6 hs6 e6 F6 N6 hn6 hn7 hv7 e7
  generalize vl2a.PR 0 = prog, vl2a.W 0 = w, vl2a.A 0 = A, vl2a.Q 0 = E, vl2a.H 0 = h₀, vl2a.N 0 = L, vl2a.M 0 = m, vl2a.EN 0 = env, vl2a.PX 0 = i1, vl2a.PX 1 = i2, vl2a.cn 0 = x, vl2a.cn 1 = z, vl2a.PO 0 = px, vl2a.PO 1 = pz, vl2a.PO 2 = pe, vl2a.cs 0 = scope, vl2a.cl 0 = cl, vl2a.PO 3 = pos, vl2a.s 0 = s, vl2a.Q 1 = Q, vl2a.R 0 = news, vl2a.N 1 = ax, vl2a.VS 0 = vs, vl2a.N 2 = k, vl2a.ZS 0 = zs, vl2a.N 3 = sz, vl2b.N 0 = I, vl2b.H 0 = H1, vl2b.H 1 = h₁, vl2b.H 2 = H2, vl2b.N 1 = D, vl2b.N 2 = C, vl2c.H 0 = h', vl2c.N 0 = tk, vl2c.N 1 = i, vl2c.M 0 = m', vl2c.H 1 = h2, vl2c.H 2 = h3, vl2c.N 2 = tk3, vl2c.M 1 = cm, vl2d.N 0 = b, vl2d.N 1 = nb, vl2d.O 0 = oC, vl2d.O 1 = oI, vl2d.N 2 = tk4, vl2e.N 0 = J, vl2e.H 0 = H4, vl2f.H 0 = h5, vl2f.N 0 = tk5, vl2f.N 1 = j, vl2f.M 0 = m5, vl2g.H 0 = h6, vl2g.H 1 = h7, vl2g.N 0 = tk7, vl2g.M 0 = cm7 at *
  have F7 := stepF hIC' F6 e7
  have N7 := stepN N6 e7 (consOff nDC fun p hp => (offN p hp).2.1)
  refine wpAny_Name (hd := hdz) (wpAny_loadName_local (env := compEnvC scope cl C env) (show (compEnvC scope cl C env).scope.kind = .function from hkind) (show (compEnvC scope cl C env).kindOf z = some .local from lookup_relabel_local (env := env) hz) hn7 hv7 ?_)
  refine append_at (hsz := by
    show (flat2 zs i ++ (zs i).take j).toArray.size ≤ sizeLine
    rw [PySem.sizeLine_eq, List.size_toArray, List.length_append, List.length_take]
    have := hsz i
    have hf := flat2_len hsz i
    have h2 : i * sz ≤ 1000 * 1000 := Nat.mul_le_mul (by lia) hszl
    lia) (N7 _ List.mem_cons_self).1 fun h8 hs8 hD8 => ?_
  have e8 : ∀ c o, c ≠ D → h7.get? c = some o → h8.get? c = some o := fun c o hc e => hs8.extBut c o hc e
  have N7n : News h₀ L h7 news := fun p hp => N7 p (List.mem_cons_of_mem _ hp)
  have N8 := stepN N7n e8 fun p hp => (offN p hp).2.2
  refine ⟨(zs i).length + 1 - (j + 1), by lia, h8, tk7, j + 1, cm7, rfl, hlj, rfl, hit6.at fun o e => e8 _ o (Ne.symm nDJ) (e7 _ o (Ne.symm nCJ) e), hitI5.at fun o e => e8 _ o nID (e7 _ o nIC (e6 _ o nIJ e)),
    stepF hID' F7 e8, hn7.at' fun o e => e8 _ o (Ne.symm nDC) e, fun p hp => ?_⟩
  rcases List.mem_cons.mp hp with rfl | hp
  · refine ⟨hD8.trans (congrArg some ?_), hL0 D hID'⟩
    rw [LCg.lst_snoc, List.take_succ_eq_append_getElem hlj, ← List.append_assoc]
  · exact N8 p hp
theorem al2g : ∀ v, pl2g v := hkv tl2g (by unfold vl2g; rfl)
theorem tl2f : pl2f vl2f := ktl2f.2 (fun x1 x2 x3 x4 => al2g {d0v with H := sl x1 [x2], N := sl x3 [], M := sl x4 []})
theorem al2f : ∀ v, pl2f v := hkv tl2f (by unfold vl2f; rfl)
theorem tl2e : pl2e vl2e := ktl2e.2 (fun x1 x2 x3 x4 => al2f {d0v with H := sl x1 [], N := sl x2 [x3], M := sl x4 []})
theorem al2e : ∀ v, pl2e v := hkv tl2e (by unfold vl2e; rfl)
theorem tl2d : pl2d vl2d := ktl2d.2 (fun x1 x2 => al2e {d0v with H := sl x2 [], N := sl x1 []})
theorem al2d : ∀ v, pl2d v := hkv tl2d (by unfold vl2d; rfl)
theorem tl2c : pl2c vl2c := ktl2c.2 (fun x1 x2 x3 x4 x5 => al2d {d0v with N := sl x1 [x2, x5], O := sl x3 [x4]})
theorem al2c : ∀ v, pl2c v := hkv tl2c (by unfold vl2c; rfl)
theorem tl2b : pl2b vl2b := ktl2b.2 (fun x1 x2 x3 x4 x5 x6 x7 x8 => al2c {d0v with H := sl x1 [x5, x6], N := sl x2 [x3, x7], M := sl x4 [x8]})
theorem al2b : ∀ v, pl2b v := hkv tl2b (by unfold vl2b; rfl)
theorem tl2a : pl2a vl2a := ktl2a.2 (fun x1 x2 x3 x4 x5 x6 => al2b {d0v with H := sl x2 [x3, x4], N := sl x1 [x5, x6]})
theorem al2a : ∀ v, pl2a v := hkv tl2a (by unfold vl2a; rfl)
theorem TListComp2 : SListComp2 := kTListComp2.2 (fun x1 x2 x3 x4 x5 x6 x7 x8 x9 x10 x11 x12 x13 x14 x15 x16 x17 x18 x19 x20 x21 x22 x23 x24 x25 x26 => al2a {d0v with W := sl x2 [], cn := sl x11 [x12], cs := sl x16 [], cl := sl x17 [], A := sl x3 [], s := sl x19 [], H := sl x5 [], N := sl x6 [x22, x24, x26], VS := sl x23 [], M := sl x7 [], R := sl x21 [], Q := sl x4 [x20], ZS := sl x25 [], PR := sl x1 [], EN := sl x8 [], PX := sl x9 [x10], PO := sl x13 [x14, x15, x18]})
theorem ListComp2 : SListComp2 := TListComp2
end
noncomputable def CtC (w : World) (f : Addr) (d : Nat) (news : List (Addr × Obj)) (args : List Value) (Post : Value → List (Addr × Obj) → Prop) : Prop :=
  ∀ (loose : List Str) (mean : ExcName → Option Value) (mg mb : Str → Option Value) (dp un : Nat) (cn : Str) (cs : Scope) (a : Addr) (ccd : Value) (cl : List (Str × Addr)) (outer : List Env) (A₀ : Around) (base h₀ : Heap) (L : Addr) (m : Str → Option Value) (s : Shared) (Q E : Value → Shared → Prop),
    Below A₀ base outer h₀ → Fr h₀ L s.heap m → (Mine.hd.heap_1 w.params).In h₀ → News h₀ L s.heap news → Top Mine.hd.view_1 loose mean mg mb h₀ → cs.kind = .function → dp + d < recursionLimit → un + 8 * d < cLine →
    (∀ r h' tk' news', Fr h₀ L h' m → News h₀ L h' news' → Post r news' → Q r { s with heap := h', toks := tk' }) →
    wpC (model Challenge.rw_zn0015_01.row.prog w) (ktrTop dp un (some []) cn cs L a ccd cl outer) (call (.ref f) args) Q E s
section
variable {prog : Program} {w : World} {A : Around} {E : Value → Shared → Prop} {s : Shared} {h₀ : Heap} {L D : Addr} {m : Str → Option Value} {news news' : List (Addr × Obj)}
theorem call_ba_K {n : Int} {t : Tok} {Q : Value → Shared → Prop} (F : Fr h₀ L s.heap m) (N : News h₀ L s.heap news) (hg : A.guards = some []) (h0 : 0 < n) (hz : n.toNat ≤ sizeLine)
    (h : ∀ D h', Fr h₀ L h' m → News h₀ L h' ((D, baObj (Array.replicate n.toNat 0)) :: news) → (∀ p ∈ news, p.1 < D) → Q (.ref D) { s with heap := h' }) : wpC (model prog w) A (call (.type "bytearray") [.int n t]) Q E s := by
  refine call_ba hg h0 hz fun h' hgt sb => ?_
  have NN := N.push F (baObj #[])
  have z := NN _ (.head _)
  have lt : ∀ p ∈ news, p.1 < s.heap.objs.size := fun p hp => Heap.lt_size (N p hp).1
  exact h _ h' ((F.push _).change sb z.2.1 z.2.2) (news_set (pre := []) NN (fun p hp => by cases hp) (fun p hp => Nat.ne_of_lt (lt p hp)) sb hgt) lt
theorem ba_set_K {b : Array UInt8} {k x : Int} {t u : Tok} {Q : Unit → Shared → Prop} (F : Fr h₀ L s.heap m) (N : News h₀ L s.heap news) (U : Upd D (baObj b) (baObj (b.setIfInBounds k.toNat x.toNat.toUInt8)) news news') (h0 : 0 ≤ k) (hn : k < b.size) (hz : b.size ≤ sizeLine) (hx0 : 0 ≤ x) (hx1 : x < 256)
    (h : ∀ h', Fr h₀ L h' m → News h₀ L h' news' → Q () { s with heap := h' }) : wpAny (model prog w) A (setItem (.ref D) (.int k t) (.int x u)) Q E s := by
  obtain ⟨pre, post, rfl, rfl, a, c⟩ := U.split
  have z := N (D, baObj b) (List.mem_append.mpr (.inr (.head _)))
  exact ba_setAt z.1 h0 hn hz hx0 hx1 (h _ (F.change (Heap.SameBut.update ..) z.2.1 z.2.2) (news_set N a c (Heap.SameBut.update ..) (Heap.get?_update_self (Obj.mapBytearray (·.setIfInBounds k.toNat x.toNat.toUInt8)) z.1 rfl)))
end
section
variable {prog : Program} {w : World} {A : Around} {E : Value → Shared → Prop} {h₀ : Heap} {env : Env} {body : List Stmt} {Q : Flow → Shared → Prop} {s : Shared}
theorem range_one {x : Str} {r : Addr} {a₀ b₀ d : Int} {t₀ u₀ v₀ : Tok} {m₀ : Str → Option Value} {news : List (Addr × Obj)} (st : List Str) (J : (Str → Option Value) → List (Addr × Obj) → Prop)
    (hh : A.handled = none) (hr : IsRange s.heap r a₀ b₀ d t₀ u₀ v₀) (hsmall : Builtin.Range.small a₀ b₀ d = true) (hn : Builtin.Range.rangeSize a₀ b₀ d = 1) (F : Fr h₀ env.locals s.heap m₀) (N : News h₀ env.locals s.heap news)
    (turn : ∀ t h tk I oI, oI.cls = .type "range_iterator" → (∀ p ∈ news, p.1 < I) → Fr h₀ env.locals h (fun y => if y = x then some (.int a₀ t) else m₀ y) → News h₀ env.locals h ((I, oI) :: news) →
      wpAny (model prog w) A (execs body env) (TEnd h₀ env.locals I oI st m₀ J { s with heap := h, toks := tk } Q) E { s with heap := h, toks := tk })
    (fin : ∀ u nw h tk, J u nw → Fr h₀ env.locals h (fun z => if st.contains z then u z else m₀ z) → News h₀ env.locals h nw → Q .next { s with heap := h, toks := tk }) :
    wpAny (model prog w) A (pyIter (.ref r)) (fun it s₂ => LoopAtV prog w A h₀ env x body Q E it s₂) E s := by
  refine wpAny_pyIter_range hr hsmall ?_
  have W : Walks prog w A s.heap.objs.size [s.heap.objs.size] [s.heap.objs.size] 1 (fun i v => i < 1 ∧ ∃ t, v = .int (a₀ + i * d) t)
      (fun i h => IsRangeIter h s.heap.objs.size (a₀ + (i : Nat) * d) (((1 : Nat) : Int) - (i : Nat)) d) := (Walks.range hh _ a₀ d 1).bound
  have hnew := next_is_new F
  have lt : ∀ p ∈ news, p.1 < s.heap.objs.size := fun p hp => Heap.lt_size (N p hp).1
  refine ⟨_, _, _, 1, _, _, m₀, news, fun i m nw => (i = 0 → m = m₀ ∧ nw = news) ∧ (i = 1 → (∀ z, st.contains z = false → m z = m₀ z) ∧ J m nw), rfl, W, ?_, ?_, ?_, (by show IsRangeIter _ _ _ _ _; rw [hn]; simpa using Heap.get?_push_size _ rfl), F.push _, (fun p hp => ⟨Heap.get?_push_of_some _ (N p hp).1, (N p hp).2⟩), ⟨fun _ => ⟨rfl, rfl⟩, fun h => absurd h (by decide)⟩, ?_, ?_⟩
  · intro hm
    exact absurd F.ns.lt ((List.mem_singleton.mp hm) ▸ Nat.lt_irrefl _)
  · intro b hb
    rw [List.mem_singleton.mp hb]; exact hnew
  · intro p hp hI
    exact absurd (lt p hp) ((List.mem_singleton.mp hI) ▸ Nat.lt_irrefl _)
  · rintro i v m₁ news₁ s₁ own ⟨hh', tk', rfl⟩ hin ⟨_, t, rfl⟩ hJ hoff hown hget hall hst F₁ N₁
    have hi0 : i = 0 := by lia
    subst hi0
    obtain ⟨rfl, rfl⟩ := hJ.1 rfl
    have e1 : a₀ + ((0 : Nat) : Int) * d = a₀ := by simp
    rw [e1] at F₁
    obtain ⟨oI, hoI, hcI⟩ : ∃ oI : Obj, hh'.get? s.heap.objs.size = some oI ∧ oI.cls = .type "range_iterator" := ⟨_, hst, rfl⟩
    have hmem := hall s.heap.objs.size (List.mem_singleton.mpr rfl) hnew _ hoI
    have N₂ : News h₀ env.locals hh' ((s.heap.objs.size, oI) :: news₁) := fun p hp => by
      rcases List.mem_cons.mp hp with rfl | hp
      · exact N₁ _ (List.mem_append_left _ hmem)
      · exact N₁ _ (List.mem_append_right _ hp)
    refine wpAny_mono (turn t hh' tk' s.heap.objs.size oI hcI lt F₁ N₂) (fun f s₂ p => ?_) fun _ _ e => e
    have up : (∃ h' tk'' m' nw', s₂ = { s with heap := h', toks := tk'' } ∧ Fr h₀ env.locals h' m' ∧ News h₀ env.locals h' ((s.heap.objs.size, oI) :: nw') ∧ (∀ p ∈ nw', p.1 ≠ s.heap.objs.size) ∧ (∀ z, st.contains z = false → m' z = m₁ z) ∧ J m' nw') →
        LoopStepU h₀ env.locals [s.heap.objs.size] own (fun m nw => ((0 + 1 : Nat) = 0 → m = m₁ ∧ nw = news₁) ∧ ((0 + 1 : Nat) = 1 → (∀ z, st.contains z = false → m z = m₁ z) ∧ J m nw)) { s with heap := hh', toks := tk' } .next s₂ := by
      rintro ⟨h', tk, m', nw', e, F', N', off, hm, j⟩
      refine ⟨rfl, h', tk, m', nw', e, F', fun p hp => ?_, fun p hp hI => off p hp (List.mem_singleton.mp hI), fun h => absurd h (by decide), fun _ => ⟨hm, j⟩⟩
      rcases List.mem_append.mp hp with hp | hp
      · have h1 : p.1 = s.heap.objs.size := List.mem_singleton.mp (hown p hp)
        have h2 : hh'.get? p.1 = some p.2 := hget p hp
        rw [h1, hoI] at h2
        have h3 : p = (s.heap.objs.size, oI) := Prod.ext h1 (Option.some.inj h2).symm
        rw [h3]; exact N' _ (.head _)
      · exact N' _ (.tail _ hp)
    cases f with
    | ret v => exact .ret p
    | brk => exact .brk p
    | next => exact .next (up p)
    | cont => exact .cont (up p)
  · rintro h' tk m' news' F' N' _ hJ
    obtain ⟨hm, j⟩ := hJ.2 rfl
    rw [map_but st hm] at F'
    exact fin m' news' h' tk j F' N'
end
section
local macro_rules | `(tactic| k_all) => `(tactic| with_reducible assumption)
local macro_rules | `(tactic| walk_at "getItem ref int") => `(tactic| (k_here; kdf_here; (with_reducible show wpAny _ _ (getItem (Value.ref _) (Value.int _ _)) _ _ _); k_dflt (refine' kdf_getItem ?T ?h ?_; (case T => k_tabat); (case h => k_asm)); intro t'))
theorem w0A91 : True := by w_top off; trivial
noncomputable def Sc91 : Prop := ∀ (w : World) (d1 d2 : Addr) (o1 o2 : Obj) (c1 c2 : List (Int × Int)) (kvs1 kvs2 : List (Int × Value)) (news : List (Addr × Obj)),
   (d1, o1) ∈ news → (d1 == sysModules) = false → o1.IsDictOf (PySem.intKind Challenge.rw_zn0015_01.row.prog w) kvs1 → PyProof.V.FlatPairs PyData.int kvs1 (kdfD c1) →
   (d2, o2) ∈ news → (d2 == sysModules) = false → o2.IsDictOf (PySem.intKind Challenge.rw_zn0015_01.row.prog w) kvs2 → PyProof.V.FlatPairs PyData.int kvs2 (kdfD c2) → (c1.map (·.1)).Nodup → c1.length ≤ 1000 → c2.length ≤ 1000 →
   Ct w 91 10 news [.ref d1, .ref d2] (fun r news' => ∃ a o kvs, r = .ref a ∧ news' = (a, o) :: news ∧ (∀ p ∈ news, p.1 < a) ∧ (a == sysModules) = false ∧ o.IsDictOf (PySem.intKind Challenge.rw_zn0015_01.row.prog w) kvs ∧ PyProof.V.FlatPairs PyData.int kvs (kdfD (addTo c1 c2)))
noncomputable def kTc91 : {P : (yW→yN→yN→yO→yO→yKI→yKI→yKV→yKV→yR→yLS→ymean→yM→yM→yN→yN→ycn→ycs→yN→yV→ycl→youter→yH→yN→yM→ys→yQ→yQ→yH→yN→yH→Prop) // (∀ x1 x2 x3 x4 x5 x6 x7 x8 x9 x10 x11 x12 x13 x14 x15 x16 x17 x18 x19 x20 x21 x22 x23 x24 x25 x26 x27 x28 x29 x30 x31, P x1 x2 x3 x4 x5 x6 x7 x8 x9 x10 x11 x12 x13 x14 x15 x16 x17 x18 x19 x20 x21 x22 x23 x24 x25 x26 x27 x28 x29 x30 x31) → Sc91} := by
  refine' ⟨_, fun hPc91x1 => ?main⟩
  case main =>
    unfold Sc91
    unfold Ct
    k_fill
    intro w d1 d2 o1 o2 c1 c2 kvs1 kvs2 news hm1 hs1 hd1 hf1 hm2 hs2 hd2 hf2 hnd hlen1 hlen2
    intros
    rename_i hret
    w_on
    refine wpAny_call ?_
    k_dflt cell_enter
    rename_i qz1 qz2 qz3 qz4 qz5 qz6 qz7 qz8 qz9 qz10 qz11 qz12 qz13 qz14 qz15 qz16 qz17 qz18 qz19 qz20 qz21 qz22 qz23 qz24 qz25 qz26 qz27 qz28 qz29 qz30 qz31 qz32 qz33 qz34 qz35 qz36 qz37
    revert hm1 hs1 hd1 hf1 hm2 hs2 hd2 hf2 hnd hlen1 hlen2 qz23 qz25 hret qz33 qz34 qz36 qz37
    exact hPc91x1 w d1 d2 o1 o2 c1 c2 kvs1 kvs2 news qz1 qz2 qz3 qz4 qz5 qz6 qz7 qz8 qz9 qz10 qz11 qz12 qz15 qz16 qz17 qz18 qz19 qz20 qz29 qz30 qz31
noncomputable def pc91x1 (v : Vars) : Prop := kTc91.1 (v.W 0) (v.N 0) (v.N 1) (v.O 0) (v.O 1) (v.KI 0) (v.KI 1) (v.KV 0) (v.KV 1) (v.R 0) (v.LS 0) (v.mean 0) (v.M 0) (v.M 1) (v.N 2) (v.N 3) (v.cn 0) (v.cs 0) (v.N 4) (v.V 0) (v.cl 0) (v.outer 0) (v.H 0) (v.N 5) (v.M 2) (v.s 0) (v.Q 0) (v.Q 1) (v.H 1) (v.N 6) (v.H 2)
@[irreducible] noncomputable def vc91x1 : Vars := hk pc91x1
noncomputable def ktc91x1 : {P : (yN→yN→yH→yH→yI→yI→yKI→yM→yH→yN→yN→yO→yN→yN→yN→yKI→yO→yKV→Prop) × (yN→yN→yH→yH→yM→yH→yN→yO→yKV→Prop) // (∀ x1 x2 x3 x4 x5 x6 x7 x8 x9 x10 x11 x12 x13 x14 x15 x16 x17 x18, P.1 x1 x2 x3 x4 x5 x6 x7 x8 x9 x10 x11 x12 x13 x14 x15 x16 x17 x18) → (∀ x1 x2 x3 x4 x5 x6 x7 x8 x9, P.2 x1 x2 x3 x4 x5 x6 x7 x8 x9) → pc91x1 vc91x1} := by
  refine' ⟨((_ : yW→yN→yN→yO→yO→yKI→yKI→yKV→yKV→yR→yLS→ymean→yM→yM→yN→yN→ycn→ycs→yN→yV→ycl→youter→yH→yN→yM→ys→yQ→yQ→yH→yN→yH→yN→yN→yH→yH→yI→yI→yKI→yM→yH→yN→yN→yO→yN→yN→yN→yKI→yO→yKV→Prop) (vc91x1.W 0) (vc91x1.N 0) (vc91x1.N 1) (vc91x1.O 0) (vc91x1.O 1) (vc91x1.KI 0) (vc91x1.KI 1) (vc91x1.KV 0) (vc91x1.KV 1) (vc91x1.R 0) (vc91x1.LS 0) (vc91x1.mean 0) (vc91x1.M 0) (vc91x1.M 1) (vc91x1.N 2) (vc91x1.N 3) (vc91x1.cn 0) (vc91x1.cs 0) (vc91x1.N 4) (vc91x1.V 0) (vc91x1.cl 0) (vc91x1.outer 0) (vc91x1.H 0) (vc91x1.N 5) (vc91x1.M 2) (vc91x1.s 0) (vc91x1.Q 0) (vc91x1.Q 1) (vc91x1.H 1) (vc91x1.N 6) (vc91x1.H 2), (_ : yW→yN→yN→yO→yO→yKI→yKI→yKV→yKV→yR→yLS→ymean→yM→yM→yN→yN→ycn→ycs→yN→yV→ycl→youter→yH→yN→yM→ys→yQ→yQ→yH→yN→yH→yN→yN→yH→yH→yM→yH→yN→yO→yKV→Prop) (vc91x1.W 0) (vc91x1.N 0) (vc91x1.N 1) (vc91x1.O 0) (vc91x1.O 1) (vc91x1.KI 0) (vc91x1.KI 1) (vc91x1.KV 0) (vc91x1.KV 1) (vc91x1.R 0) (vc91x1.LS 0) (vc91x1.mean 0) (vc91x1.M 0) (vc91x1.M 1) (vc91x1.N 2) (vc91x1.N 3) (vc91x1.cn 0) (vc91x1.cs 0) (vc91x1.N 4) (vc91x1.V 0) (vc91x1.cl 0) (vc91x1.outer 0) (vc91x1.H 0) (vc91x1.N 5) (vc91x1.M 2) (vc91x1.s 0) (vc91x1.Q 0) (vc91x1.Q 1) (vc91x1.H 1) (vc91x1.N 6) (vc91x1.H 2)), fun hPc91x2 hPc91x3 => ?main⟩
  case main =>
    intro hm1 hs1 hd1 hf1 hm2 hs2 hd2 hf2 hnd hlen1 hlen2 qz23 qz25 hret qz33 qz34 qz36 qz37
    generalize vc91x1.W 0 = w, vc91x1.N 0 = d1, vc91x1.N 1 = d2, vc91x1.O 0 = o1, vc91x1.O 1 = o2, vc91x1.KI 0 = c1, vc91x1.KI 1 = c2, vc91x1.KV 0 = kvs1, vc91x1.KV 1 = kvs2, vc91x1.R 0 = news, vc91x1.LS 0 = qz1, vc91x1.mean 0 = qz2, vc91x1.M 0 = qz3, vc91x1.M 1 = qz4, vc91x1.N 2 = qz5, vc91x1.N 3 = qz6, vc91x1.cn 0 = qz7, vc91x1.cs 0 = qz8, vc91x1.N 4 = qz9, vc91x1.V 0 = qz10, vc91x1.cl 0 = qz11, vc91x1.outer 0 = qz12, vc91x1.H 0 = qz15, vc91x1.N 5 = qz16, vc91x1.M 2 = qz17, vc91x1.s 0 = qz18, vc91x1.Q 0 = qz19, vc91x1.Q 1 = qz20, vc91x1.H 1 = qz29, vc91x1.N 6 = qz30, vc91x1.H 2 = qz31 at *
    k_steps
    ((rename Fr _ _ _ _ => lF'); (rename News _ _ _ _ => lN'); with_unfolding_all ((refine' For_turns lF' ?_); k_whole; (refine MethodCall_ ?_); (refine ld lF' (by rfl) ?_); (refine getMethod_tab (knd := PySem.intKind _ _) (enc := PyData.int) PySem.F.slot_dict_items PySem.F.type_dict_items (TabAt.ofNews (by k_asm) (List.Mem.tail _ hm1) hs1 hd1 hf1) ?_); (refine callWith_method0 ?_); (refine call_items_tab (knd := PySem.intKind _ _) (enc := PyData.int) (TabAt.ofNews (by k_asm) (List.Mem.tail _ hm1) hs1 hd1 hf1) lF' lN' ?_); intro h' o' hv' F' N'; (replace N' := kti_tail N')))
    (try clear lF')
    (try clear lN')
    rename_i d' _ oD l1 lo' _ _ hi' fi' _
    have hnews : ∀ p ∈ news, p.1 ≠ d' := fun p hp => Nat.ne_of_lt (l1 p hp)
    refine items_inv (st := [Str.ofString "func", Str.ofString "caller"]) (c := c1) (fun r u nw => ∃ cp o kvs, c1 = cp ++ r ∧ nw = (d', o) :: news ∧ o.IsDictOf (PySem.intKind Challenge.rw_zn0015_01.row.prog w) kvs ∧ PyProof.V.FlatPairs PyData.int kvs (kdfD cp)) (by rfl) F' N' hv' (List.Mem.tail _ hm1) hs1 hd1 hf1 ⟨[], _, [], rfl, rfl, hi', fi'⟩ ?_ ?_ ?_
    · rintro r u nw ⟨_, _, _, _, rfl, _⟩
      exact List.Mem.tail _ hm1
    · intro k e r u nw h tk I oI T t te hJ91 hT hcl hne F'' N''
      refine hideG fun nG => ?_
      obtain ⟨cp, o, kvs, hc, rfl, hd, hf⟩ := hJ91
      have hcp : cp.length ≤ 1000 := by have := congrArg List.length hc; rw [List.length_append] at this; lia
      have hI : I ≠ d' := fun e => hne (d', o) (.head _) e.symm
      (try clear F')
      (try clear N')
      (try clear hv')
      (try clear hi')
      (try clear fi')
      refine nG ?_
      (try clear nG)
      rename_i qz38 qz39 qz40 qz41 qz42
      revert hm1 hs1 hd1 hf1 hm2 hs2 hd2 hf2 hnd hlen1 hlen2 qz23 qz25 hret qz36 qz37 hnews hT F'' hc hne N'' hd hf hcp hI
      exact hPc91x2 qz38 d' qz42 h' k e r u h tk I oI T t te cp o kvs
    · intro u nw h tk hJ92 F'' N''
      refine hideG fun nG => ?_
      obtain ⟨cp, o, kvs, hc, rfl, hd, hf⟩ := hJ92
      rw [List.append_nil] at hc
      subst hc
      (try clear F')
      (try clear N')
      (try clear hv')
      (try clear hi')
      (try clear fi')
      (try clear hd1)
      (try clear hf1)
      refine nG ?_
      (try clear nG)
      rename_i qz43 qz44 qz45 qz46 qz47
      revert hm1 hs1 hm2 hs2 hd2 hf2 hnd hlen1 hlen2 qz23 qz25 hret qz36 qz37 l1 lo' hnews F'' N'' hd hf
      exact hPc91x3 qz43 d' qz47 h' u h tk o kvs
noncomputable def pc91x2 (v : Vars) : Prop := ktc91x1.1.1 (v.N 0) (v.N 1) (v.H 0) (v.H 1) (v.I 0) (v.I 1) (v.KI 0) (v.M 0) (v.H 2) (v.N 2) (v.N 3) (v.O 0) (v.N 4) (v.N 5) (v.N 6) (v.KI 1) (v.O 1) (v.KV 0)
@[irreducible] noncomputable def vc91x2 : Vars := hk pc91x2
theorem tc91x2 : pc91x2 vc91x2 := by
  intro hm1 hs1 hd1 hf1 hm2 hs2 hd2 hf2 hnd hlen1 hlen2 qz23 qz25 hret qz36 qz37 hnews hT F'' hc hne N'' hd hf hcp hI
  generalize vc91x1.W 0 = w, vc91x1.N 0 = d1, vc91x1.N 1 = d2, vc91x1.O 0 = o1, vc91x1.O 1 = o2, vc91x1.KI 0 = c1, vc91x1.KI 1 = c2, vc91x1.KV 0 = kvs1, vc91x1.KV 1 = kvs2, vc91x1.R 0 = news, vc91x1.LS 0 = qz1, vc91x1.mean 0 = qz2, vc91x1.M 0 = qz3, vc91x1.M 1 = qz4, vc91x1.N 2 = qz5, vc91x1.N 3 = qz6, vc91x1.cn 0 = qz7, vc91x1.cs 0 = qz8, vc91x1.N 4 = qz9, vc91x1.V 0 = qz10, vc91x1.cl 0 = qz11, vc91x1.outer 0 = qz12, vc91x1.H 0 = qz15, vc91x1.N 5 = qz16, vc91x1.M 2 = qz17, vc91x1.s 0 = qz18, vc91x1.Q 0 = qz19, vc91x1.Q 1 = qz20, vc91x1.H 1 = qz29, vc91x1.N 6 = qz30, vc91x2.N 0 = qz38, vc91x2.N 1 = d', vc91x2.H 0 = qz42, vc91x2.H 1 = h', vc91x2.I 0 = k, vc91x2.I 1 = e, vc91x2.KI 0 = r, vc91x2.M 0 = u, vc91x2.H 2 = h, vc91x2.N 2 = tk, vc91x2.N 3 = I, vc91x2.O 0 = oI, vc91x2.N 4 = T, vc91x2.N 5 = t, vc91x2.N 6 = te, vc91x2.KI 1 = cp, vc91x2.O 1 = o, vc91x2.KV 0 = kvs at *
  k_steps
  rename_i o₂ kvs₂ _ _ hd₂ hf₂
  rw [kdfPut_new (nodup_mid (hc ▸ hnd))] at hf₂
  exact TEnd.mk (by assumption) (by assumption) ((d', o₂) :: news) (fun p hp => by first | exact hp | exact .tail _ hp | exact .tail _ (.tail _ hp)) (ne_head hne) (by repeat (first | exact off_base | refine off_if rfl ?_)) ⟨cp ++ [(k, e)], o₂, _, by rw [hc, List.append_assoc]; rfl, rfl, hd₂, hf₂⟩
theorem ac91x2 : ∀ v, pc91x2 v := hkv tc91x2 (by unfold vc91x2; rfl)
noncomputable def pc91x3 (v : Vars) : Prop := ktc91x1.1.2 (v.N 0) (v.N 1) (v.H 0) (v.H 1) (v.M 0) (v.H 2) (v.N 2) (v.O 0) (v.KV 0)
@[irreducible] noncomputable def vc91x3 : Vars := hk pc91x3
noncomputable def ktc91x3 : {P : (yH→yI→yI→yKI→yM→yH→yN→yN→yO→yN→yN→yN→yKI→yO→yKV→Prop) × (yH→yM→yH→yN→yO→yKV→Prop) // (∀ x1 x2 x3 x4 x5 x6 x7 x8 x9 x10 x11 x12 x13 x14 x15, P.1 x1 x2 x3 x4 x5 x6 x7 x8 x9 x10 x11 x12 x13 x14 x15) → (∀ x1 x2 x3 x4 x5 x6, P.2 x1 x2 x3 x4 x5 x6) → pc91x3 vc91x3} := by
  refine' ⟨((_ : yW→yN→yN→yO→yO→yKI→yKI→yKV→yR→yLS→ymean→yM→yM→yN→yN→ycn→ycs→yN→yV→ycl→youter→yH→yN→yM→ys→yQ→yQ→yH→yN→yN→yN→yH→yH→yM→yH→yN→yO→yKV→yH→yI→yI→yKI→yM→yH→yN→yN→yO→yN→yN→yN→yKI→yO→yKV→Prop) (vc91x1.W 0) (vc91x1.N 0) (vc91x1.N 1) (vc91x1.O 0) (vc91x1.O 1) (vc91x1.KI 0) (vc91x1.KI 1) (vc91x1.KV 1) (vc91x1.R 0) (vc91x1.LS 0) (vc91x1.mean 0) (vc91x1.M 0) (vc91x1.M 1) (vc91x1.N 2) (vc91x1.N 3) (vc91x1.cn 0) (vc91x1.cs 0) (vc91x1.N 4) (vc91x1.V 0) (vc91x1.cl 0) (vc91x1.outer 0) (vc91x1.H 0) (vc91x1.N 5) (vc91x1.M 2) (vc91x1.s 0) (vc91x1.Q 0) (vc91x1.Q 1) (vc91x1.H 1) (vc91x1.N 6) (vc91x3.N 0) (vc91x3.N 1) (vc91x3.H 0) (vc91x3.H 1) (vc91x3.M 0) (vc91x3.H 2) (vc91x3.N 2) (vc91x3.O 0) (vc91x3.KV 0), (_ : yW→yN→yN→yO→yO→yKI→yKI→yKV→yR→yLS→ymean→yM→yM→yN→yN→ycn→ycs→yN→yV→ycl→youter→yH→yN→yM→ys→yQ→yQ→yH→yN→yN→yN→yH→yH→yM→yH→yN→yO→yKV→yH→yM→yH→yN→yO→yKV→Prop) (vc91x1.W 0) (vc91x1.N 0) (vc91x1.N 1) (vc91x1.O 0) (vc91x1.O 1) (vc91x1.KI 0) (vc91x1.KI 1) (vc91x1.KV 1) (vc91x1.R 0) (vc91x1.LS 0) (vc91x1.mean 0) (vc91x1.M 0) (vc91x1.M 1) (vc91x1.N 2) (vc91x1.N 3) (vc91x1.cn 0) (vc91x1.cs 0) (vc91x1.N 4) (vc91x1.V 0) (vc91x1.cl 0) (vc91x1.outer 0) (vc91x1.H 0) (vc91x1.N 5) (vc91x1.M 2) (vc91x1.s 0) (vc91x1.Q 0) (vc91x1.Q 1) (vc91x1.H 1) (vc91x1.N 6) (vc91x3.N 0) (vc91x3.N 1) (vc91x3.H 0) (vc91x3.H 1) (vc91x3.M 0) (vc91x3.H 2) (vc91x3.N 2) (vc91x3.O 0) (vc91x3.KV 0)), fun hPc91x4 hPc91x5 => ?main⟩
  case main =>
    intro hm1 hs1 hm2 hs2 hd2 hf2 hnd hlen1 hlen2 qz23 qz25 hret qz36 qz37 l1 lo' hnews Fq2 Nq2 hd hf
    generalize vc91x1.W 0 = w, vc91x1.N 0 = d1, vc91x1.N 1 = d2, vc91x1.O 0 = o1, vc91x1.O 1 = o2, vc91x1.KI 0 = c1, vc91x1.KI 1 = c2, vc91x1.KV 1 = kvs2, vc91x1.R 0 = news, vc91x1.LS 0 = qz1, vc91x1.mean 0 = qz2, vc91x1.M 0 = qz3, vc91x1.M 1 = qz4, vc91x1.N 2 = qz5, vc91x1.N 3 = qz6, vc91x1.cn 0 = qz7, vc91x1.cs 0 = qz8, vc91x1.N 4 = qz9, vc91x1.V 0 = qz10, vc91x1.cl 0 = qz11, vc91x1.outer 0 = qz12, vc91x1.H 0 = qz15, vc91x1.N 5 = qz16, vc91x1.M 2 = qz17, vc91x1.s 0 = qz18, vc91x1.Q 0 = qz19, vc91x1.Q 1 = qz20, vc91x1.H 1 = qz29, vc91x1.N 6 = qz30, vc91x3.N 0 = qz43, vc91x3.N 1 = d', vc91x3.H 0 = qz47, vc91x3.H 1 = h', vc91x3.M 0 = u, vc91x3.H 2 = h, vc91x3.N 2 = tk, vc91x3.O 0 = o, vc91x3.KV 0 = kvs at *
    k_steps
    ((rename Fr _ _ _ _ => lF'); (rename News _ _ _ _ => lN'); with_unfolding_all ((refine' For_turns lF' ?_); k_whole; (refine MethodCall_ ?_); (refine ld lF' (by rfl) ?_); (refine getMethod_tab (knd := PySem.intKind _ _) (enc := PyData.int) PySem.F.slot_dict_items PySem.F.type_dict_items (TabAt.ofNews (by k_asm) (List.Mem.tail _ hm2) hs2 hd2 hf2) ?_); (refine callWith_method0 ?_); (refine call_items_tab (knd := PySem.intKind _ _) (enc := PyData.int) (TabAt.ofNews (by k_asm) (List.Mem.tail _ hm2) hs2 hd2 hf2) lF' lN' ?_); intro h' o' hv' F' N'; (replace N' := kti_tail N')))
    (try clear lF')
    (try clear lN')
    refine items_inv (st := [Str.ofString "func", Str.ofString "caller"]) (c := c2) (fun r u nw => ∃ cp' o kvs, c2 = cp' ++ r ∧ nw = (d', o) :: news ∧ o.IsDictOf (PySem.intKind Challenge.rw_zn0015_01.row.prog w) kvs ∧ PyProof.V.FlatPairs PyData.int kvs (kdfD (addTo c1 cp'))) (by rfl) F' N' hv' (List.Mem.tail _ hm2) hs2 hd2 hf2 ⟨[], _, _, rfl, rfl, hd, hf⟩ ?_ ?_ ?_
    · rintro r u nw ⟨_, _, _, _, rfl, _⟩
      exact List.Mem.tail _ hm2
    · intro k e r u nw h tk I oI T t te hJ93 hT hcl hne F'' N''
      refine hideG fun nG => ?_
      obtain ⟨cp', o, kvs, hc, rfl, hd, hf⟩ := hJ93
      have hcp : (addTo c1 cp').length ≤ 2000 := by have := congrArg List.length hc; rw [List.length_append] at this; have := addTo_len cp' c1; lia
      have hI : I ≠ d' := fun e => hne (d', o) (.head _) e.symm
      (try clear F')
      (try clear N')
      (try clear hv')
      (try clear hd2)
      (try clear hf2)
      refine nG ?_
      (try clear nG)
      rename_i qz48 qz49
      revert hm1 hs1 hm2 hs2 hnd hlen1 hlen2 qz23 qz25 hret qz36 qz37 lo' hnews hT F'' hc hne N'' hd hf hcp hI
      exact hPc91x4 h' k e r u h tk I oI T t te cp' o kvs
    · intro u nw h tk hJ94 F'' N''
      refine hideG fun nG => ?_
      obtain ⟨cp', o, kvs, hc, rfl, hd, hf⟩ := hJ94
      rw [List.append_nil] at hc
      subst hc
      (try clear F')
      (try clear N')
      (try clear hv')
      (try clear hd2)
      (try clear hf2)
      refine nG ?_
      (try clear nG)
      rename_i qz50 qz51
      revert hm1 hs1 hm2 hs2 hnd hlen1 hlen2 qz23 qz25 hret qz36 qz37 l1 lo' F'' N'' hd hf
      exact hPc91x5 h' u h tk o kvs
noncomputable def pc91x4 (v : Vars) : Prop := ktc91x3.1.1 (v.H 0) (v.I 0) (v.I 1) (v.KI 0) (v.M 0) (v.H 1) (v.N 0) (v.N 1) (v.O 0) (v.N 2) (v.N 3) (v.N 4) (v.KI 1) (v.O 1) (v.KV 0)
@[irreducible] noncomputable def vc91x4 : Vars := hk pc91x4
theorem tc91x4 : pc91x4 vc91x4 := by
  intro hm1 hs1 hm2 hs2 hnd hlen1 hlen2 qz23 qz25 hret qz36 qz37 lo' hnews hT F'' hc hne N'' hd hf hcp hI
  generalize vc91x1.W 0 = w, vc91x1.N 0 = d1, vc91x1.N 1 = d2, vc91x1.O 0 = o1, vc91x1.O 1 = o2, vc91x1.KI 0 = c1, vc91x1.KI 1 = c2, vc91x1.R 0 = news, vc91x1.LS 0 = qz1, vc91x1.mean 0 = qz2, vc91x1.M 0 = qz3, vc91x1.M 1 = qz4, vc91x1.N 2 = qz5, vc91x1.N 3 = qz6, vc91x1.cn 0 = qz7, vc91x1.cs 0 = qz8, vc91x1.N 4 = qz9, vc91x1.V 0 = qz10, vc91x1.cl 0 = qz11, vc91x1.outer 0 = qz12, vc91x1.H 0 = qz15, vc91x1.N 5 = qz16, vc91x1.M 2 = qz17, vc91x1.s 0 = qz18, vc91x1.Q 0 = qz19, vc91x1.Q 1 = qz20, vc91x1.H 1 = qz29, vc91x1.N 6 = qz30, vc91x3.N 1 = d', vc91x3.H 1 = h', vc91x3.M 0 = u, vc91x3.H 2 = h, vc91x3.N 2 = tk, vc91x3.O 0 = o, vc91x3.KV 0 = kvs, vc91x4.H 0 = h', vc91x4.I 0 = k, vc91x4.I 1 = e, vc91x4.KI 0 = r, vc91x4.M 0 = u, vc91x4.H 1 = h, vc91x4.N 0 = tk, vc91x4.N 1 = I, vc91x4.O 0 = oI, vc91x4.N 2 = T, vc91x4.N 3 = t, vc91x4.N 4 = te, vc91x4.KI 1 = cp', vc91x4.O 1 = o, vc91x4.KV 0 = kvs at *
  k_steps
  · rename_i o₂ kvs₂ _ _ hd₂ hf₂
    exact TEnd.mk (by assumption) (by assumption) ((d', o₂) :: news) (fun p hp => by first | exact hp | exact .tail _ hp | exact .tail _ (.tail _ hp)) (ne_head hne) (by repeat (first | exact off_base | refine off_if rfl ?_)) ⟨cp' ++ [(k, e)], o₂, _, by rw [hc, List.append_assoc]; rfl, rfl, hd₂, by rw [addTo_snoc]; exact hf₂⟩
  · rename_i hno _ o₂ kvs₂ _ _ hd₂ hf₂
    have e0 : kdfPut (addTo c1 cp') k e = addTo c1 (cp' ++ [(k, e)]) := by rw [addTo_snoc, kdfLook_none hno, Int.zero_add]
    rw [e0] at hf₂
    exact TEnd.mk (by assumption) (by assumption) ((d', o₂) :: news) (fun p hp => by first | exact hp | exact .tail _ hp | exact .tail _ (.tail _ hp)) (ne_head hne) (by repeat (first | exact off_base | refine off_if rfl ?_)) ⟨cp' ++ [(k, e)], o₂, _, by rw [hc, List.append_assoc]; rfl, rfl, hd₂, hf₂⟩
theorem ac91x4 : ∀ v, pc91x4 v := hkv tc91x4 (by unfold vc91x4; rfl)
noncomputable def pc91x5 (v : Vars) : Prop := ktc91x3.1.2 (v.H 0) (v.M 0) (v.H 1) (v.N 0) (v.O 0) (v.KV 0)
@[irreducible] noncomputable def vc91x5 : Vars := hk pc91x5
theorem tc91x5 : pc91x5 vc91x5 := by
  intro hm1 hs1 hm2 hs2 hnd hlen1 hlen2 qz23 qz25 hret qz36 qz37 l1 lo' F'' N'' hd hf
  generalize vc91x1.W 0 = w, vc91x1.N 0 = d1, vc91x1.N 1 = d2, vc91x1.O 0 = o1, vc91x1.O 1 = o2, vc91x1.KI 0 = c1, vc91x1.KI 1 = c2, vc91x1.R 0 = news, vc91x1.LS 0 = qz1, vc91x1.mean 0 = qz2, vc91x1.M 0 = qz3, vc91x1.M 1 = qz4, vc91x1.N 2 = qz5, vc91x1.N 3 = qz6, vc91x1.cn 0 = qz7, vc91x1.cs 0 = qz8, vc91x1.N 4 = qz9, vc91x1.V 0 = qz10, vc91x1.cl 0 = qz11, vc91x1.outer 0 = qz12, vc91x1.H 0 = qz15, vc91x1.N 5 = qz16, vc91x1.M 2 = qz17, vc91x1.s 0 = qz18, vc91x1.Q 0 = qz19, vc91x1.Q 1 = qz20, vc91x1.H 1 = qz29, vc91x1.N 6 = qz30, vc91x3.N 1 = d', vc91x3.H 1 = h', vc91x3.M 0 = u, vc91x3.H 2 = h, vc91x3.N 2 = tk, vc91x3.O 0 = o, vc91x3.KV 0 = kvs, vc91x5.H 0 = h', vc91x5.M 0 = u, vc91x5.H 1 = h, vc91x5.N 0 = tk, vc91x5.O 0 = o, vc91x5.KV 0 = kvs at *
  k_steps
  exact hret _ _ _ _ (by assumption) (by assumption) ⟨d', o, kvs, rfl, rfl, l1, lo', hd, hf⟩
theorem ac91x5 : ∀ v, pc91x5 v := hkv tc91x5 (by unfold vc91x5; rfl)
theorem tc91x3 : pc91x3 vc91x3 := ktc91x3.2 (fun x1 x2 x3 x4 x5 x6 x7 x8 x9 x10 x11 x12 x13 x14 x15 => ac91x4 {d0v with H := sl x1 [x6], N := sl x7 [x8, x10, x11, x12], O := sl x9 [x14], I := sl x2 [x3], M := sl x5 [], KV := sl x15 [], KI := sl x4 [x13]}) (fun x1 x2 x3 x4 x5 x6 => ac91x5 {d0v with H := sl x1 [x3], N := sl x4 [], O := sl x5 [], M := sl x2 [], KV := sl x6 []})
theorem ac91x3 : ∀ v, pc91x3 v := hkv tc91x3 (by unfold vc91x3; rfl)
theorem tc91x1 : pc91x1 vc91x1 := ktc91x1.2 (fun x1 x2 x3 x4 x5 x6 x7 x8 x9 x10 x11 x12 x13 x14 x15 x16 x17 x18 => ac91x2 {d0v with H := sl x3 [x4, x9], N := sl x1 [x2, x10, x11, x13, x14, x15], O := sl x12 [x17], I := sl x5 [x6], M := sl x8 [], KV := sl x18 [], KI := sl x7 [x16]}) (fun x1 x2 x3 x4 x5 x6 x7 x8 x9 => ac91x3 {d0v with H := sl x3 [x4, x6], N := sl x1 [x2, x7], O := sl x8 [], M := sl x5 [], KV := sl x9 []})
theorem ac91x1 : ∀ v, pc91x1 v := hkv tc91x1 (by unfold vc91x1; rfl)
theorem Tc91 : Sc91 := kTc91.2 (fun x1 x2 x3 x4 x5 x6 x7 x8 x9 x10 x11 x12 x13 x14 x15 x16 x17 x18 x19 x20 x21 x22 x23 x24 x25 x26 x27 x28 x29 x30 x31 => ac91x1 {d0v with W := sl x1 [], LS := sl x11 [], mean := sl x12 [], cn := sl x17 [], cs := sl x18 [], cl := sl x21 [], outer := sl x22 [], s := sl x26 [], H := sl x23 [x29, x31], N := sl x2 [x3, x15, x16, x19, x24, x30], O := sl x4 [x5], V := sl x20 [], M := sl x13 [x14, x25], KV := sl x8 [x9], R := sl x10 [], Q := sl x27 [x28], KI := sl x6 [x7]})
theorem c91 : Sc91 := Tc91
section
local macro_rules | `(tactic| k_mem) => `(tactic| assumption)
local macro_rules | `(tactic| k_all) => `(tactic| exact off_of (by assumption) (by lia))
local macro_rules | `(tactic| lcg_sub) => `(tactic| (intro p9 hp9; k_ownIn))
local macro_rules | `(tactic| is_list) => `(tactic| exact News.isList (by k_asm) (by k_mem))
local macro_rules | `(tactic| walk_at "exec For Name Call cons nil") => `(tactic| (k_here; (rename Fr _ _ _ _ => lF'); (rename News _ _ _ _ => lN'); with_unfolding_all ((refine' For_turns lF' ?_); k_whole; (refine MethodCall_ ?_); (refine ld lF' (by rfl) ?_); (refine getMethod_tab (knd := PySem.intKind _ _) (enc := PyData.int) PySem.F.slot_dict_values PySem.F.type_dict_values (by k_tabat) ?_); (refine callWith_method0 ?_); (refine call_values_tab (knd := PySem.intKind _ _) (enc := PyData.int) (by k_tabat) lF' lN' ?_); intro h' o' hv' F' N'; (replace N' := kti_tail N')); clear lF' lN'))
local macro_rules | `(tactic| walk_at "CompRest") => `(tactic| (with_unfolding_all first
  | (refine LCg.CompRest.succ ?_; intro v' I' oI' C' oC' D' m' h' tk' E' hv' hC' hx' F' N' off' ne'; (first | lcg_open hv' | (obtain ⟨t9', hv9'⟩ := hv'; subst hv9')); (try clear ne'))
  | refine LCg.CompRest.zero ?_))
local macro_rules | `(tactic| walk_at "CompEnd") => `(tactic| (refine LCg.CompEnd.intro (by assumption) (by assumption) _ (fun _ h => h) (by assumption) (by lcg_src) ?_))
local macro_rules | `(tactic| walk_at "CompSrc") => `(tactic| (k_here; k_dflt (refine LCg.CompSrc.ledger (by rfl) (by k_asm) (by k_asm) (by k_mem) (by first | size_fits | exact Nat.le_of_ble_eq_true rfl) ?_; intro g'; lcg_lit)))
local macro_rules | `(tactic| walk_at "subscriptTail") => `(tactic| (k_here; (with_reducible show wpAny _ _ (subscriptTail _ _ (Value.ref _) (Value.int _ _)) _ _ _); k_dflt (refine' item_at ?N ?m ?a ?b ?c ?_ ?hs; (case N => k_asm); (case m => k_mem); (case c => first | assumption | (rw [List.getElem?_set_ne (by first | assumption | exact Ne.symm (by assumption))]; assumption) | (rw [List.getElem?_set_ne (by first | assumption | exact Ne.symm (by assumption)), List.getElem?_set_ne (by first | assumption | exact Ne.symm (by assumption))]; assumption)); (case a => assumption); (case b => assumption); (case hs => with_unfolding_all rfl))))
local macro_rules | `(tactic| walk_at "subscriptTail Name Name ref int") => `(tactic| (k_here; (with_reducible show wpAny _ _ (subscriptTail _ _ (Value.ref _) (Value.int _ _)) _ _ _); k_dflt (refine' item_at ?N ?m ?a ?b ?c ?_ ?hs; (case N => k_asm); (case m => k_mem); (case c => first | assumption | rfl | (rw [List.getElem?_set_ne (by first | assumption | exact Ne.symm (by assumption))]; assumption) | (rw [List.getElem?_set_ne (by first | assumption | exact Ne.symm (by assumption)), List.getElem?_set_ne (by first | assumption | exact Ne.symm (by assumption))]; assumption)); (case a => first | assumption | decide); (case b => first | assumption | decide); (case hs => with_unfolding_all rfl))))
local macro_rules | `(tactic| walk_at "setItem ref int") => `(tactic| (k_here; (with_reducible show wpAny _ _ (setItem (Value.ref _) (Value.int _ _) _) _ _ _); k_dflt (refine' setItem_at ?F ?N ?U ?a ?b ?c ?_; (case F => k_asm); (case N => k_asm); (case U => k_upd); (case a => assumption); (case b => (try simp only [List.length_set]); assumption); (case c => assumption)); intro h' F' N'; (try dsimp only at N'); (try k_sweep)))
local macro_rules | `(tactic| walk_at "eval Dict") => `(tactic| (k_here; k_dflt (refine' kdn_eval (knd := PySem.intKind _ _) ?F ?N ?b ?a ?l ?e ?n ?_; (case F => k_asm); (case N => k_asm); (case b => exact Top.nolimit (by k_asm)); (case a => rfl); (case l => rfl); (case e => exact List.cons_ne_nil _ _); (case n => exact Nat.le_of_ble_eq_true rfl)); intro d' h' o' F' N' l1 lo' hd'; (try k_lt l1)))
local macro_rules | `(tactic| walk_at "newTuple") => `(tactic| (k_here; k_dflt (refine' kup_newTuple ?F ?N ?_ ?z; (case F => k_asm); (case N => k_asm); (case z => kmk_size)); intro D' h' F' N' l1; (try dsimp only at N'); (try k_lt l1); (try k_sweep)))
local macro_rules | `(tactic| walk_at "exec For Name Name cons nil") => `(tactic| (k_here; (rename Fr _ _ _ _ => lF'); with_unfolding_all ((refine' For_turns lF' ?_); k_whole)))
local macro_rules | `(tactic| walk_at "KdnMade") => `(tactic| (k_here; k_dflt (refine' made2 ?F ?N ?U ?d ?n ?_; (case F => k_asm); (case N => k_asm); (case U => k_updF); (case d => k_asm); (case n => first | assumption | exact Ne.symm (by assumption)); intro h' o' kvs' F' N' hd' hf'); (try dsimp only at N')))
theorem w0A98 : True := by w_top off; trivial
noncomputable def Sc98 : Prop := ∀ (w : World) (d1 : Addr) (o1 : Obj) (c1 : List (Int × Int)) (kvs1 : List (Int × Value)) (news : List (Addr × Obj)),
   (d1, o1) ∈ news → (d1 == sysModules) = false → o1.IsDictOf (PySem.intKind Challenge.rw_zn0015_01.row.prog w) kvs1 → PyProof.V.FlatPairs PyData.int kvs1 (kdfD c1) →
   Ct w 98 10 news [.ref d1] (fun r news' => ∃ t, r = .int (c1.map (·.2)).sum t ∧ news' = news)
noncomputable def kTc98 : {P : (yW→yN→yO→yKI→yKV→yR→yLS→ymean→yM→yM→yN→yN→ycn→ycs→yN→yV→ycl→youter→yH→yN→yM→ys→yQ→yQ→yH→yN→yH→Prop) // (∀ x1 x2 x3 x4 x5 x6 x7 x8 x9 x10 x11 x12 x13 x14 x15 x16 x17 x18 x19 x20 x21 x22 x23 x24 x25 x26 x27, P x1 x2 x3 x4 x5 x6 x7 x8 x9 x10 x11 x12 x13 x14 x15 x16 x17 x18 x19 x20 x21 x22 x23 x24 x25 x26 x27) → Sc98} := by
  refine' ⟨_, fun hPc98x1 => ?main⟩
  case main =>
    unfold Sc98
    unfold Ct
    k_fill
    intro w d1 o1 c1 kvs1 news hm1 hs1 hd1 hf1
    intros
    rename_i hret
    w_on
    refine wpAny_call ?_
    k_dflt cell_enter
    rename_i z1 z2 z3 z4 z5 z6 z7 z8 z9 z10 z11 z12 z13 z14 z15 z16 z17 z18 z19 z20 z21 z22 z23 z24 z25 z26 z27 z28 z29 z30 z31 z32 z33 z34 z35 z36 z37
    revert hm1 hs1 hd1 hf1 z23 z24 z25 hret z33 z34
    exact hPc98x1 w d1 o1 c1 kvs1 news z1 z2 z3 z4 z5 z6 z7 z8 z9 z10 z11 z12 z15 z16 z17 z18 z19 z20 z29 z30 z31
noncomputable def pc98x1 (v : Vars) : Prop := kTc98.1 (v.W 0) (v.N 0) (v.O 0) (v.KI 0) (v.KV 0) (v.R 0) (v.LS 0) (v.mean 0) (v.M 0) (v.M 1) (v.N 1) (v.N 2) (v.cn 0) (v.cs 0) (v.N 3) (v.V 0) (v.cl 0) (v.outer 0) (v.H 0) (v.N 4) (v.M 2) (v.s 0) (v.Q 0) (v.Q 1) (v.H 1) (v.N 5) (v.H 2)
@[irreducible] noncomputable def vc98x1 : Vars := hk pc98x1
theorem tc98x1 : pc98x1 vc98x1 := by
  intro hm1 hs1 hd1 hf1 z23 z24 z25 hret z33 z34
  generalize (vc98x1.KI 0) = c1, (vc98x1.R 0) = news, (vc98x1.s 0) = z18 at *
  k_steps
  rename Heap.IsValuesView _ _ _ => hv'
  rename Fr _ _ _ _ => F'
  rename News _ _ _ _ => N'
  refine vals_inv (st := [Str.ofString "nc", Str.ofString "calls"]) (c := c1) (fun r u nw => nw = news ∧ ∃ a t, u (Str.ofString "nc") = some (.int a t) ∧ (c1.map (·.2)).sum = a + (r.map (·.2)).sum) (by rfl) F' N' hv' hm1 hs1 hd1 hf1 ⟨rfl, 0, _, rfl, by lia⟩ ?_ ?_ ?_
  · rintro r u nw ⟨rfl, _⟩
    exact hm1
  · rintro k e r u nw h tk I oI te ⟨rfl, a, t, hu, hc⟩ hcl hne F'' N''
    rw [map_set (Str.ofString "nc") _ rfl hu] at F''
    (try clear F')
    (try clear N')
    (try clear hv')
    k_steps
    exact TEnd.mk (by assumption) (by assumption) nw (fun p hp => hp) hne (by repeat (first | exact off_base | refine off_if rfl ?_)) ⟨rfl, _, _, rfl, by rw [hc, List.map_cons, List.sum_cons]; lia⟩
  · rintro u nw h tk ⟨rfl, a, t, hu, hc⟩ F'' N''
    rw [map_set (Str.ofString "nc") _ rfl hu] at F''
    have hc' : (c1.map (·.2)).sum = a := by rw [hc]; simp
    subst hc'
    (try clear F')
    (try clear N')
    (try clear hv')
    k_steps
    exact hret _ _ _ _ (by assumption) (by assumption) ⟨_, rfl, rfl⟩
theorem ac98x1 (v : Vars) : pc98x1 v := henkin (by have h := tc98x1; unfold vc98x1 at h; exact h) v
theorem Tc98 : Sc98 := kTc98.2 (fun x1 x2 x3 x4 x5 x6 x7 x8 x9 x10 x11 x12 x13 x14 x15 x16 x17 x18 x19 x20 x21 x22 x23 x24 x25 x26 x27 => ac98x1 {d0v with W := sel (d0v.W 0) [x1], LS := sel (d0v.LS 0) [x7], mean := sel (d0v.mean 0) [x8], cn := sel (d0v.cn 0) [x13], cs := sel (d0v.cs 0) [x14], cl := sel (d0v.cl 0) [x17], outer := sel (d0v.outer 0) [x18], s := sel (d0v.s 0) [x22], H := sel (d0v.H 0) [x19, x25, x27], N := sel (d0v.N 0) [x2, x11, x12, x15, x20, x26], O := sel (d0v.O 0) [x3], V := sel (d0v.V 0) [x16], M := sel (d0v.M 0) [x9, x10, x21], KV := sel (d0v.KV 0) [x5], R := sel (d0v.R 0) [x6], Q := sel (d0v.Q 0) [x23, x24], KI := sel (d0v.KI 0) [x4]})
theorem c98 : Sc98 := Tc98
theorem w0A21 : True := by w_top off; trivial
noncomputable def Sc21 : Prop := ∀ (w : World) (r g b : UInt64) (t1 t2 t3 : Tok) (news : List (Addr × Obj)),
   Ct w 21 10 news [.float r t1, .float g t2, .float b t3] (fun r' news' => ∃ a s1 s2 s3, r' = .ref a ∧ news' = (a, { cls := .type "tuple", data := .seq #[.float (fY r g b) s1, .float (fI r b (fY r g b)) s2, .float (fQ r b (fY r g b)) s3] }) :: news ∧ ∀ p ∈ news, p.1 < a)
noncomputable def kTc21 : {P : (yW→yF→yF→yF→yN→yN→yN→yR→yLS→ymean→yM→yM→yN→yN→ycn→ycs→yN→yV→ycl→youter→yH→yN→yM→ys→yQ→yQ→yH→yN→yH→Prop) // (∀ x1 x2 x3 x4 x5 x6 x7 x8 x9 x10 x11 x12 x13 x14 x15 x16 x17 x18 x19 x20 x21 x22 x23 x24 x25 x26 x27 x28 x29, P x1 x2 x3 x4 x5 x6 x7 x8 x9 x10 x11 x12 x13 x14 x15 x16 x17 x18 x19 x20 x21 x22 x23 x24 x25 x26 x27 x28 x29) → Sc21} := by
  refine' ⟨_, fun hPc21x1 => ?main⟩
  case main =>
    unfold Sc21
    unfold Ct
    k_fill
    intro w r g b t1 t2 t3 news
    intros
    rename_i hret
    w_on
    refine wpAny_call ?_
    k_dflt cell_enter
    rename_i z1 z2 z3 z4 z5 z6 z7 z8 z9 z10 z11 z12 z13 z14 z15 z16 z17 z18 z19 z20 z21 z22 z23 z24 z25 z26 z27 z28 z29 z30 z31 z32 z33 z34 z35 z36 z37
    revert z23 z25 hret z33 z34
    exact hPc21x1 w r g b t1 t2 t3 news z1 z2 z3 z4 z5 z6 z7 z8 z9 z10 z11 z12 z15 z16 z17 z18 z19 z20 z29 z30 z31
noncomputable def pc21x1 (v : Vars) : Prop := kTc21.1 (v.W 0) (v.F 0) (v.F 1) (v.F 2) (v.N 0) (v.N 1) (v.N 2) (v.R 0) (v.LS 0) (v.mean 0) (v.M 0) (v.M 1) (v.N 3) (v.N 4) (v.cn 0) (v.cs 0) (v.N 5) (v.V 0) (v.cl 0) (v.outer 0) (v.H 0) (v.N 6) (v.M 2) (v.s 0) (v.Q 0) (v.Q 1) (v.H 1) (v.N 7) (v.H 2)
@[irreducible] noncomputable def vc21x1 : Vars := hk pc21x1
theorem tc21x1 : pc21x1 vc21x1 := by
  intro z23 z25 hret z33 z34
  k_steps
  exact hret _ _ _ _ (by assumption) (by assumption) ⟨_, _, _, _, rfl, rfl, by assumption⟩
theorem ac21x1 (v : Vars) : pc21x1 v := henkin (by have h := tc21x1; unfold vc21x1 at h; exact h) v
theorem Tc21 : Sc21 := kTc21.2 (fun x1 x2 x3 x4 x5 x6 x7 x8 x9 x10 x11 x12 x13 x14 x15 x16 x17 x18 x19 x20 x21 x22 x23 x24 x25 x26 x27 x28 x29 => ac21x1 {d0v with W := sel (d0v.W 0) [x1], LS := sel (d0v.LS 0) [x9], mean := sel (d0v.mean 0) [x10], cn := sel (d0v.cn 0) [x15], cs := sel (d0v.cs 0) [x16], cl := sel (d0v.cl 0) [x19], outer := sel (d0v.outer 0) [x20], s := sel (d0v.s 0) [x24], H := sel (d0v.H 0) [x21, x27, x29], N := sel (d0v.N 0) [x5, x6, x7, x13, x14, x17, x22, x28], V := sel (d0v.V 0) [x18], M := sel (d0v.M 0) [x11, x12, x23], R := sel (d0v.R 0) [x8], Q := sel (d0v.Q 0) [x25, x26], F := sel (d0v.F 0) [x2, x3, x4]})
theorem c21 : Sc21 := Tc21
section
theorem w0A28 : True := by w_top off; trivial
structure FJoinV (x : Str) (v : UInt64) (h₀ : Heap) (L : Addr) (m : Str → Option Value) (news : List (Addr × Obj)) (s : Shared) (f : Flow) (s' : Shared) : Prop where
  next : f = .next
  here : ∃ t : Tok, KJoinAt h₀ L (fun y => if y = x then some (.float v t) else m y) news s s'
noncomputable def FJB (P : Prop) : Prop := P
section
variable {M : Model} {A : Around} {E : Value → Shared → Prop} {s : Shared} {env : Env} {h₀ : Heap} {L : Addr} {m : Str → Option Value} {news : List (Addr × Obj)}
theorem fj_if {test : PySem.Expr} {x : Str} {p q pos : Pos} {e : PySem.Expr} {c : Bool} {a v : UInt64} {t₀ : Tok} {Q : Flow → Shared → Prop} (_F : Fr h₀ L s.heap m) (_N : News h₀ L s.heap news)
    (hold : m x = some (.float a t₀))
    (hc : wpAny M A (isTrue test env (eval test env)) (fun k s₂ => KJoinC c h₀ L m news s k s₂) E s)
    (hv : KJoinB1 (c = true → ∀ s₂, KJoinAt h₀ L m news s s₂ → wpAny M A (exec (.Assign [.Name x p] e q) env) (fun f s₃ => FJoinV x v h₀ L m news s f s₃) E s₂))
    (hk : FJB (∀ (t : Tok) (s₃ : Shared), KJoinAt h₀ L (fun y => if y = x then some (.float (if c = true then v else a) t) else m y) news s s₃ → Q .next s₃)) :
    wpAny M A (exec (.If test [.Assign [.Name x p] e q] [] pos) env) Q E s := by
  refine wpAny_If (wpAny_mono hc (fun k s₂ hkc => ?_) fun _ _ h => h)
  obtain ⟨hkc, hat⟩ := hkc
  subst hkc
  cases k with
  | true =>
    show wpAny M A (execs [.Assign [.Name x p] e q] env) Q E s₂
    refine wpAny_execs_cons (wpAny_mono (hv rfl s₂ hat) (fun f s₃ hf => ?_) fun _ _ h => h)
    obtain ⟨hf, t, ht⟩ := hf
    subst hf
    exact wpAny_execs_nil (hk t s₃ ht)
  | false =>
    show wpAny M A (execs [] env) Q E s₂
    refine wpAny_execs_nil (hk t₀ s₂ ?_)
    have e : (fun y => if y = x then some (Value.float (if false = true then v else a) t₀) else m y) = m := by
      funext y
      by_cases hy : y = x
      · rw [if_pos hy, hy, hold]; rfl
      · rw [if_neg hy]
    rw [e]
    exact hat
end
local macro_rules | `(tactic| walk_at "exec If") => `(tactic| (k_here; (rename Fr _ _ _ _ => F'); (rename News _ _ _ _ => N'); apply fj_if F' N'; (case hold => with_unfolding_all rfl)))
local macro_rules | `(tactic| walk_at "FJoinV") => `(tactic| exact ⟨rfl, _, ⟨⟨_, _, rfl, by assumption, by assumption⟩⟩⟩)
local macro_rules | `(tactic| walk_at "FJB") => `(tactic| ((show ∀ _ _, _ → _); intro t' s' hJ'; obtain ⟨h', tk', e', F'', N''⟩ := KJoinAt.at_ hJ'; subst e'))
noncomputable def Sc28 : Prop := ∀ (w : World) (y i q : UInt64) (t1 t2 t3 : Tok) (news : List (Addr × Obj)),
   Ct w 28 10 news [.float y t1, .float i t2, .float q t3] (fun r news' => ∃ a s1 s2 s3, r = .ref a ∧ news' = (a, { cls := .type "tuple", data := .seq #[.float (fR y i q) s1, .float (fG y i q) s2, .float (fB y i q) s3] }) :: news ∧ ∀ p ∈ news, p.1 < a)
noncomputable def kTc28 : {P : (yW→yF→yF→yF→yN→yN→yN→yR→yLS→ymean→yM→yM→yN→yN→ycn→ycs→yN→yV→ycl→youter→yH→yN→yM→ys→yQ→yQ→yH→yN→yH→Prop) // (∀ x1 x2 x3 x4 x5 x6 x7 x8 x9 x10 x11 x12 x13 x14 x15 x16 x17 x18 x19 x20 x21 x22 x23 x24 x25 x26 x27 x28 x29, P x1 x2 x3 x4 x5 x6 x7 x8 x9 x10 x11 x12 x13 x14 x15 x16 x17 x18 x19 x20 x21 x22 x23 x24 x25 x26 x27 x28 x29) → Sc28} := by
  refine' ⟨_, fun hPc28x1 => ?main⟩
  case main =>
    unfold Sc28
    unfold Ct
    k_fill
    intro w y i q t1 t2 t3 news
    intros
    rename_i hret
    w_on
    refine wpAny_call ?_
    k_dflt cell_enter
    rename_i z1 z2 z3 z4 z5 z6 z7 z8 z9 z10 z11 z12 z13 z14 z15 z16 z17 z18 z19 z20 z21 z22 z23 z24 z25 z26 z27 z28 z29 z30 z31 z32 z33 z34 z35 z36 z37
    revert z23 z25 hret z33 z34
    exact hPc28x1 w y i q t1 t2 t3 news z1 z2 z3 z4 z5 z6 z7 z8 z9 z10 z11 z12 z15 z16 z17 z18 z19 z20 z29 z30 z31
noncomputable def pc28x1 (v : Vars) : Prop := kTc28.1 (v.W 0) (v.F 0) (v.F 1) (v.F 2) (v.N 0) (v.N 1) (v.N 2) (v.R 0) (v.LS 0) (v.mean 0) (v.M 0) (v.M 1) (v.N 3) (v.N 4) (v.cn 0) (v.cs 0) (v.N 5) (v.V 0) (v.cl 0) (v.outer 0) (v.H 0) (v.N 6) (v.M 2) (v.s 0) (v.Q 0) (v.Q 1) (v.H 1) (v.N 7) (v.H 2)
@[irreducible] noncomputable def vc28x1 : Vars := hk pc28x1
theorem tc28x1 : pc28x1 vc28x1 := by
  intro z23 z25 hret z33 z34
  k_steps
  exact hret _ _ _ _ (by assumption) (by assumption) ⟨_, _, _, _, rfl, rfl, by assumption⟩
theorem ac28x1 (v : Vars) : pc28x1 v := henkin (by have h := tc28x1; unfold vc28x1 at h; exact h) v
theorem Tc28 : Sc28 := kTc28.2 (fun x1 x2 x3 x4 x5 x6 x7 x8 x9 x10 x11 x12 x13 x14 x15 x16 x17 x18 x19 x20 x21 x22 x23 x24 x25 x26 x27 x28 x29 => ac28x1 {d0v with W := sel (d0v.W 0) [x1], LS := sel (d0v.LS 0) [x9], mean := sel (d0v.mean 0) [x10], cn := sel (d0v.cn 0) [x15], cs := sel (d0v.cs 0) [x16], cl := sel (d0v.cl 0) [x19], outer := sel (d0v.outer 0) [x20], s := sel (d0v.s 0) [x24], H := sel (d0v.H 0) [x21, x27, x29], N := sel (d0v.N 0) [x5, x6, x7, x13, x14, x17, x22, x28], V := sel (d0v.V 0) [x18], M := sel (d0v.M 0) [x11, x12, x23], R := sel (d0v.R 0) [x8], Q := sel (d0v.Q 0) [x25, x26], F := sel (d0v.F 0) [x2, x3, x4]})
theorem c28 : Sc28 := Tc28
end
section
theorem w0AOps : True := by w_top off; trivial
local macro_rules | `(tactic| k_all) => `(tactic| exact off_of (by assumption) (by omega))
theorem c63 : ∀ (w : World) (a b : Int) (s t : Tok) (news : List (Addr × Obj)), 
   Ct w 63 5 news [.int a s, .int b t] (fun r news' => ∃ t, r = .int (a + b) t ∧ news' = news) := by
  unfold Ct
  k_fill
  intros
  rename_i hret
  w_on
  refine wpAny_call ?_
  k_dflt cell_enter
  k_steps
  exact hret _ _ _ _ (by assumption) (by assumption) ⟨_, rfl, rfl⟩
theorem c77i : ∀ (w : World) (a b : Int) (s t : Tok) (news : List (Addr × Obj)), 
   Ct w 77 5 news [.int a s, .int b t] (fun r news' => ∃ t, r = .int (a - b) t ∧ news' = news) := by
  unfold Ct
  k_fill
  intros
  rename_i hret
  w_on
  refine wpAny_call ?_
  k_dflt cell_enter
  k_steps
  exact hret _ _ _ _ (by assumption) (by assumption) ⟨_, rfl, rfl⟩
theorem c77f : ∀ (w : World) (a b : UInt64) (s t : Tok) (news : List (Addr × Obj)), 
   Ct w 77 5 news [.float a s, .float b t] (fun r news' => ∃ t, r = .float (Float64.sub a b) t ∧ news' = news) := by
  unfold Ct
  k_fill
  intros
  rename_i hret
  w_on
  refine wpAny_call ?_
  k_dflt cell_enter
  k_steps
  exact hret _ _ _ _ (by assumption) (by assumption) ⟨_, rfl, rfl⟩
theorem c49f : ∀ (w : World) (a : UInt64) (s : Tok) (news : List (Addr × Obj)), 
   Ct w 49 5 news [.float a s] (fun r news' => ∃ t, r = .float (Float64.neg a) t ∧ news' = news) := by
  unfold Ct
  k_fill
  intros
  rename_i hret
  w_on
  refine wpAny_call ?_
  k_dflt cell_enter
  k_steps
  exact hret _ _ _ _ (by assumption) (by assumption) ⟨_, rfl, rfl⟩
theorem c42f : ∀ (w : World) (a b : UInt64) (s t : Tok) (news : List (Addr × Obj)), 
   Ct w 42 5 news [.float a s, .float b t] (fun r news' => ∃ t : Tok, r = .bool (Float64.cmp a b == some .eq) ∧ news' = news) := by
  unfold Ct
  k_fill
  intros
  rename_i hret
  w_on
  refine wpAny_call ?_
  k_dflt cell_enter
  k_steps
  exact hret _ _ _ _ (by assumption) (by assumption) ⟨0, rfl, rfl⟩
theorem c70i : ∀ (w : World) (a b : Int) (s t : Tok) (news : List (Addr × Obj)), 0 ≤ a → 0 ≤ b → a < 2 ^ 40 → b < 2 ^ 40 →
   Ct w 70 5 news [.int a s, .int b t] (fun r news' => ∃ t, r = .int (a * b) t ∧ news' = news) := by
  unfold Ct
  k_fill
  intros
  rename_i hret
  w_on
  refine wpAny_call ?_
  k_dflt cell_enter
  k_steps
  exact hret _ _ _ _ (by assumption) (by assumption) ⟨_, rfl, rfl⟩
theorem c56 : ∀ (w : World) (a b : Int) (s t : Tok) (news : List (Addr × Obj)), 0 ≤ a → a < 2 ^ 40 → 0 < b → b < 2 ^ 40 →
   Ct w 56 5 news [.int a s, .int b t] (fun r news' => ∃ t, r = .float (divF a b) t ∧ news' = news) := by
  unfold Ct
  k_fill
  intros
  rename_i hret
  w_on
  refine wpAny_call ?_
  k_dflt cell_enter
  k_steps
  exact hret _ _ _ _ (by assumption) (by assumption) ⟨_, rfl, rfl⟩
theorem c70f : ∀ (w : World) (a : UInt64) (b : Int) (s t : Tok) (news : List (Addr × Obj)), 0 ≤ b → b < 2 ^ 40 →
   Ct w 70 5 news [.float a s, .int b t] (fun r news' => ∃ t, r = .float (Float64.mul a (Float64.ofInt b)) t ∧ news' = news) := by
  unfold Ct
  k_fill
  intros
  rename_i hret
  w_on
  refine wpAny_call ?_
  k_dflt cell_enter
  k_steps
  exact hret _ _ _ _ (by assumption) (by assumption) ⟨_, rfl, rfl⟩
end
theorem w0A134 : True := by w_top off; trivial
theorem abs_if (x : Int) : (if x < 0 then -x else x) = (x.natAbs : Int) := by split <;> lia
noncomputable def Sc134 : Prop := ∀ (w : World) (o1 o2 : Addr) (x1 y1 x2 y2 : Int) (t1 t2 t3 t4 : Tok) (n1 n2 : Nat) (news : List (Addr × Obj)), (x1.natAbs < 1000 ∧ y1.natAbs < 1000 ∧ x2.natAbs < 1000 ∧ y2.natAbs < 1000) →
   (o1, ({ cls := .type "tuple", data := .seq #[.int x1 t1, .int y1 t2] n1 } : Obj)) ∈ news → (o2, ({ cls := .type "tuple", data := .seq #[.int x2 t3, .int y2 t4] n2 } : Obj)) ∈ news →
   Ct w 134 10 news [.ref o1, .ref o2] (fun r news' => ∃ t, r = .int ((x1 * y2 - y1 * x2).natAbs : Int) t ∧ news' = news)
noncomputable def kTc134 : {P : (yW→yN→yN→yI→yI→yI→yI→yN→yN→yN→yN→yN→yN→yR→yLS→ymean→yM→yM→yN→yN→ycn→ycs→yN→yV→ycl→youter→yH→yN→yM→ys→yQ→yQ→yH→yN→yH→Prop) // (∀ x1 x2 x3 x4 x5 x6 x7 x8 x9 x10 x11 x12 x13 x14 x15 x16 x17 x18 x19 x20 x21 x22 x23 x24 x25 x26 x27 x28 x29 x30 x31 x32 x33 x34 x35, P x1 x2 x3 x4 x5 x6 x7 x8 x9 x10 x11 x12 x13 x14 x15 x16 x17 x18 x19 x20 x21 x22 x23 x24 x25 x26 x27 x28 x29 x30 x31 x32 x33 x34 x35) → Sc134} := by
  refine' ⟨_, fun hPc134x1 => ?main⟩
  case main =>
    unfold Sc134
    unfold Ct
    k_fill
    intro w o1 o2 x1 y1 x2 y2 t1 t2 t3 t4 n1 n2 news hb m1 m2
    intros
    rename_i hret
    w_on
    refine wpAny_call ?_
    k_dflt cell_enter
    rename_i z1 z2 z3 z4 z5 z6 z7 z8 z9 z10 z11 z12 z13 z14 z15 z16 z17 z18 z19 z20 z21 z22 z23 z24 z25 z26 z27 z28 z29 z30 z31 z32 z33 z34 z35 z36 z37
    revert hb m1 m2 z23 z25 hret z33 z34 z36 z37
    exact hPc134x1 w o1 o2 x1 y1 x2 y2 t1 t2 t3 t4 n1 n2 news z1 z2 z3 z4 z5 z6 z7 z8 z9 z10 z11 z12 z15 z16 z17 z18 z19 z20 z29 z30 z31
noncomputable def pc134x1 (v : Vars) : Prop := kTc134.1 (v.W 0) (v.N 0) (v.N 1) (v.I 0) (v.I 1) (v.I 2) (v.I 3) (v.N 2) (v.N 3) (v.N 4) (v.N 5) (v.N 6) (v.N 7) (v.R 0) (v.LS 0) (v.mean 0) (v.M 0) (v.M 1) (v.N 8) (v.N 9) (v.cn 0) (v.cs 0) (v.N 10) (v.V 0) (v.cl 0) (v.outer 0) (v.H 0) (v.N 11) (v.M 2) (v.s 0) (v.Q 0) (v.Q 1) (v.H 1) (v.N 12) (v.H 2)
@[irreducible] noncomputable def vc134x1 : Vars := hk pc134x1
theorem tc134x1 : pc134x1 vc134x1 := by
  intro hb m1 m2 z23 z25 hret z33 z34 z36 z37
  generalize (vc134x1.s 0) = z18 at *
  k_steps
  rw [abs_if]
  exact hret _ _ _ _ (by assumption) (by assumption) ⟨_, rfl, rfl⟩
theorem ac134x1 (v : Vars) : pc134x1 v := henkin (by have h := tc134x1; unfold vc134x1 at h; exact h) v
theorem Tc134 : Sc134 := kTc134.2 (fun x1 x2 x3 x4 x5 x6 x7 x8 x9 x10 x11 x12 x13 x14 x15 x16 x17 x18 x19 x20 x21 x22 x23 x24 x25 x26 x27 x28 x29 x30 x31 x32 x33 x34 x35 => ac134x1 {d0v with W := sel (d0v.W 0) [x1], LS := sel (d0v.LS 0) [x15], mean := sel (d0v.mean 0) [x16], cn := sel (d0v.cn 0) [x21], cs := sel (d0v.cs 0) [x22], cl := sel (d0v.cl 0) [x25], outer := sel (d0v.outer 0) [x26], s := sel (d0v.s 0) [x30], H := sel (d0v.H 0) [x27, x33, x35], N := sel (d0v.N 0) [x2, x3, x8, x9, x10, x11, x12, x13, x19, x20, x23, x28, x34], V := sel (d0v.V 0) [x24], I := sel (d0v.I 0) [x4, x5, x6, x7], M := sel (d0v.M 0) [x17, x18, x29], R := sel (d0v.R 0) [x14], Q := sel (d0v.Q 0) [x31, x32]})
theorem c134 : Sc134 := Tc134
section
local macro_rules | `(tactic| walk_at "call ref") => `(tactic| (k_here; (with_reducible show wpAny _ _ (call (Value.ref _) _) _ _ _); refine halt_in ?_; walk_say "HALT call"))
theorem w0A84 : True := by w_top off; trivial
inductive P84 (w : World) (news : List (Addr × Obj)) (c : List (Int × Int)) (v1 v2 v3 v4 : Int) (r : Value) (news' : List (Addr × Obj)) : Prop
  | mk (a d : Addr) (o : Obj) (kvs : List (Int × Value)) (s1 s2 s3 s4 : Tok) (e1 : r = .ref a) (e2 : ∀ p ∈ news, p.1 < d) (e3 : d < a) (e4 : (d == sysModules) = false) (e5 : o.IsDictOf (PySem.intKind Challenge.rw_zn0015_01.row.prog w) kvs) (e6 : PyProof.V.FlatPairs PyData.int kvs (kdfD c)) (e7 : news' = (a, { cls := .type "tuple", data := .seq #[.int v1 s1, .int v2 s2, .int v3 s3, .int v4 s4, .ref d] }) :: (d, o) :: news) : P84 w news c v1 v2 v3 v4 r news'
noncomputable def Sc84 : Prop := ∀ (w : World) (a1 a2 d1 d2 : Addr) (o1 o2 : Obj) (c1 c2 : List (Int × Int)) (kvs1 kvs2 : List (Int × Value)) (p1 p2 p3 p4 q1 q2 q3 q4 : Int) (t1 t2 t3 t4 u1 u2 u3 u4 : Tok) (n1 n2 : Nat) (news : List (Addr × Obj)),
   (d1, o1) ∈ news → (d1 == sysModules) = false → o1.IsDictOf (PySem.intKind Challenge.rw_zn0015_01.row.prog w) kvs1 → PyProof.V.FlatPairs PyData.int kvs1 (kdfD c1) →
   (d2, o2) ∈ news → (d2 == sysModules) = false → o2.IsDictOf (PySem.intKind Challenge.rw_zn0015_01.row.prog w) kvs2 → PyProof.V.FlatPairs PyData.int kvs2 (kdfD c2) → (c1.map (·.1)).Nodup → c1.length ≤ 1000 → c2.length ≤ 1000 →
   (a1, ({ cls := .type "tuple", data := .seq #[.int p1 t1, .int p2 t2, .int p3 t3, .int p4 t4, .ref d1] n1 } : Obj)) ∈ news →
   (a2, ({ cls := .type "tuple", data := .seq #[.int q1 u1, .int q2 u2, .int q3 u3, .int q4 u4, .ref d2] n2 } : Obj)) ∈ news →
   Ct w 84 12 news [.ref a1, .ref a2] (P84 w news (addTo c1 c2) (q1 + p1) (q2 + p2) (q3 + p3) (q4 + p4))
noncomputable def kTc84 : {P : (yW→yN→yN→yN→yN→yO→yO→yKI→yKI→yKV→yKV→yI→yI→yI→yI→yI→yI→yI→yI→yN→yN→yN→yN→yN→yN→yN→yN→yN→yN→yR→yLS→ymean→yM→yM→yN→yN→ycn→ycs→yN→yV→ycl→youter→yH→yH→yN→yM→ys→yQ→yQ→yH→yN→yH→Prop) // (∀ x1 x2 x3 x4 x5 x6 x7 x8 x9 x10 x11 x12 x13 x14 x15 x16 x17 x18 x19 x20 x21 x22 x23 x24 x25 x26 x27 x28 x29 x30 x31 x32 x33 x34 x35 x36 x37 x38 x39 x40 x41 x42 x43 x44 x45 x46 x47 x48 x49 x50 x51 x52, P x1 x2 x3 x4 x5 x6 x7 x8 x9 x10 x11 x12 x13 x14 x15 x16 x17 x18 x19 x20 x21 x22 x23 x24 x25 x26 x27 x28 x29 x30 x31 x32 x33 x34 x35 x36 x37 x38 x39 x40 x41 x42 x43 x44 x45 x46 x47 x48 x49 x50 x51 x52) → Sc84} := by
  refine' ⟨_, fun hPc84x1 => ?main⟩
  case main =>
    unfold Sc84
    unfold Ct
    k_fill
    intro w a1 a2 d1 d2 o1 o2 c1 c2 kvs1 kvs2 p1 p2 p3 p4 q1 q2 q3 q4 t1 t2 t3 t4 u1 u2 u3 u4 n1 n2 news hm1 hs1 hd1 hf1 hm2 hs2 hd2 hf2 hnd hlen1 hlen2 ha1 ha2
    intros
    rename_i hret
    w_on
    refine wpAny_call ?_
    k_dflt cell_enter
    rename_i qz1 qz2 qz3 qz4 qz5 qz6 qz7 qz8 qz9 qz10 qz11 qz12 qz13 qz14 qz15 qz16 qz17 qz18 qz19 qz20 qz21 qz22 qz23 qz24 qz25 qz26 qz27 qz28 qz29 qz30 qz31 qz32 qz33 qz34 qz35 qz36 qz37
    revert hm1 hs1 hd1 hf1 hm2 hs2 hd2 hf2 hnd hlen1 hlen2 ha1 ha2 qz23 qz25 qz27 qz28 hret qz33 qz34 qz35 qz36 qz37
    exact hPc84x1 w a1 a2 d1 d2 o1 o2 c1 c2 kvs1 kvs2 p1 p2 p3 p4 q1 q2 q3 q4 t1 t2 t3 t4 u1 u2 u3 u4 n1 n2 news qz1 qz2 qz3 qz4 qz5 qz6 qz7 qz8 qz9 qz10 qz11 qz12 qz14 qz15 qz16 qz17 qz18 qz19 qz20 qz29 qz30 qz31
noncomputable def pc84x1 (v : Vars) : Prop := kTc84.1 (v.W 0) (v.N 0) (v.N 1) (v.N 2) (v.N 3) (v.O 0) (v.O 1) (v.KI 0) (v.KI 1) (v.KV 0) (v.KV 1) (v.I 0) (v.I 1) (v.I 2) (v.I 3) (v.I 4) (v.I 5) (v.I 6) (v.I 7) (v.N 4) (v.N 5) (v.N 6) (v.N 7) (v.N 8) (v.N 9) (v.N 10) (v.N 11) (v.N 12) (v.N 13) (v.R 0) (v.LS 0) (v.mean 0) (v.M 0) (v.M 1) (v.N 14) (v.N 15) (v.cn 0) (v.cs 0) (v.N 16) (v.V 0) (v.cl 0) (v.outer 0) (v.H 0) (v.H 1) (v.N 17) (v.M 2) (v.s 0) (v.Q 0) (v.Q 1) (v.H 2) (v.N 18) (v.H 3)
@[irreducible] noncomputable def vc84x1 : Vars := hk pc84x1
theorem tc84x1 : pc84x1 vc84x1 := by
  intro hm1 hs1 hd1 hf1 hm2 hs2 hd2 hf2 hnd hlen1 hlen2 ha1 ha2 qz23 qz25 qz27 qz28 hret qz33 qz34 qz35 qz36 qz37
  generalize vc84x1.s 0 = g46 at *
  k_steps
  refine halt_out ?_
  k_dflt (refine' Ct.use (c91 _ _ _ _ _ _ _ _ _ _ ?h1 ?h2 ?h3 ?h4 ?h5 ?h6 ?h7 ?h8 ?h9 ?h10 ?h11) ?B ?F ?X ?N ?T ?hk ?hd ?hu ?_; (case N => k_asm); (case B => k_asm); (case F => k_asm); (case X => k_asm); (case T => k_asm); (case hk => rfl); (case h1 => k_mem); (case h2 => k_asm); (case h3 => k_asm); (case h4 => k_asm); (case h5 => k_mem); (case h6 => k_asm); (case h7 => k_asm); (case h8 => k_asm); (case h9 => k_asm); (case h10 => k_asm); (case h11 => k_asm); (case hd => ktr_room); (case hu => ktr_units))
  intro r' h' tk' nw' F' N' P'
  obtain ⟨d', o', kvs', hr', hn', hl', lo', hd', hf'⟩ := P'
  subst hr'
  subst hn'
  (try k_lt hl')
  k_steps
  rename_i l1 _ _ _ _
  exact hret _ _ _ _ (by assumption) (by assumption) ⟨_, _, _, _, _, _, _, _, rfl, by assumption, l1.1, by assumption, by assumption, by assumption, rfl⟩
theorem ac84x1 : ∀ v, pc84x1 v := hkv tc84x1 (by unfold vc84x1; rfl)
theorem Tc84 : Sc84 := kTc84.2 (fun x1 x2 x3 x4 x5 x6 x7 x8 x9 x10 x11 x12 x13 x14 x15 x16 x17 x18 x19 x20 x21 x22 x23 x24 x25 x26 x27 x28 x29 x30 x31 x32 x33 x34 x35 x36 x37 x38 x39 x40 x41 x42 x43 x44 x45 x46 x47 x48 x49 x50 x51 x52 => ac84x1 {d0v with W := sl x1 [], LS := sl x31 [], mean := sl x32 [], cn := sl x37 [], cs := sl x38 [], cl := sl x41 [], outer := sl x42 [], s := sl x47 [], H := sl x43 [x44, x50, x52], N := sl x2 [x3, x4, x5, x20, x21, x22, x23, x24, x25, x26, x27, x28, x29, x35, x36, x39, x45, x51], O := sl x6 [x7], V := sl x40 [], I := sl x12 [x13, x14, x15, x16, x17, x18, x19], M := sl x33 [x34, x46], KV := sl x10 [x11], R := sl x30 [], Q := sl x48 [x49], KI := sl x8 [x9]})
theorem c84 : Sc84 := Tc84
theorem cA0 {a d : Nat} { R : Prop} (h : a < d ∧ R) : a < d := h.1
theorem cA1 {a d : Nat} {P0 R : Prop} (h : P0 ∧ a < d ∧ R) : a < d := h.2.1
theorem cA2 {a d : Nat} {P0 P1 R : Prop} (h : P0 ∧ P1 ∧ a < d ∧ R) : a < d := h.2.2.1
theorem cA3 {a d : Nat} {P0 P1 P2 R : Prop} (h : P0 ∧ P1 ∧ P2 ∧ a < d ∧ R) : a < d := h.2.2.2.1
theorem cA4 {a d : Nat} {P0 P1 P2 P3 R : Prop} (h : P0 ∧ P1 ∧ P2 ∧ P3 ∧ a < d ∧ R) : a < d := h.2.2.2.2.1
theorem cA5 {a d : Nat} {P0 P1 P2 P3 P4 R : Prop} (h : P0 ∧ P1 ∧ P2 ∧ P3 ∧ P4 ∧ a < d ∧ R) : a < d := h.2.2.2.2.2.1
theorem cA6 {a d : Nat} {P0 P1 P2 P3 P4 P5 R : Prop} (h : P0 ∧ P1 ∧ P2 ∧ P3 ∧ P4 ∧ P5 ∧ a < d ∧ R) : a < d := h.2.2.2.2.2.2.1
theorem cA7 {a d : Nat} {P0 P1 P2 P3 P4 P5 P6 R : Prop} (h : P0 ∧ P1 ∧ P2 ∧ P3 ∧ P4 ∧ P5 ∧ P6 ∧ a < d ∧ R) : a < d := h.2.2.2.2.2.2.2.1
theorem cA8 {a d : Nat} {P0 P1 P2 P3 P4 P5 P6 P7 R : Prop} (h : P0 ∧ P1 ∧ P2 ∧ P3 ∧ P4 ∧ P5 ∧ P6 ∧ P7 ∧ a < d ∧ R) : a < d := h.2.2.2.2.2.2.2.2.1
section
local macro_rules | `(tactic| k_ne) => `(tactic| ((refine neN ?_); (try dsimp only); first | assumption | with_reducible first | (refine Nat.ne_of_lt ?_; first | assumption | exact cA0 (by assumption) | exact cA1 (by assumption) | exact cA2 (by assumption) | exact cA3 (by assumption) | exact cA4 (by assumption) | exact cA5 (by assumption) | exact cA6 (by assumption) | exact cA7 (by assumption) | exact cA8 (by assumption)) | (refine Nat.ne_of_gt ?_; first | assumption | exact cA0 (by assumption) | exact cA1 (by assumption) | exact cA2 (by assumption) | exact cA3 (by assumption) | exact cA4 (by assumption) | exact cA5 (by assumption) | exact cA6 (by assumption) | exact cA7 (by assumption) | exact cA8 (by assumption))))
section
theorem w0A115 : True := by w_top off; trivial
theorem kdfPut_nodup {c : List (Int × Int)} (k v : Int) (h : (c.map (·.1)).Nodup) : ((kdfPut c k v).map (·.1)).Nodup := by
  unfold kdfPut
  by_cases hc : (c.any fun p => decide (p.1 = k)) = true
  · rw [if_pos hc, List.map_map]
    have e : ((fun p : Int × Int => p.1) ∘ fun p : Int × Int => if decide (p.1 = k) = true then (p.1, v) else p) = fun p => p.1 := by
      funext p
      show (if decide (p.1 = k) = true then (p.1, v) else p).1 = p.1
      split <;> rfl
    rw [e]; exact h
  · rw [if_neg hc, List.map_append, List.nodup_append]
    refine ⟨h, by simp, ?_⟩
    intro a ha b hb
    obtain ⟨p, hp, rfl⟩ := List.mem_map.mp ha
    rw [List.map_cons, List.map_nil, List.mem_singleton] at hb
    subst hb
    intro e
    exact hc (List.any_eq_true.mpr ⟨p, hp, decide_eq_true e⟩)
theorem addTo_nodup (c2 : List (Int × Int)) : ∀ {c : List (Int × Int)}, (c.map (·.1)).Nodup → ((addTo c c2).map (·.1)).Nodup := by
  induction c2 with
  | nil => intro c h; exact h
  | cons p r ih => intro c h; exact ih (kdfPut_nodup p.1 _ h)
theorem last9 {α : Type} {a b c d e f x y E : α} {l : List α} : ∀ p ∈ E :: ([a, b, c, d, e, f] ++ l), p ∈ a :: b :: c :: d :: e :: f :: x :: y :: E :: l := fun p hp => by
  simp only [List.mem_cons, List.cons_append, List.nil_append] at hp ⊢
  rcases hp with h | h | h | h | h | h | h | h
  · exact .inr (.inr (.inr (.inr (.inr (.inr (.inr (.inr (.inl h))))))))
  · exact .inl h
  · exact .inr (.inl h)
  · exact .inr (.inr (.inl h))
  · exact .inr (.inr (.inr (.inl h)))
  · exact .inr (.inr (.inr (.inr (.inl h))))
  · exact .inr (.inr (.inr (.inr (.inr (.inl h)))))
  · exact .inr (.inr (.inr (.inr (.inr (.inr (.inr (.inr (.inr h))))))))
theorem drop2 {I a b c d : Addr × Obj} {l : List (Addr × Obj)} : ∀ p ∈ I :: a :: b :: l, p ∈ a :: b :: c :: d :: I :: l := fun p hp => by
  simp only [List.mem_cons] at hp ⊢
  rcases hp with h | h | h | h
  · exact .inr (.inr (.inr (.inr (.inl h))))
  · exact .inl h
  · exact .inr (.inl h)
  · exact .inr (.inr (.inr (.inr (.inr h))))
local macro_rules | `(tactic| walk_at "UnrEnd") => `(tactic| (refine UnrEnd.intro (by assumption) (by assumption) _ drop2 ?k1 ?_; (case k1 => k_all)))
inductive EntAt (w : World) (news : List (Addr × Obj)) (v : Value) (e : Ent) : Prop
  | mk (t d : Addr) (o : Obj) (kvs : List (Int × Value)) (n : Nat) (s1 s2 s3 s4 : Tok) (e1 : v = .ref t) (e2 : (t, ({ cls := .type "tuple", data := .seq #[.int e.cc s1, .int e.nc s2, .int e.tt s3, .int e.ct s4, .ref d] n } : Obj)) ∈ news) (e3 : (d, o) ∈ news) (e4 : (d == sysModules) = false) (e5 : o.IsDictOf (PySem.intKind Challenge.rw_zn0015_01.row.prog w) kvs) (e6 : PyProof.V.FlatPairs PyData.int kvs (kdfD e.c)) (e7 : (e.c.map (·.1)).Nodup) : EntAt w news v e
inductive LightAt (news : List (Addr × Obj)) (v : Value) (l : Int × Int × Int) : Prop
  | mk (b : Addr) (n : Nat) (s1 s2 s3 : Tok) (e1 : v = .ref b) (e2 : (b, ({ cls := .type "list", data := .seq #[.int l.1 s1, .int l.2.1 s2, .int l.2.2 s3] n } : Obj)) ∈ news) : LightAt news v l
theorem all_lt {a : Addr} {l : List (Addr × Obj)} : AllLt a l → ∀ p ∈ l, p.1 < a := by
  induction l with
  | nil => intro _ p hp; cases hp
  | cons q r ih =>
    intro h p hp
    rcases List.mem_cons.mp hp with rfl | hp
    · exact h.1
    · exact ih h.2 p hp
theorem z5 {a d : Nat} {l : List (Addr × Obj)} {P0 P1 P2 P3 P4 : Prop} (h : P0 ∧ P1 ∧ P2 ∧ P3 ∧ P4 ∧ a < d ∧ AllLt d l) : a < d ∧ ∀ q ∈ l, q.1 < d := ⟨h.2.2.2.2.2.1, all_lt h.2.2.2.2.2.2⟩
theorem z7 {a d : Nat} {l : List (Addr × Obj)} {P0 P1 P2 P3 P4 P5 P6 : Prop} (h : P0 ∧ P1 ∧ P2 ∧ P3 ∧ P4 ∧ P5 ∧ P6 ∧ a < d ∧ AllLt d l) : a < d ∧ ∀ q ∈ l, q.1 < d := ⟨h.2.2.2.2.2.2.2.1, all_lt h.2.2.2.2.2.2.2.2⟩
theorem z9 {a d : Nat} {l : List (Addr × Obj)} {P0 P1 P2 P3 P4 P5 P6 P7 P8 : Prop} (h : P0 ∧ P1 ∧ P2 ∧ P3 ∧ P4 ∧ P5 ∧ P6 ∧ P7 ∧ P8 ∧ a < d ∧ AllLt d l) : a < d ∧ ∀ q ∈ l, q.1 < d := ⟨h.2.2.2.2.2.2.2.2.2.1, all_lt h.2.2.2.2.2.2.2.2.2.2⟩
theorem zt {a d e : Nat} {l : List (Addr × Obj)} (h : d < e) (k : a < d ∧ ∀ q ∈ l, q.1 < d) : a < e ∧ ∀ q ∈ l, q.1 < e := ⟨Nat.lt_trans k.1 h, fun q hq => Nat.lt_trans (k.2 q hq) h⟩
noncomputable def Sc115 : Prop := ∀ (w : World) (aE aT aL : Addr) (evs lvs : List Value) (nE nT nL : Nat) (x y z worth : Int) (tx ty tz tw : Tok) (ex ey ez : Ent) (vx vy vz ux uy uz : Value) (lx ly lz : Int × Int × Int) (rest : List (Addr × Obj)),
   (∀ p ∈ rest, p.1 ≠ aE) → (aT, ({ cls := .type "list", data := .seq #[.int x tx, .int y ty, .int z tz] nT } : Obj)) ∈ rest → (aL, ({ cls := .type "list", data := .seq lvs.toArray nL } : Obj)) ∈ rest →
   x ≠ y → y ≠ z → x ≠ z → 0 ≤ x → 0 ≤ y → 0 ≤ z → x < 2 ^ 20 → y < 2 ^ 20 → z < 2 ^ 20 →
   evs[x.toNat]? = some vx → evs[y.toNat]? = some vy → evs[z.toNat]? = some vz → EntAt w rest vx ex → EntAt w rest vy ey → EntAt w rest vz ez →
   lvs[x.toNat]? = some ux → lvs[y.toNat]? = some uy → lvs[z.toNat]? = some uz → LightAt rest ux lx → LightAt rest uy ly → LightAt rest uz lz →
   ex.c.length ≤ 1000 → ey.c.length ≤ 1000 → ez.c.length ≤ 1000 →
   Ct w 115 20 ((aE, { cls := .type "list", data := .seq evs.toArray nE }) :: rest) [.ref aE, .ref aT, .int worth tw, .ref aL] (fun r news' => ∃ vx' vy' vz' tl, r = .none ∧ news' = (aE, { cls := .type "list", data := .seq (((evs.set x.toNat vx').set y.toNat vy').set z.toNat vz').toArray nE }) :: (tl ++ rest) ∧
     EntAt w tl vx' (ex.upd z y worth (lx.1 + lx.2.1 + lx.2.2 + (ly.1 + ly.2.1 + ly.2.2) + (lz.1 + lz.2.1 + lz.2.2))) ∧ EntAt w tl vy' (ey.upd x z worth (lx.1 + lx.2.1 + lx.2.2 + (ly.1 + ly.2.1 + ly.2.2) + (lz.1 + lz.2.1 + lz.2.2))) ∧
     EntAt w tl vz' (ez.upd y x worth (lx.1 + lx.2.1 + lx.2.2 + (ly.1 + ly.2.1 + ly.2.2) + (lz.1 + lz.2.1 + lz.2.2))) ∧ ∀ p ∈ tl, aE < p.1 ∧ ∀ q ∈ rest, q.1 < p.1)
noncomputable def kTc115 : {P : (yW→yN→yN→yN→yVS→yVS→yN→yN→yN→yI→yI→yI→yI→yN→yN→yN→yN→yE→yE→yE→yV→yV→yV→yV→yV→yV→yP3→yP3→yP3→yR→Prop) // (∀ x1 x2 x3 x4 x5 x6 x7 x8 x9 x10 x11 x12 x13 x14 x15 x16 x17 x18 x19 x20 x21 x22 x23 x24 x25 x26 x27 x28 x29 x30, P x1 x2 x3 x4 x5 x6 x7 x8 x9 x10 x11 x12 x13 x14 x15 x16 x17 x18 x19 x20 x21 x22 x23 x24 x25 x26 x27 x28 x29 x30) → Sc115} := by
  refine' ⟨_, fun hPE1 => ?main⟩
  case main =>
    unfold Sc115
    unfold Ct
    k_fill
    intro w aE aT aL evs lvs nE nT nL x y z worth tx ty tz tw ex ey ez vx vy vz ux uy uz lx ly lz rest hoff hmT hmL hxy hyz hxz hx0 hy0 hz0 hx1 hy1 hz1 hvx hvy hvz hex hey hez hux huy huz hlx hly hlz hcx hcy hcz
    revert hoff hmT hmL hxy hyz hxz hx0 hy0 hz0 hx1 hy1 hz1 hvx hvy hvz hex hey hez hux huy huz hlx hly hlz hcx hcy hcz
    exact hPE1 w aE aT aL evs lvs nE nT nL x y z worth tx ty tz tw ex ey ez vx vy vz ux uy uz lx ly lz rest
noncomputable def pE1 (v : Vars) : Prop := kTc115.1 (v.W 0) (v.N 0) (v.N 1) (v.N 2) (v.VS 0) (v.VS 1) (v.N 3) (v.N 4) (v.N 5) (v.I 0) (v.I 1) (v.I 2) (v.I 3) (v.N 6) (v.N 7) (v.N 8) (v.N 9) (v.E 0) (v.E 1) (v.E 2) (v.V 0) (v.V 1) (v.V 2) (v.V 3) (v.V 4) (v.V 5) (v.P3 0) (v.P3 1) (v.P3 2) (v.R 0)
@[irreducible] noncomputable def vE1 : Vars := hk pE1
noncomputable def ktE1 : {P : (yN→yN→yN→yN→yN→yN→yN→yN→yN→yN→yN→yN→yN→yN→yN→yN→yN→yO→yKV→yN→yN→yN→yN→yN→yN→yN→yO→yKV→yN→yN→yN→yN→yN→yN→yN→yO→yKV→yN→yN→yN→yN→yN→yLS→ymean→yM→yM→yN→yN→ycn→ycs→yN→yV→ycl→youter→yH→yH→yN→yM→ys→yQ→yQ→yH→yN→yH→yN→yO→Prop) // (∀ x1 x2 x3 x4 x5 x6 x7 x8 x9 x10 x11 x12 x13 x14 x15 x16 x17 x18 x19 x20 x21 x22 x23 x24 x25 x26 x27 x28 x29 x30 x31 x32 x33 x34 x35 x36 x37 x38 x39 x40 x41 x42 x43 x44 x45 x46 x47 x48 x49 x50 x51 x52 x53 x54 x55 x56 x57 x58 x59 x60 x61 x62 x63 x64 x65 x66, P x1 x2 x3 x4 x5 x6 x7 x8 x9 x10 x11 x12 x13 x14 x15 x16 x17 x18 x19 x20 x21 x22 x23 x24 x25 x26 x27 x28 x29 x30 x31 x32 x33 x34 x35 x36 x37 x38 x39 x40 x41 x42 x43 x44 x45 x46 x47 x48 x49 x50 x51 x52 x53 x54 x55 x56 x57 x58 x59 x60 x61 x62 x63 x64 x65 x66) → pE1 vE1} := by
  refine' ⟨(_ : yW→yN→yN→yN→yVS→yVS→yN→yN→yN→yI→yI→yI→yI→yN→yN→yN→yN→yE→yE→yE→yV→yV→yV→yV→yV→yV→yP3→yP3→yP3→yR→yN→yN→yN→yN→yN→yN→yN→yN→yN→yN→yN→yN→yN→yN→yN→yN→yN→yO→yKV→yN→yN→yN→yN→yN→yN→yN→yO→yKV→yN→yN→yN→yN→yN→yN→yN→yO→yKV→yN→yN→yN→yN→yN→yLS→ymean→yM→yM→yN→yN→ycn→ycs→yN→yV→ycl→youter→yH→yH→yN→yM→ys→yQ→yQ→yH→yN→yH→yN→yO→Prop) (vE1.W 0) (vE1.N 0) (vE1.N 1) (vE1.N 2) (vE1.VS 0) (vE1.VS 1) (vE1.N 3) (vE1.N 4) (vE1.N 5) (vE1.I 0) (vE1.I 1) (vE1.I 2) (vE1.I 3) (vE1.N 6) (vE1.N 7) (vE1.N 8) (vE1.N 9) (vE1.E 0) (vE1.E 1) (vE1.E 2) (vE1.V 0) (vE1.V 1) (vE1.V 2) (vE1.V 3) (vE1.V 4) (vE1.V 5) (vE1.P3 0) (vE1.P3 1) (vE1.P3 2) (vE1.R 0), fun hPE2 => ?main⟩
  case main =>
    intro hoff hmT hmL hxy hyz hxz hx0 hy0 hz0 hx1 hy1 hz1 hvx hvy hvz hex hey hez hux huy huz hlx hly hlz hcx hcy hcz
    generalize vE1.W 0 = w, vE1.N 0 = aE, vE1.N 1 = aT, vE1.N 2 = aL, vE1.VS 0 = evs, vE1.VS 1 = lvs, vE1.N 3 = nE, vE1.N 4 = nT, vE1.N 5 = nL, vE1.I 0 = x, vE1.I 1 = y, vE1.I 2 = z, vE1.I 3 = worth, vE1.N 6 = tx, vE1.N 7 = ty, vE1.N 8 = tz, vE1.N 9 = tw, vE1.E 0 = ex, vE1.E 1 = ey, vE1.E 2 = ez, vE1.V 0 = vx, vE1.V 1 = vy, vE1.V 2 = vz, vE1.V 3 = ux, vE1.V 4 = uy, vE1.V 5 = uz, vE1.P3 0 = lx, vE1.P3 1 = ly, vE1.P3 2 = lz, vE1.R 0 = rest at *
    refine hideG fun nG => ?_
    obtain ⟨bx, nlx, _, _, _, q9, hblx⟩ := hlx
    rw [q9] at hux
    (try clear q9)
    obtain ⟨by', nly, _, _, _, q9, hbly⟩ := hly
    rw [q9] at huy
    (try clear q9)
    obtain ⟨bz, nlz, _, _, _, q9, hblz⟩ := hlz
    rw [q9] at huz
    (try clear q9)
    have hlx0 : x.toNat < evs.length := (List.getElem?_eq_some_iff.mp hvx).1
    have hly0 : y.toNat < evs.length := (List.getElem?_eq_some_iff.mp hvy).1
    have hlz0 : z.toNat < evs.length := (List.getElem?_eq_some_iff.mp hvz).1
    have hxyN : x.toNat ≠ y.toNat := by lia
    have hyzN : y.toNat ≠ z.toNat := by lia
    have hxzN : x.toNat ≠ z.toNat := by lia
    obtain ⟨ix, dx, ox, kx, nx, _, _, _, _, q9, htx, hox, hsx, hdx, hfx, hnx⟩ := hex
    rw [q9] at hvx
    (try clear q9)
    obtain ⟨iy, dy, oy, ky, ny, _, _, _, _, q9, hty, hoy, hsy, hdy, hfy, hny⟩ := hey
    rw [q9] at hvy
    (try clear q9)
    obtain ⟨iz, dz, oz, kz, nz, _, _, _, _, q9, htz, hoz, hsz, hdz, hfz, hnz⟩ := hez
    rw [q9] at hvz
    (try clear q9)
    refine nG ?_
    (try clear nG)
    intros
    rename_i hret
    w_on
    refine wpAny_call ?_
    k_dflt (refine' code_defC ?k1 ?k2 ?k3 ?k4 ?k5 ?kA ?kF ?kK ?k6 ?k7 ?k8 ?k9 ?kB ?kD ?_ ?c2 ?c3 ?c4; (case kA => exact rfl); (case kF => exact rfl); (case kK => assumption); (case k1 => k_asm); (case k2 => k_asm); (case k3 => k_asm); (case k4 => k_asm); (case k5 => k_asm); (case k6 => k_is); (case k7 => k_is); (case k8 => ktr_room); (case k9 => exact BindsTo.of_eq rfl); (case kB => exact rfl); (case kD => decide +kernel); (case c2 => exact rfl); (case c3 => exact rfl); (case c4 => exact rfl); k_whole; intro g' L' h' tk' cells' FG' F' N' Y' B' X' T' l1; k_cells Y'; (try simp only [List.cons_append, List.nil_append] at N'); (try dsimp only); (try k_fold))
    have hr0 : ∀ p ∈ rest, p.1 < L' := fun p hp => l1 p (.tail _ hp)
    k_lt l1
    refine split1 ?_
    rename_i qz1 qz2 qz3 qz4 qz5 qz6 qz7 qz8 qz9 qz10 qz11 qz12 qz13 qz14 qz15 qz16 qz17 qz18 qz19 qz20 qz21 qz22 qz23 qz24 qz25 qz26 qz27 qz28 qz29 qz30 qz31 qz32 qz33 qz34 qz35 qz36 qz37 qz38 qz39 qz40 qz41 qz42 qz43 qz44 qz45 qz46 qz47 qz48 qz49 qz50 qz51
    revert hoff hmT hmL hxy hyz hxz hx0 hy0 hz0 hx1 hy1 hz1 hcx hcy hcz hux hblx huy hbly huz hblz hlx0 hly0 hlz0 hxyN hyzN hxzN hvx htx hox hsx hdx hfx hnx hvy hty hoy hsy hdy hfy hny hvz htz hoz hsz hdz hfz hnz qz44 qz46 qz48 qz49 hret F' B' X' T' qz51 N' hr0 l1
    exact hPE2 bx nlx qz1 qz2 qz3 by' nly qz4 qz5 qz6 bz nlz qz7 qz8 qz9 ix dx ox kx nx qz10 qz11 qz12 qz13 iy dy oy ky ny qz14 qz15 qz16 qz17 iz dz oz kz nz qz18 qz19 qz20 qz21 qz22 qz23 qz24 qz25 qz26 qz27 qz28 qz29 qz30 qz31 qz32 qz33 qz35 qz36 qz37 qz38 qz39 qz40 qz41 g' L' h' tk' qz50
noncomputable def pE2 (v : Vars) : Prop := ktE1.1 (v.N 0) (v.N 1) (v.N 2) (v.N 3) (v.N 4) (v.N 5) (v.N 6) (v.N 7) (v.N 8) (v.N 9) (v.N 10) (v.N 11) (v.N 12) (v.N 13) (v.N 14) (v.N 15) (v.N 16) (v.O 0) (v.KV 0) (v.N 17) (v.N 18) (v.N 19) (v.N 20) (v.N 21) (v.N 22) (v.N 23) (v.O 1) (v.KV 1) (v.N 24) (v.N 25) (v.N 26) (v.N 27) (v.N 28) (v.N 29) (v.N 30) (v.O 2) (v.KV 2) (v.N 31) (v.N 32) (v.N 33) (v.N 34) (v.N 35) (v.LS 0) (v.mean 0) (v.M 0) (v.M 1) (v.N 36) (v.N 37) (v.cn 0) (v.cs 0) (v.N 38) (v.V 0) (v.cl 0) (v.outer 0) (v.H 0) (v.H 1) (v.N 39) (v.M 2) (v.s 0) (v.Q 0) (v.Q 1) (v.H 2) (v.N 40) (v.H 3) (v.N 41) (v.O 3)
@[irreducible] noncomputable def vE2 : Vars := hk pE2
noncomputable def ktE2 : {P : (yN→yN→yN→yN→yH→yN→yN→yH→Prop) // (∀ x1 x2 x3 x4 x5 x6 x7 x8, P x1 x2 x3 x4 x5 x6 x7 x8) → pE2 vE2} := by
  refine' ⟨(_ : yW→yN→yN→yN→yVS→yVS→yN→yN→yN→yI→yI→yI→yI→yN→yN→yN→yN→yE→yE→yE→yP3→yP3→yP3→yR→yN→yN→yN→yN→yN→yN→yN→yN→yN→yN→yN→yN→yN→yN→yN→yN→yN→yO→yKV→yN→yN→yN→yN→yN→yN→yN→yO→yKV→yN→yN→yN→yN→yN→yN→yN→yO→yKV→yN→yN→yN→yN→yN→yLS→ymean→yM→yM→yN→yN→ycn→ycs→yN→yV→ycl→youter→yH→yH→yN→yM→ys→yQ→yQ→yH→yN→yH→yN→yO→yN→yN→yN→yN→yH→yN→yN→yH→Prop) (vE1.W 0) (vE1.N 0) (vE1.N 1) (vE1.N 2) (vE1.VS 0) (vE1.VS 1) (vE1.N 3) (vE1.N 4) (vE1.N 5) (vE1.I 0) (vE1.I 1) (vE1.I 2) (vE1.I 3) (vE1.N 6) (vE1.N 7) (vE1.N 8) (vE1.N 9) (vE1.E 0) (vE1.E 1) (vE1.E 2) (vE1.P3 0) (vE1.P3 1) (vE1.P3 2) (vE1.R 0) (vE2.N 0) (vE2.N 1) (vE2.N 2) (vE2.N 3) (vE2.N 4) (vE2.N 5) (vE2.N 6) (vE2.N 7) (vE2.N 8) (vE2.N 9) (vE2.N 10) (vE2.N 11) (vE2.N 12) (vE2.N 13) (vE2.N 14) (vE2.N 15) (vE2.N 16) (vE2.O 0) (vE2.KV 0) (vE2.N 17) (vE2.N 18) (vE2.N 19) (vE2.N 20) (vE2.N 21) (vE2.N 22) (vE2.N 23) (vE2.O 1) (vE2.KV 1) (vE2.N 24) (vE2.N 25) (vE2.N 26) (vE2.N 27) (vE2.N 28) (vE2.N 29) (vE2.N 30) (vE2.O 2) (vE2.KV 2) (vE2.N 31) (vE2.N 32) (vE2.N 33) (vE2.N 34) (vE2.N 35) (vE2.LS 0) (vE2.mean 0) (vE2.M 0) (vE2.M 1) (vE2.N 36) (vE2.N 37) (vE2.cn 0) (vE2.cs 0) (vE2.N 38) (vE2.V 0) (vE2.cl 0) (vE2.outer 0) (vE2.H 0) (vE2.H 1) (vE2.N 39) (vE2.M 2) (vE2.s 0) (vE2.Q 0) (vE2.Q 1) (vE2.H 2) (vE2.N 40) (vE2.H 3) (vE2.N 41) (vE2.O 3), fun hPE3 => ?main⟩
  case main =>
    intro hoff hmT hmL hxy hyz hxz hx0 hy0 hz0 hx1 hy1 hz1 hcx hcy hcz hux hblx huy hbly huz hblz hlx0 hly0 hlz0 hxyN hyzN hxzN hvx htx hox hsx hdx hfx hnx hvy hty hoy hsy hdy hfy hny hvz htz hoz hsz hdz hfz hnz qz44 qz46 qz48 qz49 hret Fq1 B' X' T' qz51 Nq1 hr0 l1
    generalize vE1.W 0 = w, vE1.N 0 = aE, vE1.N 1 = aT, vE1.N 2 = aL, vE1.VS 0 = evs, vE1.VS 1 = lvs, vE1.N 3 = nE, vE1.N 4 = nT, vE1.N 5 = nL, vE1.I 0 = x, vE1.I 1 = y, vE1.I 2 = z, vE1.I 3 = worth, vE1.N 6 = tx, vE1.N 7 = ty, vE1.N 8 = tz, vE1.N 9 = tw, vE1.E 0 = ex, vE1.E 1 = ey, vE1.E 2 = ez, vE1.P3 0 = lx, vE1.P3 1 = ly, vE1.P3 2 = lz, vE1.R 0 = rest, vE2.N 0 = bx, vE2.N 1 = nlx, vE2.N 2 = qz1, vE2.N 3 = qz2, vE2.N 4 = qz3, vE2.N 5 = by', vE2.N 6 = nly, vE2.N 7 = qz4, vE2.N 8 = qz5, vE2.N 9 = qz6, vE2.N 10 = bz, vE2.N 11 = nlz, vE2.N 12 = qz7, vE2.N 13 = qz8, vE2.N 14 = qz9, vE2.N 15 = ix, vE2.N 16 = dx, vE2.O 0 = ox, vE2.KV 0 = kx, vE2.N 17 = nx, vE2.N 18 = qz10, vE2.N 19 = qz11, vE2.N 20 = qz12, vE2.N 21 = qz13, vE2.N 22 = iy, vE2.N 23 = dy, vE2.O 1 = oy, vE2.KV 1 = ky, vE2.N 24 = ny, vE2.N 25 = qz14, vE2.N 26 = qz15, vE2.N 27 = qz16, vE2.N 28 = qz17, vE2.N 29 = iz, vE2.N 30 = dz, vE2.O 2 = oz, vE2.KV 2 = kz, vE2.N 31 = nz, vE2.N 32 = qz18, vE2.N 33 = qz19, vE2.N 34 = qz20, vE2.N 35 = qz21, vE2.LS 0 = qz22, vE2.mean 0 = qz23, vE2.M 0 = qz24, vE2.M 1 = qz25, vE2.N 36 = qz26, vE2.N 37 = qz27, vE2.cn 0 = qz28, vE2.cs 0 = qz29, vE2.N 38 = qz30, vE2.V 0 = qz31, vE2.cl 0 = qz32, vE2.outer 0 = qz33, vE2.H 0 = qz35, vE2.H 1 = qz36, vE2.N 39 = qz37, vE2.M 2 = qz38, vE2.s 0 = qz39, vE2.Q 0 = qz40, vE2.Q 1 = qz41, vE2.H 2 = g', vE2.N 40 = L', vE2.H 3 = h', vE2.N 41 = tk', vE2.O 3 = qz50 at *
    k_steps
    refine unhold ?_
    rename_i qz52 qz53 qz54 qz55 qz56 qz57 qz58 qz59 qz60 qz61 qz62 qz63 qz64 qz65 qz66 qz67 qz68 qz69 qz70 qz71 qz72 qz73 qz74 qz75 qz76 qz77 qz78 qz79 qz80 qz81 qz82 qz83 qz84 qz85 qz86 qz87 qz88 qz89 qz90 qz91 qz92 qz93 qz94 qz95 qz96 qz97 qz98 qz99 qz100 qz101 qz102 qz103 qz104 qz105 qz106 qz107 qz108 qz109 qz110
    revert hoff hmT hmL hxy hyz hxz hx0 hy0 hz0 hx1 hy1 hz1 hcx hcy hcz hux huy huz hlx0 hly0 hlz0 hxyN hyzN hxzN hvx htx hox hsx hdx hfx hnx hvy hty hoy hsy hdy hfy hny hvz htz hoz hsz hdz hfz hnz qz44 qz46 qz48 qz49 hret B' X' T' hr0 l1 qz64 qz80 qz96 qz104 qz109 qz110
    exact hPE3 qz68 qz84 qz100 qz101 qz105 qz106 qz107 qz108
noncomputable def pE3 (v : Vars) : Prop := ktE2.1 (v.N 0) (v.N 1) (v.N 2) (v.N 3) (v.H 0) (v.N 4) (v.N 5) (v.H 1)
@[irreducible] noncomputable def vE3 : Vars := hk pE3
noncomputable def ktE3 : {P : (yH→yN→yN→yN→yH→yN→yN→yO→yKV→yH→yH→yN→yN→Prop) // (∀ x1 x2 x3 x4 x5 x6 x7 x8 x9 x10 x11 x12 x13, P x1 x2 x3 x4 x5 x6 x7 x8 x9 x10 x11 x12 x13) → pE3 vE3} := by
  refine' ⟨(_ : yW→yN→yN→yN→yVS→yVS→yN→yN→yN→yI→yI→yI→yI→yN→yN→yN→yN→yE→yE→yE→yP3→yP3→yP3→yR→yN→yN→yN→yN→yN→yO→yKV→yN→yN→yN→yN→yN→yN→yN→yO→yKV→yN→yN→yN→yN→yN→yN→yN→yO→yKV→yN→yN→yN→yN→yN→yLS→ymean→yM→yM→yN→yN→ycn→ycs→yN→yV→ycl→youter→yH→yH→yN→yM→ys→yQ→yQ→yH→yN→yO→yN→yN→yN→yN→yH→yN→yN→yH→yH→yN→yN→yN→yH→yN→yN→yO→yKV→yH→yH→yN→yN→Prop) (vE1.W 0) (vE1.N 0) (vE1.N 1) (vE1.N 2) (vE1.VS 0) (vE1.VS 1) (vE1.N 3) (vE1.N 4) (vE1.N 5) (vE1.I 0) (vE1.I 1) (vE1.I 2) (vE1.I 3) (vE1.N 6) (vE1.N 7) (vE1.N 8) (vE1.N 9) (vE1.E 0) (vE1.E 1) (vE1.E 2) (vE1.P3 0) (vE1.P3 1) (vE1.P3 2) (vE1.R 0) (vE2.N 0) (vE2.N 5) (vE2.N 10) (vE2.N 15) (vE2.N 16) (vE2.O 0) (vE2.KV 0) (vE2.N 17) (vE2.N 18) (vE2.N 19) (vE2.N 20) (vE2.N 21) (vE2.N 22) (vE2.N 23) (vE2.O 1) (vE2.KV 1) (vE2.N 24) (vE2.N 25) (vE2.N 26) (vE2.N 27) (vE2.N 28) (vE2.N 29) (vE2.N 30) (vE2.O 2) (vE2.KV 2) (vE2.N 31) (vE2.N 32) (vE2.N 33) (vE2.N 34) (vE2.N 35) (vE2.LS 0) (vE2.mean 0) (vE2.M 0) (vE2.M 1) (vE2.N 36) (vE2.N 37) (vE2.cn 0) (vE2.cs 0) (vE2.N 38) (vE2.V 0) (vE2.cl 0) (vE2.outer 0) (vE2.H 0) (vE2.H 1) (vE2.N 39) (vE2.M 2) (vE2.s 0) (vE2.Q 0) (vE2.Q 1) (vE2.H 2) (vE2.N 40) (vE2.O 3) (vE3.N 0) (vE3.N 1) (vE3.N 2) (vE3.N 3) (vE3.H 0) (vE3.N 4) (vE3.N 5) (vE3.H 1), fun hPE4 => ?main⟩
  case main =>
    intro hoff hmT hmL hxy hyz hxz hx0 hy0 hz0 hx1 hy1 hz1 hcx hcy hcz hux huy huz hlx0 hly0 hlz0 hxyN hyzN hxzN hvx htx hox hsx hdx hfx hnx hvy hty hoy hsy hdy hfy hny hvz htz hoz hsz hdz hfz hnz qz44 qz46 qz48 qz49 hret B' X' T' hr0 l1 qz64 qz80 qz96 qz104 qz109 qz110
    generalize vE1.W 0 = w, vE1.N 0 = aE, vE1.N 1 = aT, vE1.N 2 = aL, vE1.VS 0 = evs, vE1.VS 1 = lvs, vE1.N 3 = nE, vE1.N 4 = nT, vE1.N 5 = nL, vE1.I 0 = x, vE1.I 1 = y, vE1.I 2 = z, vE1.I 3 = worth, vE1.N 6 = tx, vE1.N 7 = ty, vE1.N 8 = tz, vE1.N 9 = tw, vE1.E 0 = ex, vE1.E 1 = ey, vE1.E 2 = ez, vE1.P3 0 = lx, vE1.P3 1 = ly, vE1.P3 2 = lz, vE1.R 0 = rest, vE2.N 0 = bx, vE2.N 5 = by', vE2.N 10 = bz, vE2.N 15 = ix, vE2.N 16 = dx, vE2.O 0 = ox, vE2.KV 0 = kx, vE2.N 17 = nx, vE2.N 18 = qz10, vE2.N 19 = qz11, vE2.N 20 = qz12, vE2.N 21 = qz13, vE2.N 22 = iy, vE2.N 23 = dy, vE2.O 1 = oy, vE2.KV 1 = ky, vE2.N 24 = ny, vE2.N 25 = qz14, vE2.N 26 = qz15, vE2.N 27 = qz16, vE2.N 28 = qz17, vE2.N 29 = iz, vE2.N 30 = dz, vE2.O 2 = oz, vE2.KV 2 = kz, vE2.N 31 = nz, vE2.N 32 = qz18, vE2.N 33 = qz19, vE2.N 34 = qz20, vE2.N 35 = qz21, vE2.LS 0 = qz22, vE2.mean 0 = qz23, vE2.M 0 = qz24, vE2.M 1 = qz25, vE2.N 36 = qz26, vE2.N 37 = qz27, vE2.cn 0 = qz28, vE2.cs 0 = qz29, vE2.N 38 = qz30, vE2.V 0 = qz31, vE2.cl 0 = qz32, vE2.outer 0 = qz33, vE2.H 0 = qz35, vE2.H 1 = qz36, vE2.N 39 = qz37, vE2.M 2 = qz38, vE2.s 0 = qz39, vE2.Q 0 = qz40, vE2.Q 1 = qz41, vE2.H 2 = g', vE2.N 40 = L', vE2.O 3 = qz50, vE3.N 0 = qz68, vE3.N 1 = qz84, vE3.N 2 = qz100, vE3.N 3 = qz101, vE3.H 0 = qz105, vE3.N 4 = qz106, vE3.N 5 = qz107, vE3.H 1 = qz108 at *
    k_steps
    refine halt_out ?_
    k_dflt (refine' Ct.use (c98 _ _ _ _ _ _ ?h1 ?h2 ?h3 ?h4) ?B ?F ?X ?N ?T ?hk ?hd ?hu ?_; (case N => k_asm); (case B => k_asm); (case F => k_asm); (case X => k_asm); (case T => k_asm); (case hk => rfl); (case h1 => k_mem); (case h2 => k_asm); (case h3 => k_asm); (case h4 => k_asm); (case hd => ktr_room); (case hu => ktr_units))
    intro r' h' tk' nw' F' N' P'
    obtain ⟨t', hr', hn'⟩ := P'
    subst hr'
    subst hn'
    rename_i qz111 qz112 qz113 qz114 qz115 qz116 qz117 qz118 qz119 qz120 qz121 qz122 qz123 qz124 qz125 qz126 qz127 qz128 qz129 qz130 qz131 qz132 qz133 qz134 qz135 qz136 qz137 qz138 qz139 qz140 qz141 qz142
    revert hoff hmT hmL hxy hyz hxz hx0 hy0 hz0 hx1 hy1 hz1 hcx hcy hcz hux huy huz hlx0 hly0 hlz0 hxyN hyzN hxzN hvx htx hox hsx hdx hfx hnx hvy hty hoy hsy hdy hfy hny hvz htz hoz hsz hdz hfz hnz qz44 qz46 qz48 qz49 hret B' X' T' hr0 l1 qz64 qz80 qz96 qz104 qz119 qz130 qz132 qz138 qz139 F' N'
    exact hPE4 qz111 qz112 qz118 qz120 qz121 qz122 qz125 qz134 qz135 qz140 h' tk' t'
noncomputable def pE4 (v : Vars) : Prop := ktE3.1 (v.H 0) (v.N 0) (v.N 1) (v.N 2) (v.H 1) (v.N 3) (v.N 4) (v.O 0) (v.KV 0) (v.H 2) (v.H 3) (v.N 5) (v.N 6)
@[irreducible] noncomputable def vE4 : Vars := hk pE4
noncomputable def ktE4 : {P : (yN→yH→yN→yH→yN→yN→yN→yO→yKV→yN→yN→yN→yN→Prop) // (∀ x1 x2 x3 x4 x5 x6 x7 x8 x9 x10 x11 x12 x13, P x1 x2 x3 x4 x5 x6 x7 x8 x9 x10 x11 x12 x13) → pE4 vE4} := by
  refine' ⟨(_ : yW→yN→yN→yN→yVS→yVS→yN→yN→yN→yI→yI→yI→yI→yN→yN→yN→yN→yE→yE→yE→yP3→yP3→yP3→yR→yN→yN→yN→yN→yN→yO→yKV→yN→yN→yN→yN→yN→yN→yN→yO→yKV→yN→yN→yN→yN→yN→yN→yN→yO→yKV→yN→yN→yN→yN→yN→yLS→ymean→yM→yM→yN→yN→ycn→ycs→yN→yV→ycl→youter→yH→yH→yN→yM→ys→yQ→yQ→yH→yN→yH→yN→yO→yN→yN→yN→yN→yN→yH→yN→yN→yN→yH→yN→yN→yO→yKV→yH→yH→yN→yN→yN→yH→yN→yH→yN→yN→yN→yO→yKV→yN→yN→yN→yN→Prop) (vE1.W 0) (vE1.N 0) (vE1.N 1) (vE1.N 2) (vE1.VS 0) (vE1.VS 1) (vE1.N 3) (vE1.N 4) (vE1.N 5) (vE1.I 0) (vE1.I 1) (vE1.I 2) (vE1.I 3) (vE1.N 6) (vE1.N 7) (vE1.N 8) (vE1.N 9) (vE1.E 0) (vE1.E 1) (vE1.E 2) (vE1.P3 0) (vE1.P3 1) (vE1.P3 2) (vE1.R 0) (vE2.N 0) (vE2.N 5) (vE2.N 10) (vE2.N 15) (vE2.N 16) (vE2.O 0) (vE2.KV 0) (vE2.N 17) (vE2.N 18) (vE2.N 19) (vE2.N 20) (vE2.N 21) (vE2.N 22) (vE2.N 23) (vE2.O 1) (vE2.KV 1) (vE2.N 24) (vE2.N 25) (vE2.N 26) (vE2.N 27) (vE2.N 28) (vE2.N 29) (vE2.N 30) (vE2.O 2) (vE2.KV 2) (vE2.N 31) (vE2.N 32) (vE2.N 33) (vE2.N 34) (vE2.N 35) (vE2.LS 0) (vE2.mean 0) (vE2.M 0) (vE2.M 1) (vE2.N 36) (vE2.N 37) (vE2.cn 0) (vE2.cs 0) (vE2.N 38) (vE2.V 0) (vE2.cl 0) (vE2.outer 0) (vE2.H 0) (vE2.H 1) (vE2.N 39) (vE2.M 2) (vE2.s 0) (vE2.Q 0) (vE2.Q 1) (vE2.H 2) (vE2.N 40) (vE2.H 3) (vE2.N 41) (vE2.O 3) (vE3.N 0) (vE3.N 1) (vE3.N 2) (vE3.N 3) (vE3.N 5) (vE4.H 0) (vE4.N 0) (vE4.N 1) (vE4.N 2) (vE4.H 1) (vE4.N 3) (vE4.N 4) (vE4.O 0) (vE4.KV 0) (vE4.H 2) (vE4.H 3) (vE4.N 5) (vE4.N 6), fun hPE5 => ?main⟩
  case main =>
    intro hoff hmT hmL hxy hyz hxz hx0 hy0 hz0 hx1 hy1 hz1 hcx hcy hcz hux huy huz hlx0 hly0 hlz0 hxyN hyzN hxzN hvx htx hox hsx hdx hfx hnx hvy hty hoy hsy hdy hfy hny hvz htz hoz hsz hdz hfz hnz qz44 qz46 qz48 qz49 hret B' X' T' hr0 l1 qz64 qz80 qz96 qz104 qz119 qz130 qz132 qz138 qz139 Fq3 Nq3
    generalize vE1.W 0 = w, vE1.N 0 = aE, vE1.N 1 = aT, vE1.N 2 = aL, vE1.VS 0 = evs, vE1.VS 1 = lvs, vE1.N 3 = nE, vE1.N 4 = nT, vE1.N 5 = nL, vE1.I 0 = x, vE1.I 1 = y, vE1.I 2 = z, vE1.I 3 = worth, vE1.N 6 = tx, vE1.N 7 = ty, vE1.N 8 = tz, vE1.N 9 = tw, vE1.E 0 = ex, vE1.E 1 = ey, vE1.E 2 = ez, vE1.P3 0 = lx, vE1.P3 1 = ly, vE1.P3 2 = lz, vE1.R 0 = rest, vE2.N 0 = bx, vE2.N 5 = by', vE2.N 10 = bz, vE2.N 15 = ix, vE2.N 16 = dx, vE2.O 0 = ox, vE2.KV 0 = kx, vE2.N 17 = nx, vE2.N 18 = qz10, vE2.N 19 = qz11, vE2.N 20 = qz12, vE2.N 21 = qz13, vE2.N 22 = iy, vE2.N 23 = dy, vE2.O 1 = oy, vE2.KV 1 = ky, vE2.N 24 = ny, vE2.N 25 = qz14, vE2.N 26 = qz15, vE2.N 27 = qz16, vE2.N 28 = qz17, vE2.N 29 = iz, vE2.N 30 = dz, vE2.O 2 = oz, vE2.KV 2 = kz, vE2.N 31 = nz, vE2.N 32 = qz18, vE2.N 33 = qz19, vE2.N 34 = qz20, vE2.N 35 = qz21, vE2.LS 0 = qz22, vE2.mean 0 = qz23, vE2.M 0 = qz24, vE2.M 1 = qz25, vE2.N 36 = qz26, vE2.N 37 = qz27, vE2.cn 0 = qz28, vE2.cs 0 = qz29, vE2.N 38 = qz30, vE2.V 0 = qz31, vE2.cl 0 = qz32, vE2.outer 0 = qz33, vE2.H 0 = qz35, vE2.H 1 = qz36, vE2.N 39 = qz37, vE2.M 2 = qz38, vE2.s 0 = qz39, vE2.Q 0 = qz40, vE2.Q 1 = qz41, vE2.H 2 = g', vE2.N 40 = L', vE2.H 3 = h', vE2.N 41 = tk', vE2.O 3 = qz50, vE3.N 0 = qz68, vE3.N 1 = qz84, vE3.N 2 = qz100, vE3.N 3 = qz101, vE3.N 5 = qz107, vE4.H 0 = qz111, vE4.N 0 = qz112, vE4.N 1 = qz118, vE4.N 2 = qz120, vE4.H 1 = qz121, vE4.N 3 = qz122, vE4.N 4 = qz125, vE4.O 0 = qz134, vE4.KV 0 = qz135, vE4.H 2 = qz140, vE4.H 3 = h', vE4.N 5 = tk', vE4.N 6 = t' at *
    k_steps
    refine halt_out ?_
    k_dflt (refine' Ct.use (c84 _ _ _ _ _ _ _ _ _ _ _ _ _ _ _ _ _ _ _ _ _ _ _ _ _ _ _ _ _ _ ?h1 ?h2 ?h3 ?h4 ?h5 ?h6 ?h7 ?h8 ?h9 ?h10 ?h11 ?a1 ?a2) ?B ?F ?X ?N ?T ?hk ?hd ?hu ?_; (case N => k_asm); (case B => k_asm); (case F => k_asm); (case X => k_asm); (case T => k_asm); (case hk => rfl); (case a1 => k_mem); (case a2 => k_mem); (case h1 => k_mem); (case h2 => k_asm); (case h3 => k_asm); (case h4 => k_asm); (case h5 => k_mem); (case h6 => k_asm); (case h7 => k_asm); (case h8 => k_asm); (case h9 => k_asm); (case h10 => k_asm); (case h11 => exact Nat.le_of_ble_eq_true rfl); (case hd => ktr_room); (case hu => ktr_units))
    intro r' h' tk' nw' F' N' P'
    obtain ⟨a', d', o', kvs', s1', s2', s3', s4', hr', hl', hl2', lo', hd', hf', hn'⟩ := P'
    subst hr'
    subst hn'
    (try k_lt hl')
    (try k_lt2 hl2')
    rename_i qz143 qz144 qz145 qz146 qz147 qz148
    revert hoff hmT hmL hxy hyz hxz hx0 hy0 hz0 hx1 hy1 hz1 hcx hcy hcz hux huy huz hlx0 hly0 hlz0 hxyN hyzN hxzN hvx hnx hvy hty hoy hsy hdy hfy hny hvz htz hoz hsz hdz hfz hnz qz44 qz46 qz48 qz49 hret B' X' T' hr0 l1 qz64 qz80 qz96 qz104 qz119 qz132 qz145 F' lo' hd' hf' N' hl' hl2'
    exact hPE5 qz143 qz146 tk h' tk' a' d' o' kvs' s1' s2' s3' s4'
noncomputable def pE5 (v : Vars) : Prop := ktE4.1 (v.N 0) (v.H 0) (v.N 1) (v.H 1) (v.N 2) (v.N 3) (v.N 4) (v.O 0) (v.KV 0) (v.N 5) (v.N 6) (v.N 7) (v.N 8)
@[irreducible] noncomputable def vE5 : Vars := hk pE5
noncomputable def ktE5 : {P : (yN→yH→yN→yN→yO→yKV→yH→yH→yN→yN→Prop) // (∀ x1 x2 x3 x4 x5 x6 x7 x8 x9 x10, P x1 x2 x3 x4 x5 x6 x7 x8 x9 x10) → pE5 vE5} := by
  refine' ⟨(_ : yW→yN→yN→yN→yVS→yVS→yN→yN→yN→yI→yI→yI→yI→yN→yN→yN→yN→yE→yE→yE→yP3→yP3→yP3→yR→yN→yN→yN→yN→yN→yN→yO→yKV→yN→yN→yN→yN→yN→yN→yN→yO→yKV→yN→yN→yN→yN→yN→yLS→ymean→yM→yM→yN→yN→ycn→ycs→yN→yV→ycl→youter→yH→yH→yN→yM→ys→yQ→yQ→yH→yN→yH→yN→yO→yN→yN→yN→yN→yN→yH→yN→yN→yN→yH→yN→yN→yO→yH→yN→yN→yN→yH→yN→yH→yN→yN→yN→yO→yKV→yN→yN→yN→yN→yN→yH→yN→yN→yO→yKV→yH→yH→yN→yN→Prop) (vE1.W 0) (vE1.N 0) (vE1.N 1) (vE1.N 2) (vE1.VS 0) (vE1.VS 1) (vE1.N 3) (vE1.N 4) (vE1.N 5) (vE1.I 0) (vE1.I 1) (vE1.I 2) (vE1.I 3) (vE1.N 6) (vE1.N 7) (vE1.N 8) (vE1.N 9) (vE1.E 0) (vE1.E 1) (vE1.E 2) (vE1.P3 0) (vE1.P3 1) (vE1.P3 2) (vE1.R 0) (vE2.N 0) (vE2.N 5) (vE2.N 10) (vE2.N 15) (vE2.N 22) (vE2.N 23) (vE2.O 1) (vE2.KV 1) (vE2.N 24) (vE2.N 25) (vE2.N 26) (vE2.N 27) (vE2.N 28) (vE2.N 29) (vE2.N 30) (vE2.O 2) (vE2.KV 2) (vE2.N 31) (vE2.N 32) (vE2.N 33) (vE2.N 34) (vE2.N 35) (vE2.LS 0) (vE2.mean 0) (vE2.M 0) (vE2.M 1) (vE2.N 36) (vE2.N 37) (vE2.cn 0) (vE2.cs 0) (vE2.N 38) (vE2.V 0) (vE2.cl 0) (vE2.outer 0) (vE2.H 0) (vE2.H 1) (vE2.N 39) (vE2.M 2) (vE2.s 0) (vE2.Q 0) (vE2.Q 1) (vE2.H 2) (vE2.N 40) (vE2.H 3) (vE2.N 41) (vE2.O 3) (vE3.N 0) (vE3.N 1) (vE3.N 2) (vE3.N 3) (vE3.N 5) (vE4.H 0) (vE4.N 0) (vE4.N 1) (vE4.N 2) (vE4.H 1) (vE4.N 3) (vE4.N 4) (vE4.O 0) (vE4.H 3) (vE4.N 5) (vE4.N 6) (vE5.N 0) (vE5.H 0) (vE5.N 1) (vE5.H 1) (vE5.N 2) (vE5.N 3) (vE5.N 4) (vE5.O 0) (vE5.KV 0) (vE5.N 5) (vE5.N 6) (vE5.N 7) (vE5.N 8), fun hPE6 => ?main⟩
  case main =>
    intro hoff hmT hmL hxy hyz hxz hx0 hy0 hz0 hx1 hy1 hz1 hcx hcy hcz hux huy huz hlx0 hly0 hlz0 hxyN hyzN hxzN hvx hnx hvy hty hoy hsy hdy hfy hny hvz htz hoz hsz hdz hfz hnz qz44 qz46 qz48 qz49 hret B' X' T' hr0 l1 qz64 qz80 qz96 qz104 qz119 qz132 qz145 Fq4 loq4 hdq4 hfq4 Nq4 hlq4 hl2q4
    generalize vE1.W 0 = w, vE1.N 0 = aE, vE1.N 1 = aT, vE1.N 2 = aL, vE1.VS 0 = evs, vE1.VS 1 = lvs, vE1.N 3 = nE, vE1.N 4 = nT, vE1.N 5 = nL, vE1.I 0 = x, vE1.I 1 = y, vE1.I 2 = z, vE1.I 3 = worth, vE1.N 6 = tx, vE1.N 7 = ty, vE1.N 8 = tz, vE1.N 9 = tw, vE1.E 0 = ex, vE1.E 1 = ey, vE1.E 2 = ez, vE1.P3 0 = lx, vE1.P3 1 = ly, vE1.P3 2 = lz, vE1.R 0 = rest, vE2.N 0 = bx, vE2.N 5 = by', vE2.N 10 = bz, vE2.N 15 = ix, vE2.N 22 = iy, vE2.N 23 = dy, vE2.O 1 = oy, vE2.KV 1 = ky, vE2.N 24 = ny, vE2.N 25 = qz14, vE2.N 26 = qz15, vE2.N 27 = qz16, vE2.N 28 = qz17, vE2.N 29 = iz, vE2.N 30 = dz, vE2.O 2 = oz, vE2.KV 2 = kz, vE2.N 31 = nz, vE2.N 32 = qz18, vE2.N 33 = qz19, vE2.N 34 = qz20, vE2.N 35 = qz21, vE2.LS 0 = qz22, vE2.mean 0 = qz23, vE2.M 0 = qz24, vE2.M 1 = qz25, vE2.N 36 = qz26, vE2.N 37 = qz27, vE2.cn 0 = qz28, vE2.cs 0 = qz29, vE2.N 38 = qz30, vE2.V 0 = qz31, vE2.cl 0 = qz32, vE2.outer 0 = qz33, vE2.H 0 = qz35, vE2.H 1 = qz36, vE2.N 39 = qz37, vE2.M 2 = qz38, vE2.s 0 = qz39, vE2.Q 0 = qz40, vE2.Q 1 = qz41, vE2.H 2 = g', vE2.N 40 = L', vE2.H 3 = h', vE2.N 41 = tk', vE2.O 3 = qz50, vE3.N 0 = qz68, vE3.N 1 = qz84, vE3.N 2 = qz100, vE3.N 3 = qz101, vE3.N 5 = qz107, vE4.H 0 = qz111, vE4.N 0 = qz112, vE4.N 1 = qz118, vE4.N 2 = qz120, vE4.H 1 = qz121, vE4.N 3 = qz122, vE4.N 4 = qz125, vE4.O 0 = qz134, vE4.H 3 = h', vE4.N 5 = tk', vE4.N 6 = t', vE5.N 0 = qz143, vE5.H 0 = qz146, vE5.N 1 = tk, vE5.H 1 = h', vE5.N 2 = tk', vE5.N 3 = a', vE5.N 4 = d', vE5.O 0 = o', vE5.KV 0 = kvs', vE5.N 5 = s1', vE5.N 6 = s2', vE5.N 7 = s3', vE5.N 8 = s4' at *
    k_steps
    refine halt_out ?_
    k_dflt (refine' Ct.use (c98 _ _ _ _ _ _ ?h1 ?h2 ?h3 ?h4) ?B ?F ?X ?N ?T ?hk ?hd ?hu ?_; (case N => k_asm); (case B => k_asm); (case F => k_asm); (case X => k_asm); (case T => k_asm); (case hk => rfl); (case h1 => k_mem); (case h2 => k_asm); (case h3 => k_asm); (case h4 => k_asm); (case hd => ktr_room); (case hu => ktr_units))
    intro r' h' tk' nw' F' N' P'
    obtain ⟨t', hr', hn'⟩ := P'
    subst hr'
    subst hn'
    rename_i qz149 qz150 qz151 qz152 qz153 qz154 qz155 qz156 qz157 qz158 qz159 qz160 qz161 qz162 qz163 qz164 qz165 qz166 qz167 qz168 qz169 qz170 qz171 qz172 qz173
    revert hoff hmT hmL hxy hyz hxz hx0 hy0 hz0 hx1 hy1 hz1 hcx hcy hcz hux huy huz hly0 hlz0 hxyN hyzN hxzN hvx hnx hvy hty hoy hsy hdy hfy hny hvz htz hoz hsz hdz hfz hnz qz44 qz46 qz48 qz49 hret B' X' T' hr0 l1 qz80 qz96 qz104 qz119 qz132 qz145 loq4 hdq4 hfq4 hlq4 hl2q4 qz160 qz162 qz169 qz170 F' N'
    exact hPE6 qz150 qz151 qz152 qz155 qz165 qz166 qz171 h' tk' t'
noncomputable def pE6 (v : Vars) : Prop := ktE5.1 (v.N 0) (v.H 0) (v.N 1) (v.N 2) (v.O 0) (v.KV 0) (v.H 1) (v.H 2) (v.N 3) (v.N 4)
@[irreducible] noncomputable def vE6 : Vars := hk pE6
noncomputable def ktE6 : {P : (yN→yH→yN→yH→yN→yN→yN→yO→yKV→yN→yN→yN→yN→Prop) // (∀ x1 x2 x3 x4 x5 x6 x7 x8 x9 x10 x11 x12 x13, P x1 x2 x3 x4 x5 x6 x7 x8 x9 x10 x11 x12 x13) → pE6 vE6} := by
  refine' ⟨(_ : yW→yN→yN→yN→yVS→yVS→yN→yN→yN→yI→yI→yI→yI→yN→yN→yN→yN→yE→yE→yE→yP3→yP3→yP3→yR→yN→yN→yN→yN→yN→yN→yO→yKV→yN→yN→yN→yN→yN→yN→yN→yO→yKV→yN→yN→yN→yN→yN→yLS→ymean→yM→yM→yN→yN→ycn→ycs→yN→yV→ycl→youter→yH→yH→yN→yM→ys→yQ→yQ→yH→yN→yH→yN→yO→yN→yN→yN→yN→yN→yH→yN→yN→yN→yN→yH→yN→yN→yN→yH→yN→yN→yN→yO→yKV→yN→yN→yN→yN→yN→yH→yN→yN→yO→yKV→yH→yH→yN→yN→yN→yH→yN→yH→yN→yN→yN→yO→yKV→yN→yN→yN→yN→Prop) (vE1.W 0) (vE1.N 0) (vE1.N 1) (vE1.N 2) (vE1.VS 0) (vE1.VS 1) (vE1.N 3) (vE1.N 4) (vE1.N 5) (vE1.I 0) (vE1.I 1) (vE1.I 2) (vE1.I 3) (vE1.N 6) (vE1.N 7) (vE1.N 8) (vE1.N 9) (vE1.E 0) (vE1.E 1) (vE1.E 2) (vE1.P3 0) (vE1.P3 1) (vE1.P3 2) (vE1.R 0) (vE2.N 0) (vE2.N 5) (vE2.N 10) (vE2.N 15) (vE2.N 22) (vE2.N 23) (vE2.O 1) (vE2.KV 1) (vE2.N 24) (vE2.N 25) (vE2.N 26) (vE2.N 27) (vE2.N 28) (vE2.N 29) (vE2.N 30) (vE2.O 2) (vE2.KV 2) (vE2.N 31) (vE2.N 32) (vE2.N 33) (vE2.N 34) (vE2.N 35) (vE2.LS 0) (vE2.mean 0) (vE2.M 0) (vE2.M 1) (vE2.N 36) (vE2.N 37) (vE2.cn 0) (vE2.cs 0) (vE2.N 38) (vE2.V 0) (vE2.cl 0) (vE2.outer 0) (vE2.H 0) (vE2.H 1) (vE2.N 39) (vE2.M 2) (vE2.s 0) (vE2.Q 0) (vE2.Q 1) (vE2.H 2) (vE2.N 40) (vE2.H 3) (vE2.N 41) (vE2.O 3) (vE3.N 0) (vE3.N 1) (vE3.N 2) (vE3.N 3) (vE3.N 5) (vE4.H 0) (vE4.N 0) (vE4.N 1) (vE4.N 2) (vE4.N 4) (vE4.H 3) (vE4.N 5) (vE4.N 6) (vE5.N 0) (vE5.H 1) (vE5.N 2) (vE5.N 3) (vE5.N 4) (vE5.O 0) (vE5.KV 0) (vE5.N 5) (vE5.N 6) (vE5.N 7) (vE5.N 8) (vE6.N 0) (vE6.H 0) (vE6.N 1) (vE6.N 2) (vE6.O 0) (vE6.KV 0) (vE6.H 1) (vE6.H 2) (vE6.N 3) (vE6.N 4), fun hPE7 => ?main⟩
  case main =>
    intro hoff hmT hmL hxy hyz hxz hx0 hy0 hz0 hx1 hy1 hz1 hcx hcy hcz hux huy huz hly0 hlz0 hxyN hyzN hxzN hvx hnx hvy hty hoy hsy hdy hfy hny hvz htz hoz hsz hdz hfz hnz qz44 qz46 qz48 qz49 hret B' X' T' hr0 l1 qz80 qz96 qz104 qz119 qz132 qz145 loq4 hdq4 hfq4 hlq4 hl2q4 qz160 qz162 qz169 qz170 Fq5 Nq5
    generalize vE1.W 0 = w, vE1.N 0 = aE, vE1.N 1 = aT, vE1.N 2 = aL, vE1.VS 0 = evs, vE1.VS 1 = lvs, vE1.N 3 = nE, vE1.N 4 = nT, vE1.N 5 = nL, vE1.I 0 = x, vE1.I 1 = y, vE1.I 2 = z, vE1.I 3 = worth, vE1.N 6 = tx, vE1.N 7 = ty, vE1.N 8 = tz, vE1.N 9 = tw, vE1.E 0 = ex, vE1.E 1 = ey, vE1.E 2 = ez, vE1.P3 0 = lx, vE1.P3 1 = ly, vE1.P3 2 = lz, vE1.R 0 = rest, vE2.N 0 = bx, vE2.N 5 = by', vE2.N 10 = bz, vE2.N 15 = ix, vE2.N 22 = iy, vE2.N 23 = dy, vE2.O 1 = oy, vE2.KV 1 = ky, vE2.N 24 = ny, vE2.N 25 = qz14, vE2.N 26 = qz15, vE2.N 27 = qz16, vE2.N 28 = qz17, vE2.N 29 = iz, vE2.N 30 = dz, vE2.O 2 = oz, vE2.KV 2 = kz, vE2.N 31 = nz, vE2.N 32 = qz18, vE2.N 33 = qz19, vE2.N 34 = qz20, vE2.N 35 = qz21, vE2.LS 0 = qz22, vE2.mean 0 = qz23, vE2.M 0 = qz24, vE2.M 1 = qz25, vE2.N 36 = qz26, vE2.N 37 = qz27, vE2.cn 0 = qz28, vE2.cs 0 = qz29, vE2.N 38 = qz30, vE2.V 0 = qz31, vE2.cl 0 = qz32, vE2.outer 0 = qz33, vE2.H 0 = qz35, vE2.H 1 = qz36, vE2.N 39 = qz37, vE2.M 2 = qz38, vE2.s 0 = qz39, vE2.Q 0 = qz40, vE2.Q 1 = qz41, vE2.H 2 = g', vE2.N 40 = L', vE2.H 3 = h', vE2.N 41 = tk', vE2.O 3 = qz50, vE3.N 0 = qz68, vE3.N 1 = qz84, vE3.N 2 = qz100, vE3.N 3 = qz101, vE3.N 5 = qz107, vE4.H 0 = qz111, vE4.N 0 = qz112, vE4.N 1 = qz118, vE4.N 2 = qz120, vE4.N 4 = qz125, vE4.H 3 = h', vE4.N 5 = tk', vE4.N 6 = t', vE5.N 0 = qz143, vE5.H 1 = h', vE5.N 2 = tk', vE5.N 3 = a', vE5.N 4 = d', vE5.O 0 = o', vE5.KV 0 = kvs', vE5.N 5 = s1', vE5.N 6 = s2', vE5.N 7 = s3', vE5.N 8 = s4', vE6.N 0 = qz150, vE6.H 0 = qz151, vE6.N 1 = qz152, vE6.N 2 = qz155, vE6.O 0 = qz165, vE6.KV 0 = qz166, vE6.H 1 = qz171, vE6.H 2 = h', vE6.N 3 = tk', vE6.N 4 = t' at *
    k_steps
    refine halt_out ?_
    k_dflt (refine' Ct.use (c84 _ _ _ _ _ _ _ _ _ _ _ _ _ _ _ _ _ _ _ _ _ _ _ _ _ _ _ _ _ _ ?h1 ?h2 ?h3 ?h4 ?h5 ?h6 ?h7 ?h8 ?h9 ?h10 ?h11 ?a1 ?a2) ?B ?F ?X ?N ?T ?hk ?hd ?hu ?_; (case N => k_asm); (case B => k_asm); (case F => k_asm); (case X => k_asm); (case T => k_asm); (case hk => rfl); (case a1 => k_mem); (case a2 => k_mem); (case h1 => k_mem); (case h2 => k_asm); (case h3 => k_asm); (case h4 => k_asm); (case h5 => k_mem); (case h6 => k_asm); (case h7 => k_asm); (case h8 => k_asm); (case h9 => k_asm); (case h10 => k_asm); (case h11 => exact Nat.le_of_ble_eq_true rfl); (case hd => ktr_room); (case hu => ktr_units))
    intro r' h' tk' nw' F' N' P'
    obtain ⟨a', d', o', kvs', s1', s2', s3', s4', hr', hl', hl2', lo', hd', hf', hn'⟩ := P'
    subst hr'
    subst hn'
    (try k_lt hl')
    (try k_lt2 hl2')
    rename_i qz174 qz175 qz176 qz177 qz178 qz179
    revert hoff hmT hmL hxy hyz hxz hx0 hy0 hz0 hx1 hy1 hz1 hcx hcy hcz hux huy huz hly0 hlz0 hyzN hxzN hvx hnx hvy hny hvz htz hoz hsz hdz hfz hnz qz44 qz46 qz48 qz49 hret B' X' T' hr0 l1 qz80 qz96 qz104 qz119 qz132 qz145 loq4 hdq4 hfq4 hlq4 hl2q4 qz162 qz176 F' lo' hd' hf' N' hl' hl2'
    exact hPE7 qz174 qz177 tk h' tk' a' d' o' kvs' s1' s2' s3' s4'
noncomputable def pE7 (v : Vars) : Prop := ktE6.1 (v.N 0) (v.H 0) (v.N 1) (v.H 1) (v.N 2) (v.N 3) (v.N 4) (v.O 0) (v.KV 0) (v.N 5) (v.N 6) (v.N 7) (v.N 8)
@[irreducible] noncomputable def vE7 : Vars := hk pE7
noncomputable def ktE7 : {P : (yN→yH→yN→yN→yO→yKV→yH→yH→yN→yN→Prop) // (∀ x1 x2 x3 x4 x5 x6 x7 x8 x9 x10, P x1 x2 x3 x4 x5 x6 x7 x8 x9 x10) → pE7 vE7} := by
  refine' ⟨(_ : yW→yN→yN→yN→yVS→yVS→yN→yN→yN→yI→yI→yI→yI→yN→yN→yN→yN→yE→yE→yE→yP3→yP3→yP3→yR→yN→yN→yN→yN→yN→yN→yN→yO→yKV→yN→yN→yN→yN→yN→yLS→ymean→yM→yM→yN→yN→ycn→ycs→yN→yV→ycl→youter→yH→yH→yN→yM→ys→yQ→yQ→yH→yN→yH→yN→yO→yN→yN→yN→yN→yN→yH→yN→yN→yN→yN→yH→yN→yN→yN→yN→yH→yN→yN→yN→yO→yKV→yN→yN→yN→yN→yN→yH→yN→yN→yO→yH→yN→yN→yN→yH→yN→yH→yN→yN→yN→yO→yKV→yN→yN→yN→yN→yN→yH→yN→yN→yO→yKV→yH→yH→yN→yN→Prop) (vE1.W 0) (vE1.N 0) (vE1.N 1) (vE1.N 2) (vE1.VS 0) (vE1.VS 1) (vE1.N 3) (vE1.N 4) (vE1.N 5) (vE1.I 0) (vE1.I 1) (vE1.I 2) (vE1.I 3) (vE1.N 6) (vE1.N 7) (vE1.N 8) (vE1.N 9) (vE1.E 0) (vE1.E 1) (vE1.E 2) (vE1.P3 0) (vE1.P3 1) (vE1.P3 2) (vE1.R 0) (vE2.N 0) (vE2.N 5) (vE2.N 10) (vE2.N 15) (vE2.N 22) (vE2.N 29) (vE2.N 30) (vE2.O 2) (vE2.KV 2) (vE2.N 31) (vE2.N 32) (vE2.N 33) (vE2.N 34) (vE2.N 35) (vE2.LS 0) (vE2.mean 0) (vE2.M 0) (vE2.M 1) (vE2.N 36) (vE2.N 37) (vE2.cn 0) (vE2.cs 0) (vE2.N 38) (vE2.V 0) (vE2.cl 0) (vE2.outer 0) (vE2.H 0) (vE2.H 1) (vE2.N 39) (vE2.M 2) (vE2.s 0) (vE2.Q 0) (vE2.Q 1) (vE2.H 2) (vE2.N 40) (vE2.H 3) (vE2.N 41) (vE2.O 3) (vE3.N 0) (vE3.N 1) (vE3.N 2) (vE3.N 3) (vE3.N 5) (vE4.H 0) (vE4.N 0) (vE4.N 1) (vE4.N 2) (vE4.N 4) (vE4.H 3) (vE4.N 5) (vE4.N 6) (vE5.N 0) (vE5.N 1) (vE5.H 1) (vE5.N 2) (vE5.N 3) (vE5.N 4) (vE5.O 0) (vE5.KV 0) (vE5.N 5) (vE5.N 6) (vE5.N 7) (vE5.N 8) (vE6.N 0) (vE6.H 0) (vE6.N 1) (vE6.N 2) (vE6.O 0) (vE6.H 2) (vE6.N 3) (vE6.N 4) (vE7.N 0) (vE7.H 0) (vE7.N 1) (vE7.H 1) (vE7.N 2) (vE7.N 3) (vE7.N 4) (vE7.O 0) (vE7.KV 0) (vE7.N 5) (vE7.N 6) (vE7.N 7) (vE7.N 8), fun hPE8 => ?main⟩
  case main =>
    intro hoff hmT hmL hxy hyz hxz hx0 hy0 hz0 hx1 hy1 hz1 hcx hcy hcz hux huy huz hly0 hlz0 hyzN hxzN hvx hnx hvy hny hvz htz hoz hsz hdz hfz hnz qz44 qz46 qz48 qz49 hret B' X' T' hr0 l1 qz80 qz96 qz104 qz119 qz132 qz145 loq4 hdq4 hfq4 hlq4 hl2q4 qz162 qz176 Fq6 loq6 hdq6 hfq6 Nq6 hlq6 hl2q6
    generalize vE1.W 0 = w, vE1.N 0 = aE, vE1.N 1 = aT, vE1.N 2 = aL, vE1.VS 0 = evs, vE1.VS 1 = lvs, vE1.N 3 = nE, vE1.N 4 = nT, vE1.N 5 = nL, vE1.I 0 = x, vE1.I 1 = y, vE1.I 2 = z, vE1.I 3 = worth, vE1.N 6 = tx, vE1.N 7 = ty, vE1.N 8 = tz, vE1.N 9 = tw, vE1.E 0 = ex, vE1.E 1 = ey, vE1.E 2 = ez, vE1.P3 0 = lx, vE1.P3 1 = ly, vE1.P3 2 = lz, vE1.R 0 = rest, vE2.N 0 = bx, vE2.N 5 = by', vE2.N 10 = bz, vE2.N 15 = ix, vE2.N 22 = iy, vE2.N 29 = iz, vE2.N 30 = dz, vE2.O 2 = oz, vE2.KV 2 = kz, vE2.N 31 = nz, vE2.N 32 = qz18, vE2.N 33 = qz19, vE2.N 34 = qz20, vE2.N 35 = qz21, vE2.LS 0 = qz22, vE2.mean 0 = qz23, vE2.M 0 = qz24, vE2.M 1 = qz25, vE2.N 36 = qz26, vE2.N 37 = qz27, vE2.cn 0 = qz28, vE2.cs 0 = qz29, vE2.N 38 = qz30, vE2.V 0 = qz31, vE2.cl 0 = qz32, vE2.outer 0 = qz33, vE2.H 0 = qz35, vE2.H 1 = qz36, vE2.N 39 = qz37, vE2.M 2 = qz38, vE2.s 0 = qz39, vE2.Q 0 = qz40, vE2.Q 1 = qz41, vE2.H 2 = g', vE2.N 40 = L', vE2.H 3 = h', vE2.N 41 = tk', vE2.O 3 = qz50, vE3.N 0 = qz68, vE3.N 1 = qz84, vE3.N 2 = qz100, vE3.N 3 = qz101, vE3.N 5 = qz107, vE4.H 0 = qz111, vE4.N 0 = qz112, vE4.N 1 = qz118, vE4.N 2 = qz120, vE4.N 4 = qz125, vE4.H 3 = h', vE4.N 5 = tk', vE4.N 6 = t', vE5.N 0 = qz143, vE5.N 1 = tk, vE5.H 1 = h', vE5.N 2 = tk', vE5.N 3 = a', vE5.N 4 = d', vE5.O 0 = o', vE5.KV 0 = kvs', vE5.N 5 = s1', vE5.N 6 = s2', vE5.N 7 = s3', vE5.N 8 = s4', vE6.N 0 = qz150, vE6.H 0 = qz151, vE6.N 1 = qz152, vE6.N 2 = qz155, vE6.O 0 = qz165, vE6.H 2 = h', vE6.N 3 = tk', vE6.N 4 = t', vE7.N 0 = qz174, vE7.H 0 = qz177, vE7.N 1 = tk, vE7.H 1 = h', vE7.N 2 = tk', vE7.N 3 = a', vE7.N 4 = d', vE7.O 0 = o', vE7.KV 0 = kvs', vE7.N 5 = s1', vE7.N 6 = s2', vE7.N 7 = s3', vE7.N 8 = s4' at *
    k_steps
    refine halt_out ?_
    k_dflt (refine' Ct.use (c98 _ _ _ _ _ _ ?h1 ?h2 ?h3 ?h4) ?B ?F ?X ?N ?T ?hk ?hd ?hu ?_; (case N => k_asm); (case B => k_asm); (case F => k_asm); (case X => k_asm); (case T => k_asm); (case hk => rfl); (case h1 => k_mem); (case h2 => k_asm); (case h3 => k_asm); (case h4 => k_asm); (case hd => ktr_room); (case hu => ktr_units))
    intro r' h' tk' nw' F' N' P'
    obtain ⟨t', hr', hn'⟩ := P'
    subst hr'
    subst hn'
    rename_i qz180 qz181 qz182 qz183 qz184 qz185 qz186 qz187 qz188 qz189 qz190 qz191 qz192 qz193 qz194 qz195 qz196 qz197 qz198 qz199 qz200 qz201 qz202 qz203 qz204 qz205
    revert hoff hmT hmL hxy hyz hxz hx0 hy0 hz0 hx1 hy1 hz1 hcx hcy hcz hux huy huz hlz0 hyzN hxzN hvx hnx hvy hny hvz htz hoz hsz hdz hfz hnz qz44 qz46 qz48 qz49 hret B' X' T' hr0 l1 qz96 qz104 qz119 loq4 hdq4 hfq4 hlq4 hl2q4 loq6 hdq6 hfq6 hlq6 hl2q6 qz191 qz193 qz201 qz202 F' N'
    exact hPE8 qz181 qz182 qz183 qz186 qz197 qz198 qz203 h' tk' t'
noncomputable def pE8 (v : Vars) : Prop := ktE7.1 (v.N 0) (v.H 0) (v.N 1) (v.N 2) (v.O 0) (v.KV 0) (v.H 1) (v.H 2) (v.N 3) (v.N 4)
@[irreducible] noncomputable def vE8 : Vars := hk pE8
noncomputable def ktE8 : {P : (yN→yH→yN→yH→yN→yN→yN→yO→yKV→yN→yN→yN→yN→Prop) // (∀ x1 x2 x3 x4 x5 x6 x7 x8 x9 x10 x11 x12 x13, P x1 x2 x3 x4 x5 x6 x7 x8 x9 x10 x11 x12 x13) → pE8 vE8} := by
  refine' ⟨(_ : yW→yN→yN→yN→yVS→yVS→yN→yN→yN→yI→yI→yI→yI→yN→yN→yN→yN→yE→yE→yE→yP3→yP3→yP3→yR→yN→yN→yN→yN→yN→yN→yN→yO→yKV→yN→yN→yN→yN→yN→yLS→ymean→yM→yM→yN→yN→ycn→ycs→yN→yV→ycl→youter→yH→yH→yN→yM→ys→yQ→yQ→yH→yN→yH→yN→yO→yN→yN→yN→yN→yN→yH→yN→yN→yN→yN→yH→yN→yN→yN→yH→yN→yN→yN→yO→yKV→yN→yN→yN→yN→yN→yN→yH→yN→yN→yN→yH→yN→yN→yN→yO→yKV→yN→yN→yN→yN→yN→yH→yN→yN→yO→yKV→yH→yH→yN→yN→yN→yH→yN→yH→yN→yN→yN→yO→yKV→yN→yN→yN→yN→Prop) (vE1.W 0) (vE1.N 0) (vE1.N 1) (vE1.N 2) (vE1.VS 0) (vE1.VS 1) (vE1.N 3) (vE1.N 4) (vE1.N 5) (vE1.I 0) (vE1.I 1) (vE1.I 2) (vE1.I 3) (vE1.N 6) (vE1.N 7) (vE1.N 8) (vE1.N 9) (vE1.E 0) (vE1.E 1) (vE1.E 2) (vE1.P3 0) (vE1.P3 1) (vE1.P3 2) (vE1.R 0) (vE2.N 0) (vE2.N 5) (vE2.N 10) (vE2.N 15) (vE2.N 22) (vE2.N 29) (vE2.N 30) (vE2.O 2) (vE2.KV 2) (vE2.N 31) (vE2.N 32) (vE2.N 33) (vE2.N 34) (vE2.N 35) (vE2.LS 0) (vE2.mean 0) (vE2.M 0) (vE2.M 1) (vE2.N 36) (vE2.N 37) (vE2.cn 0) (vE2.cs 0) (vE2.N 38) (vE2.V 0) (vE2.cl 0) (vE2.outer 0) (vE2.H 0) (vE2.H 1) (vE2.N 39) (vE2.M 2) (vE2.s 0) (vE2.Q 0) (vE2.Q 1) (vE2.H 2) (vE2.N 40) (vE2.H 3) (vE2.N 41) (vE2.O 3) (vE3.N 0) (vE3.N 1) (vE3.N 2) (vE3.N 3) (vE3.N 5) (vE4.H 0) (vE4.N 0) (vE4.N 1) (vE4.N 2) (vE4.N 4) (vE4.H 3) (vE4.N 5) (vE4.N 6) (vE5.N 0) (vE5.H 1) (vE5.N 2) (vE5.N 3) (vE5.N 4) (vE5.O 0) (vE5.KV 0) (vE5.N 5) (vE5.N 6) (vE5.N 7) (vE5.N 8) (vE6.N 0) (vE6.N 2) (vE6.H 2) (vE6.N 3) (vE6.N 4) (vE7.N 0) (vE7.H 1) (vE7.N 2) (vE7.N 3) (vE7.N 4) (vE7.O 0) (vE7.KV 0) (vE7.N 5) (vE7.N 6) (vE7.N 7) (vE7.N 8) (vE8.N 0) (vE8.H 0) (vE8.N 1) (vE8.N 2) (vE8.O 0) (vE8.KV 0) (vE8.H 1) (vE8.H 2) (vE8.N 3) (vE8.N 4), fun hPE9 => ?main⟩
  case main =>
    intro hoff hmT hmL hxy hyz hxz hx0 hy0 hz0 hx1 hy1 hz1 hcx hcy hcz hux huy huz hlz0 hyzN hxzN hvx hnx hvy hny hvz htz hoz hsz hdz hfz hnz qz44 qz46 qz48 qz49 hret B' X' T' hr0 l1 qz96 qz104 qz119 loq4 hdq4 hfq4 hlq4 hl2q4 loq6 hdq6 hfq6 hlq6 hl2q6 qz191 qz193 qz201 qz202 Fq7 Nq7
    generalize vE1.W 0 = w, vE1.N 0 = aE, vE1.N 1 = aT, vE1.N 2 = aL, vE1.VS 0 = evs, vE1.VS 1 = lvs, vE1.N 3 = nE, vE1.N 4 = nT, vE1.N 5 = nL, vE1.I 0 = x, vE1.I 1 = y, vE1.I 2 = z, vE1.I 3 = worth, vE1.N 6 = tx, vE1.N 7 = ty, vE1.N 8 = tz, vE1.N 9 = tw, vE1.E 0 = ex, vE1.E 1 = ey, vE1.E 2 = ez, vE1.P3 0 = lx, vE1.P3 1 = ly, vE1.P3 2 = lz, vE1.R 0 = rest, vE2.N 0 = bx, vE2.N 5 = by', vE2.N 10 = bz, vE2.N 15 = ix, vE2.N 22 = iy, vE2.N 29 = iz, vE2.N 30 = dz, vE2.O 2 = oz, vE2.KV 2 = kz, vE2.N 31 = nz, vE2.N 32 = qz18, vE2.N 33 = qz19, vE2.N 34 = qz20, vE2.N 35 = qz21, vE2.LS 0 = qz22, vE2.mean 0 = qz23, vE2.M 0 = qz24, vE2.M 1 = qz25, vE2.N 36 = qz26, vE2.N 37 = qz27, vE2.cn 0 = qz28, vE2.cs 0 = qz29, vE2.N 38 = qz30, vE2.V 0 = qz31, vE2.cl 0 = qz32, vE2.outer 0 = qz33, vE2.H 0 = qz35, vE2.H 1 = qz36, vE2.N 39 = qz37, vE2.M 2 = qz38, vE2.s 0 = qz39, vE2.Q 0 = qz40, vE2.Q 1 = qz41, vE2.H 2 = g', vE2.N 40 = L', vE2.H 3 = h', vE2.N 41 = tk', vE2.O 3 = qz50, vE3.N 0 = qz68, vE3.N 1 = qz84, vE3.N 2 = qz100, vE3.N 3 = qz101, vE3.N 5 = qz107, vE4.H 0 = qz111, vE4.N 0 = qz112, vE4.N 1 = qz118, vE4.N 2 = qz120, vE4.N 4 = qz125, vE4.H 3 = h', vE4.N 5 = tk', vE4.N 6 = t', vE5.N 0 = qz143, vE5.H 1 = h', vE5.N 2 = tk', vE5.N 3 = a', vE5.N 4 = d', vE5.O 0 = o', vE5.KV 0 = kvs', vE5.N 5 = s1', vE5.N 6 = s2', vE5.N 7 = s3', vE5.N 8 = s4', vE6.N 0 = qz150, vE6.N 2 = qz155, vE6.H 2 = h', vE6.N 3 = tk', vE6.N 4 = t', vE7.N 0 = qz174, vE7.H 1 = h', vE7.N 2 = tk', vE7.N 3 = a', vE7.N 4 = d', vE7.O 0 = o', vE7.KV 0 = kvs', vE7.N 5 = s1', vE7.N 6 = s2', vE7.N 7 = s3', vE7.N 8 = s4', vE8.N 0 = qz181, vE8.H 0 = qz182, vE8.N 1 = qz183, vE8.N 2 = qz186, vE8.O 0 = qz197, vE8.KV 0 = qz198, vE8.H 1 = qz203, vE8.H 2 = h', vE8.N 3 = tk', vE8.N 4 = t' at *
    k_steps
    refine halt_out ?_
    k_dflt (refine' Ct.use (c84 _ _ _ _ _ _ _ _ _ _ _ _ _ _ _ _ _ _ _ _ _ _ _ _ _ _ _ _ _ _ ?h1 ?h2 ?h3 ?h4 ?h5 ?h6 ?h7 ?h8 ?h9 ?h10 ?h11 ?a1 ?a2) ?B ?F ?X ?N ?T ?hk ?hd ?hu ?_; (case N => k_asm); (case B => k_asm); (case F => k_asm); (case X => k_asm); (case T => k_asm); (case hk => rfl); (case a1 => k_mem); (case a2 => k_mem); (case h1 => k_mem); (case h2 => k_asm); (case h3 => k_asm); (case h4 => k_asm); (case h5 => k_mem); (case h6 => k_asm); (case h7 => k_asm); (case h8 => k_asm); (case h9 => k_asm); (case h10 => k_asm); (case h11 => exact Nat.le_of_ble_eq_true rfl); (case hd => ktr_room); (case hu => ktr_units))
    intro r' h' tk' nw' F' N' P'
    obtain ⟨a', d', o', kvs', s1', s2', s3', s4', hr', hl', hl2', lo', hd', hf', hn'⟩ := P'
    subst hr'
    subst hn'
    (try k_lt hl')
    (try k_lt2 hl2')
    rename_i qz206 qz207 qz208 qz209 qz210 qz211
    revert hoff hmT hmL hxy hyz hxz hx0 hy0 hz0 hx1 hy1 hz1 hcx hcy hcz hux huy huz hlz0 hvx hnx hvy hny hvz hnz qz44 qz46 hret hr0 l1 qz96 qz104 qz119 loq4 hdq4 hfq4 hlq4 hl2q4 loq6 hdq6 hfq6 hlq6 hl2q6 qz193 qz208 F' lo' hd' hf' N' hl' hl2'
    exact hPE9 qz206 qz209 tk h' tk' a' d' o' kvs' s1' s2' s3' s4'
noncomputable def pE9 (v : Vars) : Prop := ktE8.1 (v.N 0) (v.H 0) (v.N 1) (v.H 1) (v.N 2) (v.N 3) (v.N 4) (v.O 0) (v.KV 0) (v.N 5) (v.N 6) (v.N 7) (v.N 8)
@[irreducible] noncomputable def vE9 : Vars := hk pE9
theorem tE9 : pE9 vE9 := by
  intro hoff hmT hmL hxy hyz hxz hx0 hy0 hz0 hx1 hy1 hz1 hcx hcy hcz hux huy huz hlz0 hvx hnx hvy hny hvz hnz qz44 qz46 hret hr0 l1 qz96 qz104 qz119 loq4 hdq4 hfq4 hlq4 hl2q4 loq6 hdq6 hfq6 hlq6 hl2q6 qz193 qz208 F' lo' hd' hf' N' hl' hl2'
  generalize vE1.W 0 = w, vE1.N 0 = aE, vE1.N 1 = aT, vE1.N 2 = aL, vE1.VS 0 = evs, vE1.VS 1 = lvs, vE1.N 3 = nE, vE1.N 4 = nT, vE1.N 5 = nL, vE1.I 0 = x, vE1.I 1 = y, vE1.I 2 = z, vE1.I 3 = worth, vE1.N 6 = tx, vE1.N 7 = ty, vE1.N 8 = tz, vE1.N 9 = tw, vE1.E 0 = ex, vE1.E 1 = ey, vE1.E 2 = ez, vE1.P3 0 = lx, vE1.P3 1 = ly, vE1.P3 2 = lz, vE1.R 0 = rest, vE2.N 0 = bx, vE2.N 5 = by', vE2.N 10 = bz, vE2.N 15 = ix, vE2.N 22 = iy, vE2.N 29 = iz, vE2.LS 0 = qz22, vE2.mean 0 = qz23, vE2.M 0 = qz24, vE2.M 1 = qz25, vE2.N 36 = qz26, vE2.N 37 = qz27, vE2.cn 0 = qz28, vE2.cs 0 = qz29, vE2.N 38 = qz30, vE2.V 0 = qz31, vE2.cl 0 = qz32, vE2.outer 0 = qz33, vE2.H 1 = qz36, vE2.N 39 = qz37, vE2.M 2 = qz38, vE2.s 0 = qz39, vE2.Q 0 = qz40, vE2.Q 1 = qz41, vE2.H 2 = g', vE2.N 40 = L', vE2.H 3 = h', vE2.N 41 = tk', vE2.O 3 = qz50, vE3.N 0 = qz68, vE3.N 1 = qz84, vE3.N 2 = qz100, vE3.N 3 = qz101, vE3.N 5 = qz107, vE4.H 0 = qz111, vE4.N 0 = qz112, vE4.N 1 = qz118, vE4.N 2 = qz120, vE4.N 4 = qz125, vE4.H 3 = h', vE4.N 5 = tk', vE4.N 6 = t', vE5.N 0 = qz143, vE5.N 1 = tk, vE5.H 1 = h', vE5.N 2 = tk', vE5.N 3 = a', vE5.N 4 = d', vE5.O 0 = o', vE5.KV 0 = kvs', vE5.N 5 = s1', vE5.N 6 = s2', vE5.N 7 = s3', vE5.N 8 = s4', vE6.N 0 = qz150, vE6.N 2 = qz155, vE6.H 2 = h', vE6.N 3 = tk', vE6.N 4 = t', vE7.N 0 = qz174, vE7.N 1 = tk, vE7.H 1 = h', vE7.N 2 = tk', vE7.N 3 = a', vE7.N 4 = d', vE7.O 0 = o', vE7.KV 0 = kvs', vE7.N 5 = s1', vE7.N 6 = s2', vE7.N 7 = s3', vE7.N 8 = s4', vE8.N 0 = qz181, vE8.H 0 = qz182, vE8.N 1 = qz183, vE8.N 2 = qz186, vE8.O 0 = qz197, vE8.H 2 = h', vE8.N 3 = tk', vE8.N 4 = t', vE9.N 0 = qz206, vE9.H 0 = qz209, vE9.N 1 = tk, vE9.H 1 = h', vE9.N 2 = tk', vE9.N 3 = a', vE9.N 4 = d', vE9.O 0 = o', vE9.KV 0 = kvs', vE9.N 5 = s1', vE9.N 6 = s2', vE9.N 7 = s3', vE9.N 8 = s4' at *
  k_steps
  have eo : (lx.1 + (lx.2.1 + (lx.2.2 + 0)) + (ly.1 + (ly.2.1 + (ly.2.2 + 0)) + (lz.1 + (lz.2.1 + (lz.2.2 + 0)) + 0))) = lx.1 + lx.2.1 + lx.2.2 + (ly.1 + ly.2.1 + ly.2.2) + (lz.1 + lz.2.1 + lz.2.2) := by lia
  have kN' := (by assumption : News _ _ _ (_ :: _ :: _ :: _ :: _ :: _ :: _ :: _ :: (aE, _) :: rest))
  rw [eo] at kN'
  refine hret _ _ _ _ (by assumption) (fun p hp => kN' p (last9 p hp)) ⟨_, _, _, _, rfl, rfl, ?_, ?_, ?_, ?_⟩
  · exact ⟨_, _, _, _, _, _, _, _, _, rfl, .tail _ (.tail _ (.tail _ (.tail _ (.head _)))), .tail _ (.tail _ (.tail _ (.tail _ (.tail _ (.head _))))), by assumption, by assumption, by assumption, addTo_nodup _ hnx⟩
  · exact ⟨_, _, _, _, _, _, _, _, _, rfl, .tail _ (.tail _ (.head _)), .tail _ (.tail _ (.tail _ (.head _))), by assumption, by assumption, by assumption, addTo_nodup _ hny⟩
  · exact ⟨_, _, _, _, _, _, _, _, _, rfl, .head _, .tail _ (.head _), by assumption, by assumption, by assumption, addTo_nodup _ hnz⟩
  · intro p hp
    simp only [List.mem_cons, List.not_mem_nil, or_false] at hp
    rcases hp with rfl | rfl | rfl | rfl | rfl | rfl <;> (dsimp only; first | exact z5 (by assumption) | exact z7 (by assumption) | exact z9 (by assumption) | exact zt (by assumption) (z5 (by assumption)) | exact zt (by assumption) (z7 (by assumption)) | exact zt (by assumption) (z9 (by assumption)))
theorem aE9 : ∀ v, pE9 v := hkv tE9 (by unfold vE9; rfl)
theorem tE8 : pE8 vE8 := ktE8.2 (fun x1 x2 x3 x4 x5 x6 x7 x8 x9 x10 x11 x12 x13 => aE9 {d0v with H := sl x2 [x4], N := sl x1 [x3, x5, x6, x7, x10, x11, x12, x13], O := sl x8 [], KV := sl x9 []})
theorem aE8 : ∀ v, pE8 v := hkv tE8 (by unfold vE8; rfl)
theorem tE7 : pE7 vE7 := ktE7.2 (fun x1 x2 x3 x4 x5 x6 x7 x8 x9 x10 => aE8 {d0v with H := sl x2 [x7, x8], N := sl x1 [x3, x4, x9, x10], O := sl x5 [], KV := sl x6 []})
theorem aE7 : ∀ v, pE7 v := hkv tE7 (by unfold vE7; rfl)
theorem tE6 : pE6 vE6 := ktE6.2 (fun x1 x2 x3 x4 x5 x6 x7 x8 x9 x10 x11 x12 x13 => aE7 {d0v with H := sl x2 [x4], N := sl x1 [x3, x5, x6, x7, x10, x11, x12, x13], O := sl x8 [], KV := sl x9 []})
theorem aE6 : ∀ v, pE6 v := hkv tE6 (by unfold vE6; rfl)
theorem tE5 : pE5 vE5 := ktE5.2 (fun x1 x2 x3 x4 x5 x6 x7 x8 x9 x10 => aE6 {d0v with H := sl x2 [x7, x8], N := sl x1 [x3, x4, x9, x10], O := sl x5 [], KV := sl x6 []})
theorem aE5 : ∀ v, pE5 v := hkv tE5 (by unfold vE5; rfl)
theorem tE4 : pE4 vE4 := ktE4.2 (fun x1 x2 x3 x4 x5 x6 x7 x8 x9 x10 x11 x12 x13 => aE5 {d0v with H := sl x2 [x4], N := sl x1 [x3, x5, x6, x7, x10, x11, x12, x13], O := sl x8 [], KV := sl x9 []})
theorem aE4 : ∀ v, pE4 v := hkv tE4 (by unfold vE4; rfl)
theorem tE3 : pE3 vE3 := ktE3.2 (fun x1 x2 x3 x4 x5 x6 x7 x8 x9 x10 x11 x12 x13 => aE4 {d0v with H := sl x1 [x5, x10, x11], N := sl x2 [x3, x4, x6, x7, x12, x13], O := sl x8 [], KV := sl x9 []})
theorem aE3 : ∀ v, pE3 v := hkv tE3 (by unfold vE3; rfl)
theorem tE2 : pE2 vE2 := ktE2.2 (fun x1 x2 x3 x4 x5 x6 x7 x8 => aE3 {d0v with H := sl x5 [x8], N := sl x1 [x2, x3, x4, x6, x7]})
theorem aE2 : ∀ v, pE2 v := hkv tE2 (by unfold vE2; rfl)
theorem tE1 : pE1 vE1 := ktE1.2 (fun x1 x2 x3 x4 x5 x6 x7 x8 x9 x10 x11 x12 x13 x14 x15 x16 x17 x18 x19 x20 x21 x22 x23 x24 x25 x26 x27 x28 x29 x30 x31 x32 x33 x34 x35 x36 x37 x38 x39 x40 x41 x42 x43 x44 x45 x46 x47 x48 x49 x50 x51 x52 x53 x54 x55 x56 x57 x58 x59 x60 x61 x62 x63 x64 x65 x66 => aE2 {d0v with LS := sl x43 [], mean := sl x44 [], cn := sl x49 [], cs := sl x50 [], cl := sl x53 [], outer := sl x54 [], s := sl x59 [], H := sl x55 [x56, x62, x64], N := sl x1 [x2, x3, x4, x5, x6, x7, x8, x9, x10, x11, x12, x13, x14, x15, x16, x17, x20, x21, x22, x23, x24, x25, x26, x29, x30, x31, x32, x33, x34, x35, x38, x39, x40, x41, x42, x47, x48, x51, x57, x63, x65], O := sl x18 [x27, x36, x66], V := sl x52 [], M := sl x45 [x46, x58], KV := sl x19 [x28, x37], Q := sl x60 [x61]})
theorem aE1 : ∀ v, pE1 v := hkv tE1 (by unfold vE1; rfl)
theorem Tc115 : Sc115 := kTc115.2 (fun x1 x2 x3 x4 x5 x6 x7 x8 x9 x10 x11 x12 x13 x14 x15 x16 x17 x18 x19 x20 x21 x22 x23 x24 x25 x26 x27 x28 x29 x30 => aE1 {d0v with W := sl x1 [], N := sl x2 [x3, x4, x7, x8, x9, x14, x15, x16, x17], V := sl x21 [x22, x23, x24, x25, x26], VS := sl x5 [x6], I := sl x10 [x11, x12, x13], E := sl x18 [x19, x20], R := sl x30 [], P3 := sl x27 [x28, x29]})
theorem c115 : Sc115 := Tc115
end
theorem Ct.weaken {w : World} {f : Addr} {d : Nat} {news : List (Addr × Obj)} {args : List Value} {P P' : Value → List (Addr × Obj) → Prop} (C : Ct w f d news args P) (h : ∀ r n, P r n → ∃ n', (∀ p ∈ n', p ∈ n) ∧ P' r n') : Ct w f d news args P' :=
  fun _ _ _ _ _ _ _ _ _ _ _ _ _ _ _ _ _ _ _ _ B F X N T hk hd hu k => C _ _ _ _ _ _ _ _ _ _ _ _ _ _ _ _ _ _ _ _ B F X N T hk hd hu fun r h' tk' n F' N' p =>
    let ⟨n', s, p'⟩ := h r n p
    k r h' tk' n' F' (fun q hq => N' q (s q hq)) p'
theorem Ct.sub {w : World} {f : Addr} {d : Nat} {news news' : List (Addr × Obj)} {args : List Value} {P : Value → List (Addr × Obj) → Prop} (C : Ct w f d news' args P) (h : ∀ p ∈ news', p ∈ news) : Ct w f d news args P :=
  fun _ _ _ _ _ _ _ _ _ _ _ _ _ _ _ _ _ _ _ _ B F X N T hk hd hu k => C _ _ _ _ _ _ _ _ _ _ _ _ _ _ _ _ _ _ _ _ B F X (fun q hq => N q (h q hq)) T hk hd hu k
theorem LightAt.mono {news news' : List (Addr × Obj)} {v : Value} {l : Int × Int × Int} (x : LightAt news v l) (h : ∀ p ∈ news, p ∈ news') : LightAt news' v l :=
  let ⟨b, n, s1, s2, s3, e, m⟩ := x; ⟨b, n, s1, s2, s3, e, h _ m⟩
theorem EntAt.mono {w : World} {news news' : List (Addr × Obj)} {v : Value} {l : Ent} (x : EntAt w news v l) (h : ∀ p ∈ news, p ∈ news') : EntAt w news' v l :=
  let ⟨t, d, o, kvs, n, s1, s2, s3, s4, e, m1, m2, r1, r2, r3, r4⟩ := x; ⟨t, d, o, kvs, n, s1, s2, s3, s4, e, h _ m1, h _ m2, r1, r2, r3, r4⟩
noncomputable def Lts (s : Int) (wc : List (Int × Nat)) (lvs : List Value) (news : List (Addr × Obj)) : Prop :=
  lvs.length = wc.length ∧ ∀ (i : Nat) (p : Int × Nat) (u : Value), wc[i]? = some p → lvs[i]? = some u → LightAt news u (light s p.1 p.2)
noncomputable def Ens (w : World) (es : List Ent) (evs : List Value) (news : List (Addr × Obj)) : Prop :=
  evs.length = es.length ∧ ∀ (i : Nat) (e : Ent) (v : Value), es[i]? = some e → evs[i]? = some v → EntAt w news v e
theorem Lts.mono {s : Int} {wc : List (Int × Nat)} {lvs : List Value} {news news' : List (Addr × Obj)} (x : Lts s wc lvs news) (h : ∀ p ∈ news, p ∈ news') : Lts s wc lvs news' := ⟨x.1, fun i p u a b => (x.2 i p u a b).mono h⟩
theorem Ens.mono {w : World} {es : List Ent} {evs : List Value} {news news' : List (Addr × Obj)} (x : Ens w es evs news) (h : ∀ p ∈ news, p ∈ news') : Ens w es evs news' := ⟨x.1, fun i p u a b => (x.2 i p u a b).mono h⟩
theorem Lts.at {s : Int} {wc : List (Int × Nat)} {lvs : List Value} {news : List (Addr × Obj)} (x : Lts s wc lvs news) {i : Nat} (h : i < wc.length) : ∃ u, lvs[i]? = some u ∧ LightAt news u (light s (wc.getD i (0, 0)).1 (wc.getD i (0, 0)).2) := by
  have h2 : i < lvs.length := by rw [x.1]; exact h
  refine ⟨lvs[i], List.getElem?_eq_getElem h2, ?_⟩
  rw [List.getD_eq_getElem?_getD, List.getElem?_eq_getElem h]
  exact x.2 i _ _ (List.getElem?_eq_getElem h) (List.getElem?_eq_getElem h2)
theorem Ens.at {w : World} {es : List Ent} {evs : List Value} {news : List (Addr × Obj)} (x : Ens w es evs news) {i : Nat} (h : i < es.length) : ∃ u e, evs[i]? = some u ∧ es[i]? = some e ∧ EntAt w news u e := by
  have h2 : i < evs.length := by rw [x.1]; exact h
  exact ⟨evs[i], es[i], List.getElem?_eq_getElem h2, List.getElem?_eq_getElem h, x.2 i _ _ (List.getElem?_eq_getElem h) (List.getElem?_eq_getElem h2)⟩
theorem Lts.snoc {s : Int} {wc : List (Int × Nat)} {lvs : List Value} {news : List (Addr × Obj)} (x : Lts s wc lvs news) {p : Int × Nat} {u : Value} (h : LightAt news u (light s p.1 p.2)) : Lts s (wc ++ [p]) (lvs ++ [u]) news := by
  refine ⟨by simp [x.1], fun i q v a b => ?_⟩
  rcases Nat.lt_trichotomy i wc.length with k | k | k
  · rw [List.getElem?_append_left k] at a
    rw [List.getElem?_append_left (by rw [x.1]; exact k)] at b
    exact x.2 i q v a b
  · rw [List.getElem?_append_right (by lia), k, Nat.sub_self] at a
    rw [List.getElem?_append_right (by rw [x.1]; lia), x.1, k, Nat.sub_self] at b
    cases a; cases b; exact h
  · rw [List.getElem?_eq_none (by rw [List.length_append, List.length_singleton]; lia)] at a; cases a
theorem Ens.snoc {w : World} {es : List Ent} {evs : List Value} {news : List (Addr × Obj)} (x : Ens w es evs news) {p : Ent} {u : Value} (h : EntAt w news u p) : Ens w (es ++ [p]) (evs ++ [u]) news := by
  refine ⟨by simp [x.1], fun i q v a b => ?_⟩
  rcases Nat.lt_trichotomy i es.length with k | k | k
  · rw [List.getElem?_append_left k] at a
    rw [List.getElem?_append_left (by rw [x.1]; exact k)] at b
    exact x.2 i q v a b
  · rw [List.getElem?_append_right (by lia), k, Nat.sub_self] at a
    rw [List.getElem?_append_right (by rw [x.1]; lia), x.1, k, Nat.sub_self] at b
    cases a; cases b; exact h
  · rw [List.getElem?_eq_none (by rw [List.length_append, List.length_singleton]; lia)] at a; cases a
theorem light_sum {s w : Int} {c : Nat} (h : c < 3) : (light s w c).1 + (light s w c).2.1 + (light s w c).2.2 = 3 * w + s := by
  unfold light
  match c, h with
  | 0, _ => simp; lia
  | 1, _ => simp; lia
  | 2, _ => simp; lia
theorem c115p (w : World) (aE aT aL : Addr) (evs lvs : List Value) (nE nT nL : Nat) (x y z worth s oct : Int) (tx ty tz tw : Tok) (wc : List (Int × Nat)) (es : List Ent) (rest S : List (Addr × Obj)) (hS : ∀ p ∈ S, p ∈ rest)
   (hoff : ∀ p ∈ rest, p.1 ≠ aE) (hT : (aT, ({ cls := .type "list", data := .seq #[.int x tx, .int y ty, .int z tz] nT } : Obj)) ∈ rest) (hL : (aL, ({ cls := .type "list", data := .seq lvs.toArray nL } : Obj)) ∈ rest)
   (hxy : x ≠ y) (hyz : y ≠ z) (hxz : x ≠ z) (hx0 : 0 ≤ x) (hy0 : 0 ≤ y) (hz0 : 0 ≤ z) (hx : x.toNat < es.length) (hy : y.toNat < es.length) (hz : z.toNat < es.length) (hle : es.length ≤ 1000) (hlw : wc.length = es.length)
   (hLs : Lts s wc lvs S) (hEs : Ens w es evs S) (hb : ∀ e ∈ es, e.c.length ≤ 1000) (hw : ∀ p ∈ wc, p.2 < 3)
   (ho : oct = 3 * ((wc.getD x.toNat (0, 0)).1 + (wc.getD y.toNat (0, 0)).1 + (wc.getD z.toNat (0, 0)).1 + s)) :
   Ct w 115 20 ((aE, { cls := .type "list", data := .seq evs.toArray nE }) :: rest) [.ref aE, .ref aT, .int worth tw, .ref aL] (fun r news' => ∃ evs' tl, r = .none ∧ news' = (aE, { cls := .type "list", data := .seq evs'.toArray nE }) :: (tl ++ rest) ∧
     Ens w (enterE es x y z worth oct) evs' (tl ++ S) ∧ ∀ p ∈ tl, aE < p.1 ∧ ∀ q ∈ rest, q.1 < p.1) := by
  obtain ⟨vx, ex, hvx, hex, Ex⟩ := hEs.at hx
  obtain ⟨vy, ey, hvy, hey, Ey⟩ := hEs.at hy
  obtain ⟨vz, ez, hvz, hez, Ez⟩ := hEs.at hz
  obtain ⟨ux, hux, Lx⟩ := hLs.at (i := x.toNat) (by lia)
  obtain ⟨uy, huy, Ly⟩ := hLs.at (i := y.toNat) (by lia)
  obtain ⟨uz, huz, Lz⟩ := hLs.at (i := z.toNat) (by lia)
  have bnd : ∀ {i : Nat} {e : Ent}, es[i]? = some e → e.c.length ≤ 1000 := fun h => hb _ (List.mem_of_getElem? h)
  have cb : ∀ {i : Nat}, i < es.length → (wc.getD i (0, 0)).2 < 3 := fun {i} h => hw _ (by
    have h' : i < wc.length := by lia
    rw [List.getD_eq_getElem?_getD, List.getElem?_eq_getElem h']; simp)
  have C := c115 w aE aT aL evs lvs nE nT nL x y z worth tx ty tz tw ex ey ez vx vy vz ux uy uz _ _ _ rest hoff hT hL hxy hyz hxz hx0 hy0 hz0 (by lia) (by lia) (by lia) hvx hvy hvz (Ex.mono hS) (Ey.mono hS) (Ez.mono hS) hux huy huz (Lx.mono hS) (Ly.mono hS) (Lz.mono hS) (bnd hex) (bnd hey) (bnd hez)
  have eo := light_sum (s := s) (w := (wc.getD x.toNat (0, 0)).1) (cb hx)
  have eo2 := light_sum (s := s) (w := (wc.getD y.toNat (0, 0)).1) (cb hy)
  have eo3 := light_sum (s := s) (w := (wc.getD z.toNat (0, 0)).1) (cb hz)
  rw [eo, eo2, eo3] at C
  have e4 : 3 * (wc.getD x.toNat (0, 0)).1 + s + (3 * (wc.getD y.toNat (0, 0)).1 + s) + (3 * (wc.getD z.toNat (0, 0)).1 + s) = oct := by rw [ho]; lia
  rw [e4] at C
  refine C.weaken ?_
  rintro r n ⟨vx', vy', vz', tl, rfl, rfl, Ex', Ey', Ez', hf⟩
  refine ⟨_, fun _ h => h, _, tl, rfl, rfl, ⟨by simp [enterE_length, hEs.1], ?_⟩, hf⟩
  have nxy : x.toNat ≠ y.toNat := by lia
  have nyz : y.toNat ≠ z.toNat := by lia
  have nxz : x.toNat ≠ z.toNat := by lia
  intro i e v he hv
  unfold enterE at he
  rw [List.getElem?_modify, List.getElem?_modify, List.getElem?_modify] at he
  by_cases q1 : i = z.toNat
  · subst q1
    rw [List.getElem?_set_self (by simp; rw [hEs.1]; exact hz)] at hv
    cases hv
    rw [hez] at he
    simp [nxz, nyz] at he
    subst he; exact Ez'.mono fun p hp => List.mem_append.mpr (.inl hp)
  · rw [List.getElem?_set_ne (Ne.symm q1)] at hv
    by_cases q2 : i = y.toNat
    · subst q2
      rw [List.getElem?_set_self (by simp; rw [hEs.1]; exact hy)] at hv
      cases hv
      rw [hey] at he
      simp [nxy, Ne.symm q1] at he
      subst he; exact Ey'.mono fun p hp => List.mem_append.mpr (.inl hp)
    · rw [List.getElem?_set_ne (Ne.symm q2)] at hv
      by_cases q3 : i = x.toNat
      · subst q3
        rw [List.getElem?_set_self (by rw [hEs.1]; exact hx)] at hv
        cases hv
        rw [hex] at he
        simp [Ne.symm q2, Ne.symm q1] at he
        subst he; exact Ex'.mono fun p hp => List.mem_append.mpr (.inl hp)
      · rw [List.getElem?_set_ne (Ne.symm q3)] at hv
        cases hee : es[i]? with
        | none => rw [hee] at he; simp at he
        | some e0 =>
          rw [hee] at he
          simp [Ne.symm q2, Ne.symm q1, Ne.symm q3] at he
          subst he
          exact (hEs.2 i e0 v hee hv).mono fun p hp => List.mem_append.mpr (.inr hp)
theorem w0A35 : True := by w_top off; trivial
theorem fr_ext {h₀ h h' : Heap} {L : Addr} {m : Str → Option Value} (F : Fr h₀ L h m) (hk : ∀ b o, h.get? b = some o → h'.get? b = some o) : Fr h₀ L h' m := by
  obtain ⟨oL, a1, a2, hL, a3⟩ := F.ns
  exact ⟨⟨oL, a1, a2, hk _ _ hL, a3⟩, fun b o e => hk _ _ (F.keep b o e), F.above⟩
theorem news_ext {h₀ h h' : Heap} {L : Addr} {news : List (Addr × Obj)} (N : News h₀ L h news) (hk : ∀ b o, h.get? b = some o → h'.get? b = some o) : News h₀ L h' news := fun p hp => ⟨hk _ _ (N p hp).1, (N p hp).2⟩
structure maxIs (M : Int) : Prop where
  t : M = M
structure minIs (M : Int) : Prop where
  t : M = M
section
variable {prog : Program} {w : World} {A : Around} {E : Value → Shared → Prop} {s : Shared} {h₀ : Heap} {L : Addr} {m : Str → Option Value} {news : List (Addr × Obj)}
theorem max3v {a b c M0 : Int} {t u x : Tok} {Q : Value → Shared → Prop} (_ : maxIs M0) (hM : (M0 = a ∨ M0 = b ∨ M0 = c) ∧ a ≤ M0 ∧ b ≤ M0 ∧ c ≤ M0) (hh : A.handled = none) (F : Fr h₀ L s.heap m) (N : News h₀ L s.heap news)
    (h : ∀ t' h' tk, Fr h₀ L h' m → News h₀ L h' news → Q (.int M0 t') { s with heap := h', toks := tk }) : wpAny (model prog w) A (call (.builtin "max") [.int a t, .int b u, .int c x]) Q E s := by
  refine max_three_ints hh fun h' tk hk => ?_
  have F' := fr_ext F hk
  have N' := news_ext N hk
  clear F N hk hh
  split
  · split
    · rw [show M0 = c by lia] at h; exact h _ h' tk F' N'
    · rw [show M0 = b by lia] at h; exact h _ h' tk F' N'
  · split
    · rw [show M0 = c by lia] at h; exact h _ h' tk F' N'
    · rw [show M0 = a by lia] at h; exact h _ h' tk F' N'
theorem min3v {a b c M0 : Int} {t u x : Tok} {Q : Value → Shared → Prop} (_ : minIs M0) (hM : (M0 = a ∨ M0 = b ∨ M0 = c) ∧ M0 ≤ a ∧ M0 ≤ b ∧ M0 ≤ c) (hh : A.handled = none) (F : Fr h₀ L s.heap m) (N : News h₀ L s.heap news)
    (h : ∀ t' h' tk, Fr h₀ L h' m → News h₀ L h' news → Q (.int M0 t') { s with heap := h', toks := tk }) : wpAny (model prog w) A (call (.builtin "min") [.int a t, .int b u, .int c x]) Q E s := by
  refine min_three_ints hh fun h' tk hk => ?_
  have F' := fr_ext F hk
  have N' := news_ext N hk
  clear F N hk hh
  split
  · split
    · rw [show M0 = c by lia] at h; exact h _ h' tk F' N'
    · rw [show M0 = b by lia] at h; exact h _ h' tk F' N'
  · split
    · rw [show M0 = c by lia] at h; exact h _ h' tk F' N'
    · rw [show M0 = a by lia] at h; exact h _ h' tk F' N'
end
noncomputable def hueQ (M v x : Int) : UInt64 := Float64.ofFrac (decide (M - x < 0) != decide (M - v < 0)) (M - x).natAbs (M - v).natAbs
noncomputable def hueF (M v r g b : Int) : UInt64 := (Float64.divmod (Float64.div (if r = M then Float64.sub (hueQ M v b) (hueQ M v g) else if g = M then Float64.sub (Float64.add 4611686018427387904 (hueQ M v r)) (hueQ M v b) else Float64.sub (Float64.add 4616189618054758400 (hueQ M v g)) (hueQ M v r)) 4618441417868443648) 4607182418800017408).snd
theorem hueF_r {M v r g b : Int} (h : r = M) : hueF M v r g b = (Float64.divmod (Float64.div (Float64.sub (hueQ M v b) (hueQ M v g)) 4618441417868443648) 4607182418800017408).snd := by unfold hueF; rw [if_pos h]
theorem hueF_g {M v r g b : Int} (h : ¬ r = M) (h2 : g = M) : hueF M v r g b = (Float64.divmod (Float64.div (Float64.sub (Float64.add 4611686018427387904 (hueQ M v r)) (hueQ M v b)) 4618441417868443648) 4607182418800017408).snd := by unfold hueF; rw [if_neg h, if_pos h2]
theorem hueF_b {M v r g b : Int} (h : ¬ r = M) (h2 : ¬ g = M) : hueF M v r g b = (Float64.divmod (Float64.div (Float64.sub (Float64.add 4616189618054758400 (hueQ M v g)) (hueQ M v r)) 4618441417868443648) 4607182418800017408).snd := by unfold hueF; rw [if_neg h, if_neg h2]
noncomputable def hueC (c : Nat) : UInt64 := if c = 0 then 0 else if c = 1 then 4599676419421066581 else 4604180019048437077
theorem fd_self {s : Int} (h0 : 40 ≤ s) (h1 : s < 140) : Float64.ofFrac (decide (s < 0) != decide (s < 0)) s.natAbs s.natAbs = 4607182418800017408 := by
  obtain ⟨n, rfl⟩ := Int.eq_ofNat_of_zero_le (show 0 ≤ s by lia)
  have e : ∀ n : Nat, n < 140 → 40 ≤ n → Float64.ofFrac (decide ((n : Int) < 0) != decide ((n : Int) < 0)) (n : Int).natAbs (n : Int).natAbs = 4607182418800017408 := by decide +kernel
  exact e n (by lia) (by lia)
theorem hue_0 : (Float64.divmod (Float64.div (Float64.sub 4607182418800017408 4607182418800017408) 4618441417868443648) 4607182418800017408).snd = hueC 0 := by decide +kernel
theorem hue_1 : (Float64.divmod (Float64.div (Float64.sub (Float64.add 4611686018427387904 4607182418800017408) 4607182418800017408) 4618441417868443648) 4607182418800017408).snd = hueC 1 := by decide +kernel
theorem hue_2 : (Float64.divmod (Float64.div (Float64.sub (Float64.add 4616189618054758400 4607182418800017408) 4607182418800017408) 4618441417868443648) 4607182418800017408).snd = hueC 2 := by decide +kernel
theorem hueQ_v {s v : Int} (hs0 : 40 ≤ s) (hs1 : s < 140) : hueQ (v + s) v v = 4607182418800017408 := by
  unfold hueQ
  rw [show v + s - v = s by lia]
  exact fd_self hs0 hs1
noncomputable def Sc35m : Prop := ∀ (w : World) (r g b M v : Int) (t1 t2 t3 : Tok) (news : List (Addr × Obj)), 40 ≤ M - v → M - v < 140 → 0 ≤ v → v < 64 → (M = r ∨ M = g ∨ M = b) ∧ r ≤ M ∧ g ≤ M ∧ b ≤ M → (v = r ∨ v = g ∨ v = b) ∧ v ≤ r ∧ v ≤ g ∧ v ≤ b →
   Ct w 35 20 news [.int r t1, .int g t2, .int b t3] (fun r' news' => ∃ (a : Addr) (nT : Nat) (s1 : Tok) (x y : Value), r' = .ref a ∧ news' = (a, { cls := .type "tuple", data := .seq #[.float (hueF M v r g b) s1, x, y] nT }) :: news ∧ ∀ p ∈ news, p.1 < a)
noncomputable def kTc35m : {P : (yW→yI→yI→yI→yI→yI→yN→yN→yN→yR→yLS→ymean→yM→yM→yN→yN→ycn→ycs→yN→yV→ycl→youter→yH→yN→yM→ys→yQ→yQ→yH→yN→yH→Prop) // (∀ x1 x2 x3 x4 x5 x6 x7 x8 x9 x10 x11 x12 x13 x14 x15 x16 x17 x18 x19 x20 x21 x22 x23 x24 x25 x26 x27 x28 x29 x30 x31, P x1 x2 x3 x4 x5 x6 x7 x8 x9 x10 x11 x12 x13 x14 x15 x16 x17 x18 x19 x20 x21 x22 x23 x24 x25 x26 x27 x28 x29 x30 x31) → Sc35m} := by
  refine' ⟨_, fun hPH1 => ?main⟩
  case main =>
    unfold Sc35m
    unfold Ct
    k_fill
    intro w r g b M v t1 t2 t3 news hs0 hs1 hv0 hv1 hM hm
    intros
    rename_i hret
    have hmx : maxIs M := ⟨rfl⟩
    have hmn : minIs v := ⟨rfl⟩
    w_on
    refine wpAny_call ?_
    k_dflt cell_enter
    rename_i qz1 qz2 qz3 qz4 qz5 qz6 qz7 qz8 qz9 qz10 qz11 qz12 qz13 qz14 qz15 qz16 qz17 qz18 qz19 qz20 qz21 qz22 qz23 qz24 qz25 qz26 qz27 qz28 qz29 qz30 qz31 qz32 qz33 qz34 qz35 qz36 qz37
    revert hs0 hs1 hv0 hv1 hM hm qz23 qz25 hret hmx hmn qz33 qz34 qz36 qz37
    exact hPH1 w r g b M v t1 t2 t3 news qz1 qz2 qz3 qz4 qz5 qz6 qz7 qz8 qz9 qz10 qz11 qz12 qz15 qz16 qz17 qz18 qz19 qz20 qz29 qz30 qz31
noncomputable def pH1 (v : Vars) : Prop := kTc35m.1 (v.W 0) (v.I 0) (v.I 1) (v.I 2) (v.I 3) (v.I 4) (v.N 0) (v.N 1) (v.N 2) (v.R 0) (v.LS 0) (v.mean 0) (v.M 0) (v.M 1) (v.N 3) (v.N 4) (v.cn 0) (v.cs 0) (v.N 5) (v.V 0) (v.cl 0) (v.outer 0) (v.H 0) (v.N 6) (v.M 2) (v.s 0) (v.Q 0) (v.Q 1) (v.H 1) (v.N 7) (v.H 2)
@[irreducible] noncomputable def vH1 : Vars := hk pH1
noncomputable def ktH1 : {P : (yN→yN→yN→yH→yH→yH→Prop) // (∀ x1 x2 x3 x4 x5 x6, P x1 x2 x3 x4 x5 x6) → pH1 vH1} := by
  refine' ⟨(_ : yW→yI→yI→yI→yI→yI→yN→yN→yN→yR→yLS→ymean→yM→yM→yN→yN→ycn→ycs→yN→yV→ycl→youter→yH→yN→yM→ys→yQ→yQ→yH→yN→yH→yN→yN→yN→yH→yH→yH→Prop) (vH1.W 0) (vH1.I 0) (vH1.I 1) (vH1.I 2) (vH1.I 3) (vH1.I 4) (vH1.N 0) (vH1.N 1) (vH1.N 2) (vH1.R 0) (vH1.LS 0) (vH1.mean 0) (vH1.M 0) (vH1.M 1) (vH1.N 3) (vH1.N 4) (vH1.cn 0) (vH1.cs 0) (vH1.N 5) (vH1.V 0) (vH1.cl 0) (vH1.outer 0) (vH1.H 0) (vH1.N 6) (vH1.M 2) (vH1.s 0) (vH1.Q 0) (vH1.Q 1) (vH1.H 1) (vH1.N 7) (vH1.H 2), fun hPH2 => ?main⟩
  case main =>
    intro hs0 hs1 hv0 hv1 hM hm qz23 qz25 hret hmx hmn qz33 qz34 qz36 qz37
    generalize vH1.W 0 = w, vH1.I 0 = r, vH1.I 1 = g, vH1.I 2 = b, vH1.I 3 = M, vH1.I 4 = v, vH1.N 0 = t1, vH1.N 1 = t2, vH1.N 2 = t3, vH1.R 0 = news, vH1.LS 0 = qz1, vH1.mean 0 = qz2, vH1.M 0 = qz3, vH1.M 1 = qz4, vH1.N 3 = qz5, vH1.N 4 = qz6, vH1.cn 0 = qz7, vH1.cs 0 = qz8, vH1.N 5 = qz9, vH1.V 0 = qz10, vH1.cl 0 = qz11, vH1.outer 0 = qz12, vH1.H 0 = qz15, vH1.N 6 = qz16, vH1.M 2 = qz17, vH1.s 0 = qz18, vH1.Q 0 = qz19, vH1.Q 1 = qz20, vH1.H 1 = qz29, vH1.N 7 = qz30, vH1.H 2 = qz31 at *
    refine split4 ?_
    k_steps
    k_dflt (refine' max3v ?mx ?hm ?hh ?F ?N ?_; (case mx => assumption); (case hm => lia); (case hh => rfl); (case F => k_asm); (case N => k_asm))
    intro t' h' tk' F' N'
    k_steps
    k_dflt (refine' min3v ?mx ?hm ?hh ?F ?N ?_; (case mx => assumption); (case hm => lia); (case hh => rfl); (case F => k_asm); (case N => k_asm))
    intro t' h' tk' F' N'
    k_steps
    refine unhold ?_
    rename_i qz38 qz39 qz40 qz41 qz42 qz43 qz44 qz45 qz46
    revert hs0 hs1 hv0 hv1 hM hm qz23 qz25 hret hmx hmn qz36 qz37 qz45 qz46
    exact hPH2 qz38 t' tk' qz42 qz43 qz44
noncomputable def pH2 (v : Vars) : Prop := ktH1.1 (v.N 0) (v.N 1) (v.N 2) (v.H 0) (v.H 1) (v.H 2)
@[irreducible] noncomputable def vH2 : Vars := hk pH2
noncomputable def ktH2 : {P : (yN→yH→yN→yH→Prop) // (∀ x1 x2 x3 x4, P x1 x2 x3 x4) → pH2 vH2} := by
  refine' ⟨(_ : yW→yI→yI→yI→yI→yI→yN→yN→yN→yR→yLS→ymean→yM→yM→yN→yN→ycn→ycs→yN→yV→ycl→youter→yH→yN→yM→ys→yQ→yQ→yH→yN→yN→yN→yN→yH→yH→yH→yN→yH→yN→yH→Prop) (vH1.W 0) (vH1.I 0) (vH1.I 1) (vH1.I 2) (vH1.I 3) (vH1.I 4) (vH1.N 0) (vH1.N 1) (vH1.N 2) (vH1.R 0) (vH1.LS 0) (vH1.mean 0) (vH1.M 0) (vH1.M 1) (vH1.N 3) (vH1.N 4) (vH1.cn 0) (vH1.cs 0) (vH1.N 5) (vH1.V 0) (vH1.cl 0) (vH1.outer 0) (vH1.H 0) (vH1.N 6) (vH1.M 2) (vH1.s 0) (vH1.Q 0) (vH1.Q 1) (vH1.H 1) (vH1.N 7) (vH2.N 0) (vH2.N 1) (vH2.N 2) (vH2.H 0) (vH2.H 1) (vH2.H 2), fun hPH3 => ?main⟩
  case main =>
    intro hs0 hs1 hv0 hv1 hM hm qz23 qz25 hret hmx hmn qz36 qz37 qz45 qz46
    generalize vH1.W 0 = w, vH1.I 0 = r, vH1.I 1 = g, vH1.I 2 = b, vH1.I 3 = M, vH1.I 4 = v, vH1.N 0 = t1, vH1.N 1 = t2, vH1.N 2 = t3, vH1.R 0 = news, vH1.LS 0 = qz1, vH1.mean 0 = qz2, vH1.M 0 = qz3, vH1.M 1 = qz4, vH1.N 3 = qz5, vH1.N 4 = qz6, vH1.cn 0 = qz7, vH1.cs 0 = qz8, vH1.N 5 = qz9, vH1.V 0 = qz10, vH1.cl 0 = qz11, vH1.outer 0 = qz12, vH1.H 0 = qz15, vH1.N 6 = qz16, vH1.M 2 = qz17, vH1.s 0 = qz18, vH1.Q 0 = qz19, vH1.Q 1 = qz20, vH1.H 1 = qz29, vH1.N 7 = qz30, vH2.N 0 = qz38, vH2.N 1 = t', vH2.N 2 = tk', vH2.H 0 = qz42, vH2.H 1 = qz43, vH2.H 2 = qz44 at *
    refine split3 ?_
    k_steps
    · exfalso; lia
    refine unhold ?_
    rename_i qz47 qz48 qz49 qz50 qz51 qz52 qz53 qz54 qz55 qz56
    revert hs0 hs1 hv0 hv1 hM hm qz23 qz25 hret hmx hmn qz36 qz37 qz52 qz55 qz56
    exact hPH3 qz47 qz51 tk qz54
noncomputable def pH3 (v : Vars) : Prop := ktH2.1 (v.N 0) (v.H 0) (v.N 1) (v.H 1)
@[irreducible] noncomputable def vH3 : Vars := hk pH3
noncomputable def ktH3 : {P : (yN→yH→yN→yH→Prop) // (∀ x1 x2 x3 x4, P x1 x2 x3 x4) → pH3 vH3} := by
  refine' ⟨(_ : yW→yI→yI→yI→yI→yI→yN→yN→yN→yR→yLS→ymean→yM→yM→yN→yN→ycn→ycs→yN→yV→ycl→youter→yH→yN→yM→ys→yQ→yQ→yH→yN→yN→yN→yN→yH→yN→yH→yN→yH→yN→yH→yN→yH→Prop) (vH1.W 0) (vH1.I 0) (vH1.I 1) (vH1.I 2) (vH1.I 3) (vH1.I 4) (vH1.N 0) (vH1.N 1) (vH1.N 2) (vH1.R 0) (vH1.LS 0) (vH1.mean 0) (vH1.M 0) (vH1.M 1) (vH1.N 3) (vH1.N 4) (vH1.cn 0) (vH1.cs 0) (vH1.N 5) (vH1.V 0) (vH1.cl 0) (vH1.outer 0) (vH1.H 0) (vH1.N 6) (vH1.M 2) (vH1.s 0) (vH1.Q 0) (vH1.Q 1) (vH1.H 1) (vH1.N 7) (vH2.N 0) (vH2.N 1) (vH2.N 2) (vH2.H 0) (vH3.N 0) (vH3.H 0) (vH3.N 1) (vH3.H 1), fun hPH4 => ?main⟩
  case main =>
    intro hs0 hs1 hv0 hv1 hM hm qz23 qz25 hret hmx hmn qz36 qz37 qz52 qz55 qz56
    generalize vH1.W 0 = w, vH1.I 0 = r, vH1.I 1 = g, vH1.I 2 = b, vH1.I 3 = M, vH1.I 4 = v, vH1.N 0 = t1, vH1.N 1 = t2, vH1.N 2 = t3, vH1.R 0 = news, vH1.LS 0 = qz1, vH1.mean 0 = qz2, vH1.M 0 = qz3, vH1.M 1 = qz4, vH1.N 3 = qz5, vH1.N 4 = qz6, vH1.cn 0 = qz7, vH1.cs 0 = qz8, vH1.N 5 = qz9, vH1.V 0 = qz10, vH1.cl 0 = qz11, vH1.outer 0 = qz12, vH1.H 0 = qz15, vH1.N 6 = qz16, vH1.M 2 = qz17, vH1.s 0 = qz18, vH1.Q 0 = qz19, vH1.Q 1 = qz20, vH1.H 1 = qz29, vH1.N 7 = qz30, vH2.N 0 = qz38, vH2.N 1 = t', vH2.N 2 = tk', vH2.H 0 = qz42, vH3.N 0 = qz47, vH3.H 0 = qz51, vH3.N 1 = tk, vH3.H 1 = qz54 at *
    refine split2 ?_
    k_steps
    refine unhold ?_
    rename_i qz57 qz58 qz59 qz60 qz61 qz62 qz63 qz64 qz65
    revert hs0 hs1 hv0 hv1 hM hm qz23 qz25 hret hmx hmn qz36 qz37 qz64 qz65
    exact hPH4 qz57 qz60 tk qz63
noncomputable def pH4 (v : Vars) : Prop := ktH3.1 (v.N 0) (v.H 0) (v.N 1) (v.H 1)
@[irreducible] noncomputable def vH4 : Vars := hk pH4
theorem tH4 : pH4 vH4 := by
  intro hs0 hs1 hv0 hv1 hM hm qz23 qz25 hret hmx hmn qz36 qz37 qz64 qz65
  generalize vH1.W 0 = w, vH1.I 0 = r, vH1.I 1 = g, vH1.I 2 = b, vH1.I 3 = M, vH1.I 4 = v, vH1.N 0 = t1, vH1.N 1 = t2, vH1.N 2 = t3, vH1.R 0 = news, vH1.LS 0 = qz1, vH1.mean 0 = qz2, vH1.M 0 = qz3, vH1.M 1 = qz4, vH1.N 3 = qz5, vH1.N 4 = qz6, vH1.cn 0 = qz7, vH1.cs 0 = qz8, vH1.N 5 = qz9, vH1.V 0 = qz10, vH1.cl 0 = qz11, vH1.outer 0 = qz12, vH1.H 0 = qz15, vH1.N 6 = qz16, vH1.M 2 = qz17, vH1.s 0 = qz18, vH1.Q 0 = qz19, vH1.Q 1 = qz20, vH1.H 1 = qz29, vH1.N 7 = qz30, vH2.N 0 = qz38, vH2.N 1 = t', vH2.N 2 = tk', vH2.H 0 = qz42, vH3.N 0 = qz47, vH3.N 1 = tk, vH4.N 0 = qz57, vH4.H 0 = qz60, vH4.N 1 = tk, vH4.H 1 = qz63 at *
  k_steps
  · rename News _ _ _ _ => N9
    rename Fr _ _ _ _ => F9
    exact hret _ _ _ _ F9 N9 ⟨_, _, _, _, _, rfl, by rw [hueF_r (by assumption)]; rfl, by assumption⟩
  · rename News _ _ _ _ => N9
    rename Fr _ _ _ _ => F9
    exact hret _ _ _ _ F9 N9 ⟨_, _, _, _, _, rfl, by rw [hueF_g (by assumption) (by assumption)]; rfl, by assumption⟩
  · rename News _ _ _ _ => N9
    rename Fr _ _ _ _ => F9
    exact hret _ _ _ _ F9 N9 ⟨_, _, _, _, _, rfl, by rw [hueF_b (by assumption) (by assumption)]; rfl, by assumption⟩
theorem aH4 : ∀ v, pH4 v := hkv tH4 (by unfold vH4; rfl)
theorem tH3 : pH3 vH3 := ktH3.2 (fun x1 x2 x3 x4 => aH4 {d0v with H := sl x2 [x4], N := sl x1 [x3]})
theorem aH3 : ∀ v, pH3 v := hkv tH3 (by unfold vH3; rfl)
theorem tH2 : pH2 vH2 := ktH2.2 (fun x1 x2 x3 x4 => aH3 {d0v with H := sl x2 [x4], N := sl x1 [x3]})
theorem aH2 : ∀ v, pH2 v := hkv tH2 (by unfold vH2; rfl)
theorem tH1 : pH1 vH1 := ktH1.2 (fun x1 x2 x3 x4 x5 x6 => aH2 {d0v with H := sl x4 [x5, x6], N := sl x1 [x2, x3]})
theorem aH1 : ∀ v, pH1 v := hkv tH1 (by unfold vH1; rfl)
theorem Tc35m : Sc35m := kTc35m.2 (fun x1 x2 x3 x4 x5 x6 x7 x8 x9 x10 x11 x12 x13 x14 x15 x16 x17 x18 x19 x20 x21 x22 x23 x24 x25 x26 x27 x28 x29 x30 x31 => aH1 {d0v with W := sl x1 [], LS := sl x11 [], mean := sl x12 [], cn := sl x17 [], cs := sl x18 [], cl := sl x21 [], outer := sl x22 [], s := sl x26 [], H := sl x23 [x29, x31], N := sl x7 [x8, x9, x15, x16, x19, x24, x30], V := sl x20 [], I := sl x2 [x3, x4, x5, x6], M := sl x13 [x14, x25], R := sl x10 [], Q := sl x27 [x28]})
theorem c35m : Sc35m := Tc35m
theorem c35_0 (w : World) (s v : Int) (t1 t2 t3 : Tok) (news : List (Addr × Obj)) (hs0 : 40 ≤ s) (hs1 : s < 140) (hv0 : 0 ≤ v) (hv1 : v < 64) :
   Ct w 35 20 news [.int (v + s) t1, .int v t2, .int v t3] (fun r news' => ∃ (a : Addr) (nT : Nat) (s1 : Tok) (x y : Value), r = .ref a ∧ news' = (a, { cls := .type "tuple", data := .seq #[.float (hueC 0) s1, x, y] nT }) :: news ∧ ∀ p ∈ news, p.1 < a) := by
  have h := c35m w (v + s) v v (v + s) v t1 t2 t3 news (by lia) (by lia) hv0 hv1 (by lia) (by lia)
  rw [hueF_r rfl, hueQ_v hs0 hs1, hue_0] at h
  exact h
theorem c35_1 (w : World) (s v : Int) (t1 t2 t3 : Tok) (news : List (Addr × Obj)) (hs0 : 40 ≤ s) (hs1 : s < 140) (hv0 : 0 ≤ v) (hv1 : v < 64) :
   Ct w 35 20 news [.int v t1, .int (v + s) t2, .int v t3] (fun r news' => ∃ (a : Addr) (nT : Nat) (s1 : Tok) (x y : Value), r = .ref a ∧ news' = (a, { cls := .type "tuple", data := .seq #[.float (hueC 1) s1, x, y] nT }) :: news ∧ ∀ p ∈ news, p.1 < a) := by
  have h := c35m w v (v + s) v (v + s) v t1 t2 t3 news (by lia) (by lia) hv0 hv1 (by lia) (by lia)
  rw [hueF_g (by lia) rfl, hueQ_v hs0 hs1, hue_1] at h
  exact h
theorem c35_2 (w : World) (s v : Int) (t1 t2 t3 : Tok) (news : List (Addr × Obj)) (hs0 : 40 ≤ s) (hs1 : s < 140) (hv0 : 0 ≤ v) (hv1 : v < 64) :
   Ct w 35 20 news [.int v t1, .int v t2, .int (v + s) t3] (fun r news' => ∃ (a : Addr) (nT : Nat) (s1 : Tok) (x y : Value), r = .ref a ∧ news' = (a, { cls := .type "tuple", data := .seq #[.float (hueC 2) s1, x, y] nT }) :: news ∧ ∀ p ∈ news, p.1 < a) := by
  have h := c35m w v v (v + s) (v + s) v t1 t2 t3 news (by lia) (by lia) hv0 hv1 (by lia) (by lia)
  rw [hueF_b (by lia) (by lia), hueQ_v hs0 hs1, hue_2] at h
  exact h
theorem bytes_len : typeLookup (.type "bytes") "__len__" = pure (some (.builtin "bytes.__len__")) := by rw [typeLookup_type, builtinLookup_eq_fast]; kernel_rfl
section
variable {prog : Program} {w : World} {A : Around} {E : Value → Shared → Prop} {s : Shared}
theorem collect_bytes {Q : List Value → Shared → Prop} (hh : A.handled = none) (x : Array UInt8) (t : Tok)
    (hQ : ∀ s' acc, (∀ b o, s.heap.get? b = some o → s'.heap.get? b = some o) → s'.gens = s.gens → s'.drawn = s.drawn → s'.os = s.os → ItemsOf (fun i v => ∃ c u, x[i]? = some c ∧ v = .int (c.toNat : Int) u) acc x.size → Q acc.toList s') (hn : x.size ≤ sizeLine) :
    wpAny (model prog w) A (collect (.bytes x t)) Q E s := by
  unfold collect
  refine wpAny_bind (wpAny_runValue (codeAny_builtin F.entry_proto_collect ?_))
  rw [Around.under_plainId F.plain_proto_collect _]
  show wpAny _ A.in1 (newList [] >>= fun l => again (.builtin "list.__iadd__" ⟨[l, .bytes x t], []⟩)) _ _ s
  refine wpAny_bind (wpAny_newObj_type ?_)
  refine wpAny_pure ⟨plainId_quiet F.plain_list_iadd _, codeAny_builtin F.entry_list_iadd ?_⟩
  rw [Around.under_plainId F.plain_list_iadd _]
  show wpAny _ A.in1 (Builtin.List.listExtendWith (.ref s.heap.objs.size) (.bytes x t) (.ref s.heap.objs.size)) _ _ _
  unfold Builtin.List.listExtendWith
  refine wpAny_bind (wpAny_typeOf (T := "bytes") (v := .bytes x t) rfl ?_)
  have h1 : Builtin.List.listSameRef (.ref s.heap.objs.size) (.bytes x t) = false := rfl
  have h2 : (Value.type "bytes" == Value.type "list") = false := by decide
  have h3 : (Value.type "bytes" == Value.type "tuple") = false := by decide
  simp only [h1, h2, h3, Bool.or_false, Bool.false_eq_true, if_false]
  refine wpAny_bind (KBw.pyIter_bytes ?_)
  refine wpAny_bind (wpAny_holding ?_)
  unfold Builtin.List.listLengthHint
  refine wpAny_bind (wpAny_specialOf (T := "bytes") (v := .bytes x t) rfl bytes_len ?_)
  wp_delta
  refine wpAny_bind (wpAny_isInstance (T := "bytes") (v := .bytes x t) (b := true) rfl (by rw [isSubtype_type]; kernel_rfl) ?_)
  show wpAny _ A.in1 (typeOf (Value.bytes x t) >>= _) _ _ _
  refine wpAny_bind (wpAny_typeOf (T := "bytes") (v := .bytes x t) rfl ?_)
  refine wpAny_pure ?_
  rw [if_neg (by decide)]
  generalize hH : s.heap.push { cls := .type "list", data := .seq ([] : List Value).toArray } = H
  have hHs : H.objs.size = s.heap.objs.size + 1 := by rw [← hH, Heap.size_push]
  have hSf : s.heap.objs.size ∉ [H.objs.size] := fun hm => by rw [List.mem_singleton.mp hm] at hHs; exact absurd hHs (Nat.ne_of_lt (Nat.lt_succ_self _))
  have hS : (H.push { cls := .type "bytes_iterator", data := .fields #[.bytes x t, .int 0 0] }).get? s.heap.objs.size = some { cls := .type "list", data := .seq ([] : List Value).toArray } := Heap.get?_push_of_some _ (hH ▸ Heap.get?_push_size _ rfl)
  have hst : KBw.IsBytesIter (H.push { cls := .type "bytes_iterator", data := .fields #[.bytes x t, .int 0 0] }) H.objs.size x t 0 := ⟨_, Heap.get?_push_size _ rfl, rfl, rfl⟩
  refine wpAny_pure ⟨plainId_quiet F.plain_extend_loop _, codeAny_extend_loopS (KBw.walks (A := A.in1) hh H.objs.size x t).toS hn _ hSf _ x.size 0 _ _ _ rfl (Nat.zero_le _) hst hS (ItemsOf.nil _) fun s' acc' c' hm hS' hacc => ?_⟩
  show wpAny _ A (load s.heap.objs.size >>= _) _ _ s'
  refine wpAny_bind (wpAny_load hS' ?_)
  refine wpAny_pure (hQ s' acc' (fun b ob e => hm.heap b ob (fun hb => ?_) (Heap.get?_push_of_some _ (hH ▸ Heap.get?_push_of_some _ e))) hm.gens hm.drawn hm.os hacc)
  have hlt := Heap.lt_size e
  rcases List.mem_cons.mp hb with h | h
  · exact absurd hlt (h ▸ Nat.lt_irrefl _)
  · rw [List.mem_singleton.mp h, hHs] at hlt; exact absurd hlt (Nat.not_lt.mpr (Nat.le_succ _))
end
theorem fr_ext2 {h₀ h h' : Heap} {L : Addr} {m : Str → Option Value} (F : Fr h₀ L h m) (hk : ∀ b o, h.get? b = some o → h'.get? b = some o) : Fr h₀ L h' m := by
  obtain ⟨oL, a1, a2, hL, a3⟩ := F.ns
  exact ⟨⟨oL, a1, a2, hk _ _ hL, a3⟩, fun b o e => hk _ _ (F.keep b o e), F.above⟩
section
variable {prog : Program} {w : World} {A : Around} {E : Value → Shared → Prop} {s : Shared} {h₀ : Heap} {L : Addr} {m : Str → Option Value} {news : List (Addr × Obj)}
theorem star_bytes3 {x y z : UInt8} {t : Tok} {Q : List Value → Shared → Prop} (hh : A.handled = none) (F : Fr h₀ L s.heap m) (N : News h₀ L s.heap news)
    (h : ∀ h' tk t1 t2 t3, Fr h₀ L h' m → News h₀ L h' news → Q [.int (x.toNat : Int) t1, .int (y.toNat : Int) t2, .int (z.toNat : Int) t3] { s with heap := h', toks := tk }) : StarOf (model prog w) A E (.bytes #[x, y, z] t) Q s := by
  unfold StarOf notIterableAtAll
  refine wpAny_bind (wpAny_specialOf (typeIs_bytes _ _ _) FB.slot_bytes_iter.lookup (wpAny_pure ⟨rfl, collect_bytes hh _ _ (fun s' acc hk g d o hit => ?_) (by rw [PySem.sizeLine_eq]; exact Nat.le_of_ble_eq_true rfl)⟩))
  obtain ⟨hs, hi⟩ := hit
  have F' := fr_ext2 F hk
  have N' : News h₀ L s'.heap news := fun p hp => ⟨hk _ _ (N p hp).1, (N p hp).2⟩
  have hs3 : acc.toList.length = 3 := by simpa using hs
  have hi' : ∀ (j : Nat) (v : Value), acc.toList[j]? = some v → ∃ c u, (#[x, y, z] : Array UInt8)[j]? = some c ∧ v = .int (c.toNat : Int) u := fun j v e => hi j v (by simpa using e)
  generalize acc.toList = l at *
  obtain ⟨a, b, c, rfl⟩ := list3 hs3
  obtain ⟨_, t1, e1, rfl⟩ := hi' 0 _ rfl
  obtain ⟨_, t2, e2, rfl⟩ := hi' 1 _ rfl
  obtain ⟨_, t3, e3, rfl⟩ := hi' 2 _ rfl
  cases e1; cases e2; cases e3
  obtain ⟨h', tk, rfl⟩ : ∃ h' tk, s' = { s with heap := h', toks := tk } := ⟨s'.heap, s'.toks, by cases s'; cases s; simp_all⟩
  exact h _ _ _ _ _ F' N'
end
theorem slice3 {fs : List UInt8} {i : Nat} (h : 3 * i + 3 ≤ fs.length) : KBy.picked fs.toArray (some (3 * (i : Int))) (some (3 * (i : Int) + 3)) = #[fs.getD (3 * i) 0, fs.getD (3 * i + 1) 0, fs.getD (3 * i + 2) 0] := by
  rw [KBc.picked_eq]
  have e1 : (3 * (i : Int)) = ((3 * i : Nat) : Int) := by lia
  have e2 : ((3 * i : Nat) : Int) + 3 = ((3 * i + 3 : Nat) : Int) := by lia
  rw [e1, e2]
  show ((fs.toArray.toList.drop (clipAt fs.toArray.size _)).take (clipAt fs.toArray.size _ - clipAt fs.toArray.size _)).toArray = _
  rw [clipAt_nat, clipAt_nat]
  have e3 : min (3 * i) fs.toArray.size = 3 * i := by simp; lia
  have e4 : min (3 * i + 3) fs.toArray.size = 3 * i + 3 := by simp; lia
  rw [e3, e4]
  have e5 : 3 * i + 3 - 3 * i = 3 := by lia
  rw [e5]
  show (List.take 3 (List.drop (3 * i) fs)).toArray = _
  have d1 : List.drop (3 * i) fs = fs.getD (3 * i) 0 :: fs.getD (3 * i + 1) 0 :: fs.getD (3 * i + 2) 0 :: List.drop (3 * i + 3) fs := by
    rw [List.drop_eq_getElem_cons (by lia), List.drop_eq_getElem_cons (by lia), List.drop_eq_getElem_cons (by lia)]
    simp only [List.getD_eq_getElem?_getD]
    rw [List.getElem?_eq_getElem (by lia), List.getElem?_eq_getElem (by lia), List.getElem?_eq_getElem (by lia)]
    rfl
  rw [d1]
  rfl
section
variable {prog : Program} {w : World} {A : Around} {E : Value → Shared → Prop} {s : Shared} {value slice : PySem.Expr} {t tl th : Tok} {h₀ : Heap} {L : Addr} {m : PySem.Str → Option Value} {news : List (Addr × Obj)} {Q : Value → Shared → Prop}
theorem slice3_K {fs : List UInt8} {lo hi : Int} {i : Nat} (hF : Fr h₀ L s.heap m) (hN : News h₀ L s.heap news) (e1 : lo = 3 * i) (e2 : hi = 3 * i + 3) (hl : 3 * i + 3 ≤ fs.length) (hz : fs.length ≤ 1000)
    (h : ∀ h' t' k, Fr h₀ L h' m → News h₀ L h' news → Q (.bytes #[fs.getD (3 * i) 0, fs.getD (3 * i + 1) 0, fs.getD (3 * i + 2) 0] t') { s with heap := h', toks := k })
    (hs : subscripted slice false (.bytes fs.toArray t) (.ref s.heap.objs.size) = operate [.ref s.heap.objs.size, .bytes fs.toArray t] (getItem (.bytes fs.toArray t) (.ref s.heap.objs.size)) := by with_unfolding_all rfl)
    (ht : ∀ r, letTemporaryGo value (.bytes fs.toArray t) r = pure () := by intro _; with_unfolding_all rfl) :
    wpAny (model prog w) A (subscriptTail value slice (.bytes fs.toArray t) (.ref s.heap.objs.size)) Q E { s with heap := s.heap.push { cls := .type "slice", data := .fields #[.int lo tl, .int hi th, .none] } } := by
  subst e1
  subst e2
  refine KBc.slice_K (lo := some (3 * (i : Int))) (hi := some (3 * (i : Int) + 3)) hF hN rfl (by constructor) (by constructor) (by rw [KBw.ints_length]; simp; lia) (fun h' t' k F N _ => ?_) hs ht
  rw [slice3 hl]
  exact h h' t' k F N
end
section
theorem w0A105 : True := by w_top off; trivial
local macro_rules | `(tactic| walk_at "pyIter ref") => `(tactic| (k_here; (with_reducible show wpAny _ _ (pyIter (Value.ref _)) _ _ _); refine halt_in ?_; walk_say "HALT pyIter"))
noncomputable def revTo (bs : List UInt8) (k : Nat) : Array UInt8 := ((List.range bs.length).map fun q => if bs.length - 1 - q < k then bs.getD (bs.length - 1 - q) 0 else 0).toArray
theorem revTo_size (bs : List UInt8) (k : Nat) : (revTo bs k).size = bs.length := by simp [revTo]
theorem revTo_zero (bs : List UInt8) : revTo bs 0 = Array.replicate bs.length 0 := by
  apply Array.ext
  · simp [revTo]
  · intro i h1 h2
    simp [revTo]
theorem revTo_succ (bs : List UInt8) (k : Nat) (h : k < bs.length) : (revTo bs k).setIfInBounds (bs.length - 1 - k) (bs.getD k 0) = revTo bs (k + 1) := by
  apply Array.ext
  · simp [revTo]
  · intro i h1 h2
    have hi : i < bs.length := by rw [revTo_size] at h2; exact h2
    rw [Array.getElem_setIfInBounds (by rw [revTo_size]; exact hi)]
    by_cases q : bs.length - 1 - k = i
    · rw [if_pos q]
      have e : bs.length - 1 - i = k := by rw [← q]; exact Nat.sub_sub_self (Nat.le_sub_one_of_lt h)
      simp [revTo, e]
    · rw [if_neg q]
      have e : (bs.length - 1 - i < k) ↔ (bs.length - 1 - i < k + 1) := ⟨Nat.lt_succ_of_lt, fun h' => Nat.lt_of_le_of_ne (Nat.le_of_lt_succ h') (fun z => q (by rw [← z]; exact Nat.sub_sub_self (Nat.le_sub_one_of_lt hi)))⟩
      simp [revTo, e]
theorem revTo_all (bs : List UInt8) : revTo bs bs.length = bs.reverse.toArray := by
  apply Array.ext
  · simp [revTo]
  · intro i h1 h2
    have hi : i < bs.length := by rw [revTo_size] at h1; exact h1
    have e : bs.length - 1 - i < bs.length := by ((try clear h1); (try clear h2); omega)
    simp [revTo, e]
theorem range_size2 {n : Nat} (h : 0 < n) : Builtin.Range.rangeSize 0 (n : Int) 1 = (n : Int) := by
  unfold Builtin.Range.rangeSize
  rw [if_pos (by decide), if_pos (by lia), Int.ediv_one]
  lia
theorem range_size1 {n : Nat} (h : 0 < n) : Builtin.Range.rangeSize 0 (n : Int) (n : Int) = 1 := by
  unfold Builtin.Range.rangeSize
  have h1 : (n : Int) > 0 := by lia
  rw [if_pos h1, if_pos h1]
  have : ((n : Int) - 0 - 1) / (n : Int) = 0 := Int.ediv_eq_zero_of_lt (by lia) (by lia)
  lia
theorem fits_long {i : Int} (h0 : 0 ≤ i) (h1 : i < 2 ^ 20) : Builtin.Range.rangeFitsLong i = true := by
  unfold Builtin.Range.rangeFitsLong
  simp only [Bool.and_eq_true, decide_eq_true_eq]
  lia
theorem range_small {n : Nat} (h : n ≤ 1000) (h1 : 0 < n) : Builtin.Range.small 0 (n : Int) (n : Int) = true := by
  unfold Builtin.Range.small
  rw [range_size1 h1, fits_long (by lia) (by lia), fits_long (by lia) (by lia), fits_long (by lia) (by lia), if_pos (by lia), fits_long (by lia) (by lia)]
  rfl
theorem range_small1 {n : Nat} (h : n ≤ 1000) (h1 : 0 < n) : Builtin.Range.small 0 (n : Int) 1 = true := by
  unfold Builtin.Range.small
  rw [range_size2 h1, fits_long (by lia) (by lia), fits_long (by lia) (by lia), fits_long (by lia) (by lia), if_pos (by lia), fits_long (by lia) (by lia)]
  simp
theorem off_in {st st' : List Str} {u f m₀ : Str → Option Value} (h : ∀ z, st.contains z = false → st'.contains z = false) (g : ∀ z, st.contains z = false → f z = m₀ z) : ∀ z, st.contains z = false → (fun y => if st'.contains y then u y else f y) z = m₀ z := fun z hz => by
  show (if st'.contains z then u z else f z) = m₀ z
  rw [if_neg (by rw [h z hz]; exact Bool.false_ne_true)]; exact g z hz
theorem off_cons2 {D a : Addr} {o : Obj} {l : List (Addr × Obj)} (h : a ≠ D) (h2 : ∀ p ∈ l, p.1 ≠ D) : ∀ p ∈ ((a, o) :: l : List (Addr × Obj)), p.1 ≠ D := fun p hp => by
  rcases List.mem_cons.mp hp with rfl | hp
  · exact h
  · exact h2 p hp
noncomputable def Sc105 : Prop := ∀ (w : World) (bs : List UInt8) (tb tw : Tok) (news : List (Addr × Obj)), bs.length ≤ 1000 → 0 < bs.length →
   CtC w 105 20 news [.bytes bs.toArray tb, .int bs.length tw] (fun r news' => ∃ t D o, r = .bytes bs.reverse.toArray t ∧ news' = (D, o) :: news)
noncomputable def kTc105 : {P : (yW→yBY→yN→yN→yR→yLS→ymean→yM→yM→yN→yN→ycn→ycs→yN→yV→ycl→youter→yH→yN→yM→ys→yQ→yQ→yH→yN→yH→yN→Prop) // (∀ x1 x2 x3 x4 x5 x6 x7 x8 x9 x10 x11 x12 x13 x14 x15 x16 x17 x18 x19 x20 x21 x22 x23 x24 x25 x26 x27, P x1 x2 x3 x4 x5 x6 x7 x8 x9 x10 x11 x12 x13 x14 x15 x16 x17 x18 x19 x20 x21 x22 x23 x24 x25 x26 x27) → Sc105} := by
  refine' ⟨_, fun hPG1 => ?main⟩
  case main =>
    unfold Sc105
    unfold CtC
    k_fill
    intro w bs tb tw news hl0 hl1
    intros
    rename_i hret
    w_on
    refine wpC_call ?_
    k_dflt (refine' enterC ?k1 ?k2 ?k3 ?k4 ?k5 ?kA ?kF ?kK ?k6 ?k7 ?k8 ?k9 ?kB ?kD ?_ ?c2 ?c3 ?c4; (case kA => exact rfl); (case kF => exact rfl); (case kK => assumption); (case k1 => k_asm); (case k2 => k_asm); (case k3 => k_asm); (case k4 => k_asm); (case k5 => k_asm); (case k6 => k_is); (case k7 => k_is); (case k8 => ktr_room); (case k9 => exact BindsTo.of_eq rfl); (case kB => exact rfl); (case kD => decide +kernel); (case c2 => exact rfl); (case c3 => exact rfl); (case c4 => exact rfl); k_whole; intro g' L' h' tk' cells' FG' F' N' Y' B' X' T' l1; (cases Y'); (try simp only [List.cons_append, List.nil_append] at N'); (try dsimp only); (try k_fold))
    refine wpC_execs_cons (wpC_Assign_Name (by with_unfolding_all rfl) (wpC_Call_Name ?_))
    rename_i qz1 qz2 qz3 qz4 qz5 qz6 qz7 qz8 qz9 qz10 qz11 qz12 qz13 qz14 qz15 qz16 qz17 qz18 qz19 qz20 qz21 qz22 qz23 qz24 qz25 qz26 qz27 qz28
    revert hl0 hl1 qz23 qz25 hret F' X' T' N'
    exact hPG1 w bs tb tw news qz1 qz2 qz3 qz4 qz5 qz6 qz7 qz8 qz9 qz10 qz11 qz12 qz15 qz16 qz17 qz18 qz19 qz20 g' L' h' tk'
noncomputable def pG1 (v : Vars) : Prop := kTc105.1 (v.W 0) (v.BY 0) (v.N 0) (v.N 1) (v.R 0) (v.LS 0) (v.mean 0) (v.M 0) (v.M 1) (v.N 2) (v.N 3) (v.cn 0) (v.cs 0) (v.N 4) (v.V 0) (v.cl 0) (v.outer 0) (v.H 0) (v.N 5) (v.M 2) (v.s 0) (v.Q 0) (v.Q 1) (v.H 1) (v.N 6) (v.H 2) (v.N 7)
@[irreducible] noncomputable def vG1 : Vars := hk pG1
noncomputable def ktG1 : {P : (yN→yH→yN→yH→yN→yN→yH→yN→yN→yO→Prop) × (yN→yH→yN→yH→yN→yM→yH→yN→Prop) // (∀ x1 x2 x3 x4 x5 x6 x7 x8 x9 x10, P.1 x1 x2 x3 x4 x5 x6 x7 x8 x9 x10) → (∀ x1 x2 x3 x4 x5 x6 x7 x8, P.2 x1 x2 x3 x4 x5 x6 x7 x8) → pG1 vG1} := by
  refine' ⟨((_ : yBY→yR→yN→yH→yN→yH→yN→yN→yH→yN→yN→yO→Prop) (vG1.BY 0) (vG1.R 0), (_ : yBY→yR→yN→yH→yN→yH→yN→yM→yH→yN→Prop) (vG1.BY 0) (vG1.R 0)), fun hPG2 hPG3 => ?main⟩
  case main =>
    intro hl0 hl1 qz23 qz25 hret F' X' T' N'
    generalize vG1.BY 0 = bs, vG1.R 0 = news at *
    k_steps
    with_unfolding_all refine wpC_type1 ?_
    k_steps
    k_dflt (refine' call_ba_K ?F ?N rfl ?h0 ?hz ?_; (case F => k_asm); (case N => k_asm); (case h0 => (simp only [List.size_toArray]; lia)); (case hz => (simp only [List.size_toArray]; rw [PySem.sizeLine_eq]; lia)); intro D h1 F1 N1 lD; (try dsimp only))
    k_steps
    refine wpC_of ?_
    k_steps
    rename Fr _ _ _ _ => F2
    rename News _ _ _ _ => N2
    rename IsRange _ _ _ _ _ _ _ _ => R2
    simp only [List.size_toArray] at R2 N2
    have e0 : Array.replicate (bs.length : Int).toNat (0 : UInt8) = revTo bs 0 := by rw [revTo_zero]; rfl
    rw [e0] at N2
    refine halt_out ?_
    refine range_one (st := [Str.ofString "i", Str.ofString "j"]) (fun u nw => nw = (D, baObj (revTo bs bs.length)) :: news) (by rfl) R2 (range_small hl0 hl1) (range_size1 hl1) F2 N2 ?_ ?_
    · intro t h tk I oI hcl hne F3 N3
      (try clear F2)
      (try clear N2)
      (try clear R2)
      rename_i qz29 qz30 qz31 qz32 qz33 qz34 qz35 qz36 qz37 qz38
      revert qz23 qz25 X' T' hl0 hl1 hret lD hne F3 N3
      exact hPG2 D qz29 qz32 qz33 qz34 t h tk I oI
    · rintro u nw h tk rfl F3 N3
      (try clear F2)
      (try clear N2)
      (try clear R2)
      rename_i qz39 qz40 qz41 qz42 qz43 qz44 qz45 qz46 qz47 qz48
      revert qz23 qz25 X' T' hl0 hl1 hret F3 N3
      exact hPG3 D qz39 qz42 qz43 qz44 u h tk
noncomputable def pG2 (v : Vars) : Prop := ktG1.1.1 (v.N 0) (v.H 0) (v.N 1) (v.H 1) (v.N 2) (v.N 3) (v.H 2) (v.N 4) (v.N 5) (v.O 0)
@[irreducible] noncomputable def vG2 : Vars := hk pG2
noncomputable def ktG2 : {P : (yH→yN→yN→yN→yM→yH→yN→yN→yO→Prop) × (yH→yN→yM→yH→yN→Prop) // (∀ x1 x2 x3 x4 x5 x6 x7 x8 x9, P.1 x1 x2 x3 x4 x5 x6 x7 x8 x9) → (∀ x1 x2 x3 x4 x5, P.2 x1 x2 x3 x4 x5) → pG2 vG2} := by
  refine' ⟨((_ : yBY→yR→yN→yN→yO→yH→yN→yN→yN→yM→yH→yN→yN→yO→Prop) (vG1.BY 0) (vG1.R 0) (vG2.N 0) (vG2.N 5) (vG2.O 0), (_ : yBY→yR→yN→yN→yO→yH→yN→yM→yH→yN→Prop) (vG1.BY 0) (vG1.R 0) (vG2.N 0) (vG2.N 5) (vG2.O 0)), fun hPG4 hPG5 => ?main⟩
  case main =>
    intro qz23 qz25 X' T' hl0 hl1 hret lD hne F3 N3
    generalize vG1.BY 0 = bs, vG1.R 0 = news, vG2.N 0 = D, vG2.N 5 = I, vG2.O 0 = oI at *
    k_steps
    rename Fr _ _ _ _ => F4
    rename News _ _ _ _ => N4
    rename IsRange _ _ _ _ _ _ _ _ => R4
    refine halt_out ?_
    refine range_inv (n := bs.length) (st := [Str.ofString "j"]) (fun i u nw => nw = (I, oI) :: (D, baObj (revTo bs i)) :: news) (by rfl) R4 (range_small1 hl0 hl1) (range_size2 hl1) F4 N4 rfl ?_ ?_
    · intro i t2 u nw h tk I2 oI2 hi e hcl2 hne2 F5 N5
      subst e
      (try clear F4)
      (try clear N4)
      (try clear R4)
      rename_i qz49 qz50 qz51 qz52 qz53 qz54 qz55 qz56
      revert qz23 qz25 X' T' hl0 hl1 hret lD hne hi F5 hne2 N5
      exact hPG4 qz51 qz52 i t2 u h tk I2 oI2
    · rintro u nw h tk rfl F5 N5
      (try clear F4)
      (try clear N4)
      (try clear R4)
      rename_i qz57 qz58 qz59 qz60 qz61 qz62 qz63 qz64
      revert qz23 qz25 X' T' hl0 hl1 hret hne F5 N5
      exact hPG5 qz59 qz60 u h tk
noncomputable def pG4 (v : Vars) : Prop := ktG2.1.1 (v.H 0) (v.N 0) (v.N 1) (v.N 2) (v.M 0) (v.H 1) (v.N 3) (v.N 4) (v.O 0)
@[irreducible] noncomputable def vG4 : Vars := hk pG4
theorem tG4 : pG4 vG4 := by
  intro qz23 qz25 X' T' hl0 hl1 hret lD hne hi F5 hne2 N5
  generalize vG1.BY 0 = bs, vG1.R 0 = news, vG2.N 0 = D, vG2.N 5 = I, vG2.O 0 = oI, vG4.N 1 = i, vG4.N 4 = I2, vG4.O 0 = oI2 at *
  k_steps
  rename Fr _ _ _ _ => F6
  rename News _ _ _ _ => N6
  have es : (revTo bs i).setIfInBounds (0 + (bs.length : Int) - 1 - (0 + (i : Int))).toNat (((bs.getD (0 + (0 + (i : Int))).toNat 0).toNat : Int)).toNat.toUInt8 = revTo bs (i + 1) := by
    have e1 : (0 + (bs.length : Int) - 1 - (0 + (i : Int))).toNat = bs.length - 1 - i := by lia
    have e2 : (0 + (0 + (i : Int))).toNat = i := by lia
    rw [e1, e2, ← revTo_succ bs i hi, Int.toNat_natCast]
    simp
  refine ba_set_K (b := revTo bs i) (news' := (I2, oI2) :: (I, oI) :: (D, baObj (revTo bs (i + 1))) :: news) F6 N6 ?U ?h0 ?hn ?hz ?hx0 ?hx1 ?_
  case U => rw [es]; exact Upd.tail (hne2 _ (.tail _ (.head _))).symm (Upd.tail (Nat.ne_of_gt (hne _ (.head _))) (Upd.head (fun p hp => Nat.ne_of_lt (lD p hp))))
  case h0 => lia
  case hn => rw [revTo_size]; ((try clear hl0); (try clear hl1); (try clear hret); (try clear FG'); (try clear B'); (try clear X'); (try clear T'); (try clear l1); (try clear lD); (try clear e0); (try clear hcl); (try clear hne); (try clear hi); (try clear hcl2); (try clear F6); (try clear hne2); (try clear N6); (try clear es); lia)
  case hz => rw [revTo_size, PySem.sizeLine_eq]; lia
  case hx0 => lia
  case hx1 => have := UInt8.toNat_lt (bs.getD (0 + (0 + (i : Int))).toNat 0); ((try clear hl0); (try clear hl1); (try clear hret); (try clear FG'); (try clear B'); (try clear X'); (try clear T'); (try clear l1); (try clear lD); (try clear e0); (try clear hcl); (try clear hne); (try clear hi); (try clear hcl2); (try clear F6); (try clear hne2); (try clear N6); (try clear es); lia)
  intro h7 F7 N7
  (try clear F6)
  (try clear N6)
  k_steps
  exact TEnd.mk (by assumption) (by assumption) ((I, oI) :: (D, baObj (revTo bs (i + 1))) :: news) (fun p hp => hp) (off_cons2 (hne2 _ (.head _)) (off_cons2 (hne2 _ (.tail _ (.head _))) fun p hp => hne2 p (.tail _ (.tail _ hp)))) (by repeat (first | exact off_base | refine off_if rfl ?_)) rfl
theorem aG4 : ∀ v, pG4 v := hkv tG4 (by unfold vG4; rfl)
noncomputable def pG5 (v : Vars) : Prop := ktG2.1.2 (v.H 0) (v.N 0) (v.M 0) (v.H 1) (v.N 1)
@[irreducible] noncomputable def vG5 : Vars := hk pG5
theorem tG5 : pG5 vG5 := by
  intro qz23 qz25 X' T' hl0 hl1 hret hne F5 N5
  generalize vG1.BY 0 = bs, vG1.R 0 = news, vG2.N 0 = D at *
  k_steps
  exact TEnd.mk (by assumption) (by assumption) ((D, baObj (revTo bs bs.length)) :: news) (fun p hp => hp) (off_cons2 (Nat.ne_of_lt (hne _ (.head _))) fun p hp => Nat.ne_of_lt (hne p (.tail _ hp))) (off_in (fun z hz => by (simp only [List.contains_cons, Bool.or_eq_false_iff] at hz ⊢; exact hz.2)) (off_if rfl (fun _ _ => rfl))) rfl
theorem aG5 : ∀ v, pG5 v := hkv tG5 (by unfold vG5; rfl)
theorem tG2 : pG2 vG2 := ktG2.2 (fun x1 x2 x3 x4 x5 x6 x7 x8 x9 => aG4 {d0v with H := sl x1 [x6], N := sl x2 [x3, x4, x7, x8], O := sl x9 [], M := sl x5 []}) (fun x1 x2 x3 x4 x5 => aG5 {d0v with H := sl x1 [x4], N := sl x2 [x5], M := sl x3 []})
theorem aG2 : ∀ v, pG2 v := hkv tG2 (by unfold vG2; rfl)
noncomputable def pG3 (v : Vars) : Prop := ktG1.1.2 (v.N 0) (v.H 0) (v.N 1) (v.H 1) (v.N 2) (v.M 0) (v.H 2) (v.N 3)
@[irreducible] noncomputable def vG3 : Vars := hk pG3
theorem tG3 : pG3 vG3 := by
  intro qz23 qz25 X' T' hl0 hl1 hret F3 N3
  generalize vG3.N 0 = D at *
  k_steps
  rename Fr _ _ _ _ => F6
  rename News _ _ _ _ => N6
  refine call_bytes_ba (N6 _ (.head _)).1 (by rw [revTo_size, PySem.sizeLine_eq]; lia) fun t2 k2 => ?_
  rw [revTo_all]
  k_steps
  exact hret _ _ _ _ (by assumption) (by assumption) ⟨t2, D, _, rfl, rfl⟩
theorem aG3 : ∀ v, pG3 v := hkv tG3 (by unfold vG3; rfl)
theorem tG1 : pG1 vG1 := ktG1.2 (fun x1 x2 x3 x4 x5 x6 x7 x8 x9 x10 => aG2 {d0v with H := sl x2 [x4, x7], N := sl x1 [x3, x5, x6, x8, x9], O := sl x10 []}) (fun x1 x2 x3 x4 x5 x6 x7 x8 => aG3 {d0v with H := sl x2 [x4, x7], N := sl x1 [x3, x5, x8], M := sl x6 []})
theorem aG1 : ∀ v, pG1 v := hkv tG1 (by unfold vG1; rfl)
theorem Tc105 : Sc105 := kTc105.2 (fun x1 x2 x3 x4 x5 x6 x7 x8 x9 x10 x11 x12 x13 x14 x15 x16 x17 x18 x19 x20 x21 x22 x23 x24 x25 x26 x27 => aG1 {d0v with W := sl x1 [], LS := sl x6 [], mean := sl x7 [], cn := sl x12 [], cs := sl x13 [], cl := sl x16 [], outer := sl x17 [], s := sl x21 [], H := sl x18 [x24, x26], N := sl x3 [x4, x10, x11, x14, x19, x25, x27], V := sl x15 [], M := sl x8 [x9, x20], R := sl x5 [], Q := sl x22 [x23], BY := sl x2 []})
theorem c105 : Sc105 := Tc105
end
section
local macro_rules | `(tactic| walk_at "eval ListComp") => `(tactic| (k_here; k_dflt (refine ListComp_G (F₀ := by k_asm) (by with_unfolding_all rfl) (by decide) (by rfl) (by decide) ?_)))
local macro_rules | `(tactic| walk_at "exec Assign cons ListComp") => `(tactic| (k_here; k_dflt (refine Assign_ListComp_G (F₀ := by k_asm) (by rfl) (by with_unfolding_all rfl) (by with_unfolding_all rfl) (by decide) (by rfl) (by decide) (by rfl) (by rfl) ?_)))
theorem w0A110 : True := by w_top off; trivial
noncomputable def Sc110 : Prop := ∀ (w : World) (b1 b2 : Addr) (p1 p2 p3 q1 q2 q3 g : Int) (t1 t2 t3 u1 u2 u3 tg : Tok) (n1 n2 : Nat) (news : List (Addr × Obj)),
   (b1, ({ cls := .type "list", data := .seq #[.int p1 t1, .int p2 t2, .int p3 t3] n1 } : Obj)) ∈ news → (b2, ({ cls := .type "list", data := .seq #[.int q1 u1, .int q2 u2, .int q3 u3] n2 } : Obj)) ∈ news →
   0 ≤ p1 → 0 ≤ p2 → 0 ≤ p3 → 0 ≤ q1 → 0 ≤ q2 → 0 ≤ q3 → 0 ≤ g → p1 < 1000 → p2 < 1000 → p3 < 1000 → q1 < 1000 → q2 < 1000 → q3 < 1000 → g < 1000 →
   finZ (tR p1 p2 p3 q1 q2 q3 g) → finZ (tG p1 p2 p3 q1 q2 q3 g) → finZ (tB p1 p2 p3 q1 q2 q3 g) →
   Ct w 110 20 news [.ref b1, .ref b2, .int g tg] (fun r news' => ∃ a n s1 s2 s3, r = .ref a ∧ (∀ p ∈ news, p.1 ≠ a) ∧ news' = (a, { cls := .type "list", data := .seq #[.int (rnd (tR p1 p2 p3 q1 q2 q3 g)) s1, .int (rnd (tG p1 p2 p3 q1 q2 q3 g)) s2, .int (rnd (tB p1 p2 p3 q1 q2 q3 g)) s3] n }) :: news)
noncomputable def kTc110 : {P : (yW→yN→yN→yI→yI→yI→yI→yI→yI→yI→yN→yN→yN→yN→yN→yN→yN→yN→yN→yR→yLS→ymean→yM→yM→yN→yN→ycn→ycs→yN→yV→ycl→youter→yH→yH→yN→yM→ys→yQ→yQ→yH→yN→yH→Prop) // (∀ x1 x2 x3 x4 x5 x6 x7 x8 x9 x10 x11 x12 x13 x14 x15 x16 x17 x18 x19 x20 x21 x22 x23 x24 x25 x26 x27 x28 x29 x30 x31 x32 x33 x34 x35 x36 x37 x38 x39 x40 x41 x42, P x1 x2 x3 x4 x5 x6 x7 x8 x9 x10 x11 x12 x13 x14 x15 x16 x17 x18 x19 x20 x21 x22 x23 x24 x25 x26 x27 x28 x29 x30 x31 x32 x33 x34 x35 x36 x37 x38 x39 x40 x41 x42) → Sc110} := by
  refine' ⟨_, fun hPF1 => ?main⟩
  case main =>
    unfold Sc110
    unfold Ct
    k_fill
    intro w b1 b2 p1 p2 p3 q1 q2 q3 g t1 t2 t3 u1 u2 u3 tg n1 n2 news hm1 hm2
    intros
    rename_i hret
    w_on
    refine wpAny_call ?_
    k_dflt cell_enter
    rename_i qz1 qz2 qz3 qz4 qz5 qz6 qz7 qz8 qz9 qz10 qz11 qz12 qz13 qz14 qz15 qz16 qz17 qz18 qz19 qz20 qz21 qz22 qz23 qz24 qz25 qz26 qz27 qz28 qz29 qz30 qz31 qz32 qz33 qz34 qz35 qz36 qz37 qz38 qz39 qz40 qz41 qz42 qz43 qz44 qz45 qz46 qz47 qz48 qz49 qz50 qz51 qz52 qz53 qz54
    revert hm1 hm2 qz1 qz2 qz3 qz4 qz5 qz6 qz7 qz8 qz9 qz10 qz11 qz12 qz13 qz14 qz15 qz16 qz17 qz40 qz42 qz44 qz45 hret qz50 qz51 qz52 qz53 qz54
    exact hPF1 w b1 b2 p1 p2 p3 q1 q2 q3 g t1 t2 t3 u1 u2 u3 tg n1 n2 news qz18 qz19 qz20 qz21 qz22 qz23 qz24 qz25 qz26 qz27 qz28 qz29 qz31 qz32 qz33 qz34 qz35 qz36 qz37 qz46 qz47 qz48
noncomputable def pF1 (v : Vars) : Prop := kTc110.1 (v.W 0) (v.N 0) (v.N 1) (v.I 0) (v.I 1) (v.I 2) (v.I 3) (v.I 4) (v.I 5) (v.I 6) (v.N 2) (v.N 3) (v.N 4) (v.N 5) (v.N 6) (v.N 7) (v.N 8) (v.N 9) (v.N 10) (v.R 0) (v.LS 0) (v.mean 0) (v.M 0) (v.M 1) (v.N 11) (v.N 12) (v.cn 0) (v.cs 0) (v.N 13) (v.V 0) (v.cl 0) (v.outer 0) (v.H 0) (v.H 1) (v.N 14) (v.M 2) (v.s 0) (v.Q 0) (v.Q 1) (v.H 2) (v.N 15) (v.H 3)
@[irreducible] noncomputable def vF1 : Vars := hk pF1
noncomputable def ktF1 : {P : (yN→yN→yVS→yR→yN→yO→yN→yM→yH→yN→yR→yAS→yQ→yI→yN→yI→yN→Prop) × (yN→yN→yH→yN→yH→yN→yN→yN→Prop) // (∀ x1 x2 x3 x4 x5 x6 x7 x8 x9 x10 x11 x12 x13 x14 x15 x16 x17, P.1 x1 x2 x3 x4 x5 x6 x7 x8 x9 x10 x11 x12 x13 x14 x15 x16 x17) → (∀ x1 x2 x3 x4 x5 x6 x7 x8, P.2 x1 x2 x3 x4 x5 x6 x7 x8) → pF1 vF1} := by
  refine' ⟨((_ : yI→yI→yI→yI→yI→yI→yR→yN→yN→yVS→yR→yN→yO→yN→yM→yH→yN→yR→yAS→yQ→yI→yN→yI→yN→Prop) (vF1.I 0) (vF1.I 1) (vF1.I 2) (vF1.I 3) (vF1.I 4) (vF1.I 5) (vF1.R 0), (_ : yI→yI→yI→yI→yI→yI→yR→yN→yN→yH→yN→yH→yN→yN→yN→Prop) (vF1.I 0) (vF1.I 1) (vF1.I 2) (vF1.I 3) (vF1.I 4) (vF1.I 5) (vF1.R 0)), fun hPF2 hPF3 => ?main⟩
  case main =>
    intro hm1 hm2 qz1 qz2 qz3 qz4 qz5 qz6 qz7 qz8 qz9 qz10 qz11 qz12 qz13 qz14 qz15 qz16 qz17 qz40 qz42 qz44 qz45 hret qz50 qz51 qz52 qz53 qz54
    generalize vF1.I 0 = p1, vF1.I 1 = p2, vF1.I 2 = p3, vF1.I 3 = q1, vF1.I 4 = q2, vF1.I 5 = q3, vF1.R 0 = news at *
    k_steps
    k_dflt (refine comp_zip (by rfl) (by rfl) (by rfl) (by decide) (by rfl) (by k_asm) (by k_asm) (by k_mem) (by k_mem) (by exact Nat.le_of_ble_eq_true rfl) (fun (ys : List Value) nw => nw = news ∧ ∀ j v, ys[j]? = some v → ∃ t, v = Value.float (divF ([p1, p2, p3].getD j 0 + [q1, q2, q3].getD j 0) 255) t) ⟨rfl, fun j v e => by simp at e⟩ ?_ ?_)
    · intro i v₁ v₂ ys nw hv1 hv2 hyl C oC D cm h tk own wr E' hJ hC hcm off hCD hwo hown F' N'
      obtain ⟨p, tp, rfl, hpi, hp0, hp1⟩ : ∃ p tp, v₁ = .int p tp ∧ p = [p1, p2, p3].getD i 0 ∧ 0 ≤ p ∧ p < 1000 := by
        match i, hv1 with
        | 0, hv1 => cases hv1; exact ⟨_, _, rfl, rfl, by assumption, by assumption⟩
        | 1, hv1 => cases hv1; exact ⟨_, _, rfl, rfl, by assumption, by assumption⟩
        | 2, hv1 => cases hv1; exact ⟨_, _, rfl, rfl, by assumption, by assumption⟩
      obtain ⟨q, tq, rfl, hqi, hq0, hq1⟩ : ∃ p tp, v₂ = .int p tp ∧ p = [q1, q2, q3].getD i 0 ∧ 0 ≤ p ∧ p < 1000 := by
        match i, hv2 with
        | 0, hv1 => cases hv1; exact ⟨_, _, rfl, rfl, by assumption, by assumption⟩
        | 1, hv1 => cases hv1; exact ⟨_, _, rfl, rfl, by assumption, by assumption⟩
        | 2, hv1 => cases hv1; exact ⟨_, _, rfl, rfl, by assumption, by assumption⟩
      obtain ⟨hca, hcb⟩ := hcm
      obtain ⟨hJ1, hJ2⟩ := hJ
      rename_i qz55
      revert qz7 qz14 qz40 qz42 qz44 qz45 qz50 qz52 qz53 qz54 hm1 hm2 qz1 qz2 qz3 qz4 qz5 qz6 qz8 qz9 qz10 qz11 qz12 qz13 qz15 qz16 qz17 hret qz51 hyl hC off F' N' hpi hp0 hp1 hqi hq0 hq1 hca hcb hJ1 hJ2
      exact hPF2 qz55 i ys nw C oC D cm h tk own wr E' p tp q tq
    · intro s₂ ys nw hJ91 hyl hJ92 D9 h9 tk9 F9 N9 o9
      refine hideG fun nG => ?_
      obtain ⟨h9, rfl⟩ := hJ91
      obtain ⟨hnw9, hys⟩ := hJ92
      replace hnw9 := hnw9.symm
      subst hnw9
      obtain ⟨v1, v2, v3, rfl⟩ := list3 (by simpa using hyl)
      obtain ⟨s1, rfl⟩ := hys 0 _ rfl
      obtain ⟨s2, rfl⟩ := hys 1 _ rfl
      obtain ⟨s3, rfl⟩ := hys 2 _ rfl
      (try clear hys)
      (try clear hyl)
      refine nG ?_
      (try clear nG)
      rename_i qz56
      revert qz7 qz14 qz40 qz42 qz44 qz45 qz50 qz52 qz53 qz54 hm1 hm2 qz1 qz2 qz3 qz4 qz5 qz6 qz8 qz9 qz10 qz11 qz12 qz13 qz15 qz16 qz17 hret qz51 F9 N9
      exact hPF3 tk D9 qz56 tk9 h9 s1 s2 s3
noncomputable def pF2 (v : Vars) : Prop := ktF1.1.1 (v.N 0) (v.N 1) (v.VS 0) (v.R 0) (v.N 2) (v.O 0) (v.N 3) (v.M 0) (v.H 0) (v.N 4) (v.R 1) (v.AS 0) (v.Q 0) (v.I 0) (v.N 5) (v.I 1) (v.N 6)
@[irreducible] noncomputable def vF2 : Vars := hk pF2
theorem tF2 : pF2 vF2 := by
  intro qz7 qz14 qz40 qz42 qz44 qz45 qz50 qz52 qz53 qz54 hm1 hm2 qz1 qz2 qz3 qz4 qz5 qz6 qz8 qz9 qz10 qz11 qz12 qz13 qz15 qz16 qz17 hret qz51 hyl hC off Fq1 Nq1 hpi hp0 hp1 hqi hq0 hq1 hca hcb hJ1 hJ2
  generalize vF2.R 0 = nw at *
  k_steps
  refine halt_out ?_
  k_dflt (refine' Ct.use (c63 _ _ _ _ _ _ ) ?B ?F ?X ?N ?T ?hk ?hd ?hu ?_; (case N => k_asm); (case B => k_asm); (case F => k_asm); (case X => k_asm); (case T => k_asm); (case hk => rfl); (case hd => ktr_room); (case hu => ktr_units))
  intro r' h' tk' nw' F' N' P'
  obtain ⟨t', hr', hn'⟩ := P'
  subst hr'
  subst hn'
  k_steps
  refine halt_out ?_
  k_dflt (refine' Ct.use (c56 _ _ _ _ _ _ ?h0 ?h1 ?h2 ?h3) ?B ?F ?X ?N ?T ?hk ?hd ?hu ?_; (case N => k_asm); (case B => k_asm); (case F => k_asm); (case X => k_asm); (case T => k_asm); (case hk => rfl); (case h0 => lia); (case h1 => lia); (case h2 => lia); (case h3 => lia); (case hd => ktr_room); (case hu => ktr_units))
  intro r' h' tk' nw' F' N' P'
  obtain ⟨t', hr', hn'⟩ := P'
  subst hr'
  subst hn'
  k_steps
  exact ⟨_, _, nw, rfl, by assumption, by assumption, off, hJ1, snoc_get hJ2 ⟨_, by rw [hyl, ← hpi, ← hqi]⟩⟩
theorem aF2 : ∀ v, pF2 v := hkv tF2 (by unfold vF2; rfl)
noncomputable def pF3 (v : Vars) : Prop := ktF1.1.2 (v.N 0) (v.N 1) (v.H 0) (v.N 2) (v.H 1) (v.N 3) (v.N 4) (v.N 5)
@[irreducible] noncomputable def vF3 : Vars := hk pF3
noncomputable def ktF3 : {P : (yH→yH→yN→yN→yN→yN→yN→Prop) // (∀ x1 x2 x3 x4 x5 x6 x7, P x1 x2 x3 x4 x5 x6 x7) → pF3 vF3} := by
  refine' ⟨_, fun hPF4 => ?main⟩
  case main =>
    intro qz7 qz14 qz40 qz42 qz44 qz45 qz50 qz52 qz53 qz54 hm1 hm2 qz1 qz2 qz3 qz4 qz5 qz6 qz8 qz9 qz10 qz11 qz12 qz13 qz15 qz16 qz17 hret qz51 Fq2 Nq2
    k_steps
    refine halt_out ?_
    k_dflt (refine' Ct.use (c21 _ _ _ _ _ _ _ _ ) ?B ?F ?X ?N ?T ?hk ?hd ?hu ?_; (case N => k_asm); (case B => k_asm); (case F => k_asm); (case X => k_asm); (case T => k_asm); (case hk => rfl); (case hd => ktr_room); (case hu => ktr_units))
    intro r' h' tk' nw' F' N' P'
    obtain ⟨a', s1', s2', s3', hr', hn', hl'⟩ := P'
    subst hr'
    subst hn'
    (try k_lt hl')
    rename_i qz57 qz58 qz59
    revert qz7 qz14 qz40 qz42 qz44 qz45 qz52 qz53 qz54 hm1 hm2 qz1 qz2 qz3 qz4 qz5 qz6 qz8 qz9 qz10 qz11 qz12 qz13 qz15 qz16 qz17 hret F' N'
    exact hPF4 qz57 h' tk' a' s1' s2' s3'
noncomputable def pF4 (v : Vars) : Prop := ktF3.1 (v.H 0) (v.H 1) (v.N 0) (v.N 1) (v.N 2) (v.N 3) (v.N 4)
@[irreducible] noncomputable def vF4 : Vars := hk pF4
noncomputable def ktF4 : {P : (yH→yN→yH→yN→yN→Prop) // (∀ x1 x2 x3 x4 x5, P x1 x2 x3 x4 x5) → pF4 vF4} := by
  refine' ⟨_, fun hPF5 => ?main⟩
  case main =>
    intro qz7 qz14 qz40 qz42 qz44 qz45 qz52 qz53 qz54 hm1 hm2 qz1 qz2 qz3 qz4 qz5 qz6 qz8 qz9 qz10 qz11 qz12 qz13 qz15 qz16 qz17 hret Fq3 Nq3
    k_steps
    refine halt_out ?_
    k_dflt (refine' Ct.use (c56 _ _ _ _ _ _ ?h0 ?h1 ?h2 ?h3) ?B ?F ?X ?N ?T ?hk ?hd ?hu ?_; (case N => k_asm); (case B => k_asm); (case F => k_asm); (case X => k_asm); (case T => k_asm); (case hk => rfl); (case h0 => lia); (case h1 => lia); (case h2 => lia); (case h3 => lia); (case hd => ktr_room); (case hu => ktr_units))
    intro r' h' tk' nw' F' N' P'
    obtain ⟨t', hr', hn'⟩ := P'
    subst hr'
    subst hn'
    k_steps
    refine halt_out ?_
    k_dflt (refine' Ct.use (c77f _ _ _ _ _ _ ) ?B ?F ?X ?N ?T ?hk ?hd ?hu ?_; (case N => k_asm); (case B => k_asm); (case F => k_asm); (case X => k_asm); (case T => k_asm); (case hk => rfl); (case hd => ktr_room); (case hu => ktr_units))
    intro r' h' tk' nw' F' N' P'
    obtain ⟨t', hr', hn'⟩ := P'
    subst hr'
    subst hn'
    rename_i qz60 qz61 qz62 qz63 qz64 qz65 qz66 qz67 qz68 qz69 qz70
    revert qz7 qz14 qz40 qz42 qz44 qz45 qz52 qz53 qz54 hm1 hm2 qz1 qz2 qz3 qz4 qz5 qz6 qz8 qz9 qz10 qz11 qz12 qz13 qz15 qz16 qz17 hret F' N'
    exact hPF5 qz66 qz67 h' tk' t'
noncomputable def pF5 (v : Vars) : Prop := ktF4.1 (v.H 0) (v.N 0) (v.H 1) (v.N 1) (v.N 2)
@[irreducible] noncomputable def vF5 : Vars := hk pF5
noncomputable def ktF5 : {P : (yH→yN→yN→yH→yN→yN→Prop) // (∀ x1 x2 x3 x4 x5 x6, P x1 x2 x3 x4 x5 x6) → pF5 vF5} := by
  refine' ⟨_, fun hPF6 => ?main⟩
  case main =>
    intro qz7 qz14 qz40 qz42 qz44 qz45 qz52 qz53 qz54 hm1 hm2 qz1 qz2 qz3 qz4 qz5 qz6 qz8 qz9 qz10 qz11 qz12 qz13 qz15 qz16 qz17 hret Fq4 Nq4
    k_steps
    refine halt_out ?_
    k_dflt (refine' Ct.use (c49f _ _ _ _ ) ?B ?F ?X ?N ?T ?hk ?hd ?hu ?_; (case N => k_asm); (case B => k_asm); (case F => k_asm); (case X => k_asm); (case T => k_asm); (case hk => rfl); (case hd => ktr_room); (case hu => ktr_units))
    intro r' h' tk' nw' F' N' P'
    obtain ⟨t', hr', hn'⟩ := P'
    subst hr'
    subst hn'
    k_steps
    refine halt_out ?_
    k_dflt (refine' Ct.use (c49f _ _ _ _ ) ?B ?F ?X ?N ?T ?hk ?hd ?hu ?_; (case N => k_asm); (case B => k_asm); (case F => k_asm); (case X => k_asm); (case T => k_asm); (case hk => rfl); (case hd => ktr_room); (case hu => ktr_units))
    intro r' h' tk' nw' F' N' P'
    obtain ⟨t', hr', hn'⟩ := P'
    subst hr'
    subst hn'
    rename_i qz71 qz72 qz73 qz74 qz75
    revert qz7 qz14 qz40 qz42 qz44 qz45 qz52 qz53 qz54 hm1 hm2 qz1 qz2 qz3 qz4 qz5 qz6 qz8 qz9 qz10 qz11 qz12 qz13 qz15 qz16 qz17 hret F' N'
    exact hPF6 qz71 qz72 qz74 h' tk' t'
noncomputable def pF6 (v : Vars) : Prop := ktF5.1 (v.H 0) (v.N 0) (v.N 1) (v.H 1) (v.N 2) (v.N 3)
@[irreducible] noncomputable def vF6 : Vars := hk pF6
noncomputable def ktF6 : {P : (yH→yN→yN→yN→yN→yN→Prop) // (∀ x1 x2 x3 x4 x5 x6, P x1 x2 x3 x4 x5 x6) → pF6 vF6} := by
  refine' ⟨_, fun hPF7 => ?main⟩
  case main =>
    intro qz7 qz14 qz40 qz42 qz44 qz45 qz52 qz53 qz54 hm1 hm2 qz1 qz2 qz3 qz4 qz5 qz6 qz8 qz9 qz10 qz11 qz12 qz13 qz15 qz16 qz17 hret Fq5 Nq5
    k_steps
    refine halt_out ?_
    k_dflt (refine' Ct.use (c28 _ _ _ _ _ _ _ _ ) ?B ?F ?X ?N ?T ?hk ?hd ?hu ?_; (case N => k_asm); (case B => k_asm); (case F => k_asm); (case X => k_asm); (case T => k_asm); (case hk => rfl); (case hd => ktr_room); (case hu => ktr_units))
    intro r' h' tk' nw' F' N' P'
    obtain ⟨a', s1', s2', s3', hr', hn', hl'⟩ := P'
    subst hr'
    subst hn'
    (try k_lt hl')
    revert qz7 qz14 qz40 qz42 qz44 qz45 qz52 qz53 qz54 hm1 hm2 qz1 qz2 qz3 qz4 qz5 qz6 qz8 qz9 qz10 qz11 qz12 qz13 qz15 qz16 qz17 hret F' N'
    exact hPF7 h' tk' a' s1' s2' s3'
noncomputable def pF7 (v : Vars) : Prop := ktF6.1 (v.H 0) (v.N 0) (v.N 1) (v.N 2) (v.N 3) (v.N 4)
@[irreducible] noncomputable def vF7 : Vars := hk pF7
noncomputable def ktF7 : {P : (yH→yN→yN→yVS→yR→yN→yO→yN→yM→yH→yN→yR→yAS→yQ→yF→yN→Prop) × (yH→yN→yN→yH→yN→yH→yN→yN→yN→Prop) // (∀ x1 x2 x3 x4 x5 x6 x7 x8 x9 x10 x11 x12 x13 x14 x15 x16, P.1 x1 x2 x3 x4 x5 x6 x7 x8 x9 x10 x11 x12 x13 x14 x15 x16) → (∀ x1 x2 x3 x4 x5 x6 x7 x8 x9, P.2 x1 x2 x3 x4 x5 x6 x7 x8 x9) → pF7 vF7} := by
  refine' ⟨((_ : yI→yI→yI→yI→yI→yI→yI→yH→yN→yN→yVS→yR→yN→yO→yN→yM→yH→yN→yR→yAS→yQ→yF→yN→Prop) (vF1.I 0) (vF1.I 1) (vF1.I 2) (vF1.I 3) (vF1.I 4) (vF1.I 5) (vF1.I 6), (_ : yI→yI→yI→yI→yI→yI→yI→yH→yN→yN→yH→yN→yH→yN→yN→yN→Prop) (vF1.I 0) (vF1.I 1) (vF1.I 2) (vF1.I 3) (vF1.I 4) (vF1.I 5) (vF1.I 6)), fun hPF8 hPF9 => ?main⟩
  case main =>
    intro qz7 qz14 qz40 qz42 qz44 qz45 qz52 qz53 qz54 hm1 hm2 qz1 qz2 qz3 qz4 qz5 qz6 qz8 qz9 qz10 qz11 qz12 qz13 qz15 qz16 qz17 hret Fq6 Nq6
    generalize vF1.I 0 = p1, vF1.I 1 = p2, vF1.I 2 = p3, vF1.I 3 = q1, vF1.I 4 = q2, vF1.I 5 = q3, vF1.I 6 = g at *
    k_steps
    rename News _ _ _ _ => N8
    k_dflt (refine comp_tuple (by rfl) (by rfl) (by rfl) (by k_asm) N8 (by k_mem) (by exact Nat.le_of_ble_eq_true rfl) (fun (ys : List Value) nw => nw = _ ∧ ∀ j v, ys[j]? = some v → ∃ t, v = Value.int (rnd ([tR p1 p2 p3 q1 q2 q3 g, tG p1 p2 p3 q1 q2 q3 g, tB p1 p2 p3 q1 q2 q3 g].getD j 0)) t) ⟨rfl, fun j v e => by simp at e⟩ ?_ ?_)
    · intro i v₁ ys nw hv1 hyl C oC D cm h tk own wr E' hJ hC hcm off hCD hwo hown F' N'
      have hv : ∃ z s, v₁ = Value.float z s ∧ z = [tR p1 p2 p3 q1 q2 q3 g, tG p1 p2 p3 q1 q2 q3 g, tB p1 p2 p3 q1 q2 q3 g].getD i 0 ∧ finZ z := by
        match i, hv1 with
        | 0, hv1 => cases hv1; exact ⟨_, _, rfl, rfl, by assumption⟩
        | 1, hv1 => cases hv1; exact ⟨_, _, rfl, rfl, by assumption⟩
        | 2, hv1 => cases hv1; exact ⟨_, _, rfl, rfl, by assumption⟩
      obtain ⟨z, sz, rfl, hz, hfz⟩ := hv
      obtain ⟨hJ1, hJ2⟩ := hJ
      rename_i qz76 qz77 qz78
      revert qz40 qz42 qz44 qz45 qz52 qz53 qz54 qz7 qz14 hm1 hm2 qz1 qz2 qz3 qz4 qz5 qz6 qz8 qz9 qz10 qz11 qz12 qz13 qz15 qz16 qz17 hret hyl hC off F' N' hcm hz hfz hJ1 hJ2
      exact hPF8 qz76 qz78 i ys nw C oC D cm h tk own wr E' z sz
    · intro s₂ ys nw hJ93 hyl hJ94 D9 h9 tk9 F9 N9 o9
      refine hideG fun nG => ?_
      obtain ⟨h9, rfl⟩ := hJ93
      obtain ⟨hnw9, hys⟩ := hJ94
      replace hnw9 := hnw9.symm
      subst hnw9
      obtain ⟨v1, v2, v3, rfl⟩ := list3 (by simpa using hyl)
      obtain ⟨s1, rfl⟩ := hys 0 _ rfl
      obtain ⟨s2, rfl⟩ := hys 1 _ rfl
      obtain ⟨s3, rfl⟩ := hys 2 _ rfl
      (try clear hys)
      (try clear hyl)
      refine nG ?_
      (try clear nG)
      rename_i qz79 qz80 qz81
      revert qz40 qz42 qz44 qz45 qz52 qz53 qz54 qz7 qz14 hm1 hm2 qz1 qz2 qz3 qz4 qz5 qz6 qz8 qz9 qz10 qz11 qz12 qz13 qz15 qz16 qz17 hret F9 o9 N9
      exact hPF9 qz79 tk D9 qz81 tk9 h9 s1 s2 s3
noncomputable def pF8 (v : Vars) : Prop := ktF7.1.1 (v.H 0) (v.N 0) (v.N 1) (v.VS 0) (v.R 0) (v.N 2) (v.O 0) (v.N 3) (v.M 0) (v.H 1) (v.N 4) (v.R 1) (v.AS 0) (v.Q 0) (v.F 0) (v.N 5)
@[irreducible] noncomputable def vF8 : Vars := hk pF8
theorem tF8 : pF8 vF8 := by
  intro qz40 qz42 qz44 qz45 qz52 qz53 qz54 qz7 qz14 hm1 hm2 qz1 qz2 qz3 qz4 qz5 qz6 qz8 qz9 qz10 qz11 qz12 qz13 qz15 qz16 qz17 hret hyl hC off Fq7 Nq7 hcm hz hfz hJ1 hJ2
  generalize vF8.R 0 = nw at *
  k_steps
  refine halt_out ?_
  k_dflt (refine' Ct.use (c70f _ _ _ _ _ _ ?h0 ?h1) ?B ?F ?X ?N ?T ?hk ?hd ?hu ?_; (case N => k_asm); (case B => k_asm); (case F => k_asm); (case X => k_asm); (case T => k_asm); (case hk => rfl); (case h0 => first | lia | decide); (case h1 => first | lia | decide); (case hd => ktr_room); (case hu => ktr_units))
  intro r' h' tk' nw' F' N' P'
  obtain ⟨t', hr', hn'⟩ := P'
  subst hr'
  subst hn'
  k_steps
  · exact (finZ_nan hfz (by assumption)).elim
  · exact (finZ_inf hfz (by assumption)).elim
  · exact ⟨_, _, nw, rfl, by assumption, by assumption, off, hJ1, snoc_get hJ2 ⟨_, by rw [hyl, ← hz]; rfl⟩⟩
theorem aF8 : ∀ v, pF8 v := hkv tF8 (by unfold vF8; rfl)
noncomputable def pF9 (v : Vars) : Prop := ktF7.1.2 (v.H 0) (v.N 0) (v.N 1) (v.H 1) (v.N 2) (v.H 2) (v.N 3) (v.N 4) (v.N 5)
@[irreducible] noncomputable def vF9 : Vars := hk pF9
theorem tF9 : pF9 vF9 := by
  intro qz40 qz42 qz44 qz45 qz52 qz53 qz54 qz7 qz14 hm1 hm2 qz1 qz2 qz3 qz4 qz5 qz6 qz8 qz9 qz10 qz11 qz12 qz13 qz15 qz16 qz17 hret F9 o9 N9
  generalize vF9.N 1 = D9 at *
  k_steps
  rename News _ _ _ _ => N7
  have o7 := off1_mem o9
  exact hret _ _ _ _ (by assumption) (fun p hp => N7 p (by rcases List.mem_cons.mp hp with rfl | hp; exact .head _; exact .tail _ (.tail _ (.tail _ (.tail _ hp))))) ⟨D9, _, _, _, _, rfl, fun p hp => o7 p (.tail _ (.tail _ (.tail _ hp))), rfl⟩
theorem aF9 : ∀ v, pF9 v := hkv tF9 (by unfold vF9; rfl)
theorem tF7 : pF7 vF7 := ktF7.2 (fun x1 x2 x3 x4 x5 x6 x7 x8 x9 x10 x11 x12 x13 x14 x15 x16 => aF8 {d0v with H := sl x1 [x10], N := sl x2 [x3, x6, x8, x11, x16], O := sl x7 [], VS := sl x4 [], M := sl x9 [], R := sl x5 [x12], Q := sl x14 [], AS := sl x13 [], F := sl x15 []}) (fun x1 x2 x3 x4 x5 x6 x7 x8 x9 => aF9 {d0v with H := sl x1 [x4, x6], N := sl x2 [x3, x5, x7, x8, x9]})
theorem aF7 : ∀ v, pF7 v := hkv tF7 (by unfold vF7; rfl)
theorem tF6 : pF6 vF6 := ktF6.2 (fun x1 x2 x3 x4 x5 x6 => aF7 {d0v with H := sl x1 [], N := sl x2 [x3, x4, x5, x6]})
theorem aF6 : ∀ v, pF6 v := hkv tF6 (by unfold vF6; rfl)
theorem tF5 : pF5 vF5 := ktF5.2 (fun x1 x2 x3 x4 x5 x6 => aF6 {d0v with H := sl x1 [x4], N := sl x2 [x3, x5, x6]})
theorem aF5 : ∀ v, pF5 v := hkv tF5 (by unfold vF5; rfl)
theorem tF4 : pF4 vF4 := ktF4.2 (fun x1 x2 x3 x4 x5 => aF5 {d0v with H := sl x1 [x3], N := sl x2 [x4, x5]})
theorem aF4 : ∀ v, pF4 v := hkv tF4 (by unfold vF4; rfl)
theorem tF3 : pF3 vF3 := ktF3.2 (fun x1 x2 x3 x4 x5 x6 x7 => aF4 {d0v with H := sl x1 [x2], N := sl x3 [x4, x5, x6, x7]})
theorem aF3 : ∀ v, pF3 v := hkv tF3 (by unfold vF3; rfl)
theorem tF1 : pF1 vF1 := ktF1.2 (fun x1 x2 x3 x4 x5 x6 x7 x8 x9 x10 x11 x12 x13 x14 x15 x16 x17 => aF2 {d0v with H := sl x9 [], N := sl x1 [x2, x5, x7, x10, x15, x17], O := sl x6 [], VS := sl x3 [], I := sl x14 [x16], M := sl x8 [], R := sl x4 [x11], Q := sl x13 [], AS := sl x12 []}) (fun x1 x2 x3 x4 x5 x6 x7 x8 => aF3 {d0v with H := sl x3 [x5], N := sl x1 [x2, x4, x6, x7, x8]})
theorem aF1 : ∀ v, pF1 v := hkv tF1 (by unfold vF1; rfl)
theorem Tc110 : Sc110 := kTc110.2 (fun x1 x2 x3 x4 x5 x6 x7 x8 x9 x10 x11 x12 x13 x14 x15 x16 x17 x18 x19 x20 x21 x22 x23 x24 x25 x26 x27 x28 x29 x30 x31 x32 x33 x34 x35 x36 x37 x38 x39 x40 x41 x42 => aF1 {d0v with W := sl x1 [], LS := sl x21 [], mean := sl x22 [], cn := sl x27 [], cs := sl x28 [], cl := sl x31 [], outer := sl x32 [], s := sl x37 [], H := sl x33 [x34, x40, x42], N := sl x2 [x3, x11, x12, x13, x14, x15, x16, x17, x18, x19, x25, x26, x29, x35, x41], V := sl x30 [], I := sl x4 [x5, x6, x7, x8, x9, x10], M := sl x23 [x24, x36], R := sl x20 [], Q := sl x38 [x39]})
theorem c110 : Sc110 := Tc110
section
local macro_rules | `(tactic| size_fits) => `(tactic| assumption)
local macro_rules | `(tactic| k_ne) => `(tactic| assumption)
local macro_rules | `(tactic| walk_at "call builtin:list.insert") => `(tactic| (k_here; (with_reducible show wpAny _ _ (call (Value.builtin _) [Value.ref _, Value.int _ _, _]) _ _ _); k_dflt (refine' kl_insert ?F ?N ?f ?e ?U ?z ?_; (case F => k_asm); (case N => k_asm); (case e => exact rfl); (case U => k_upd); (case f => assumption); (case z => assumption)); intro h' F' N'))
theorem w0A122 : True := by w_top off; trivial
theorem all_of {a : Addr} {l : List (Addr × Obj)} : AllLt a l → ∀ p ∈ l, p.1 < a := by
  induction l with
  | nil => intro _ p hp; cases hp
  | cons q r ih =>
    intro h p hp
    rcases List.mem_cons.mp hp with rfl | hp
    · exact h.1
    · exact ih h.2 p hp
theorem ens3 {w : World} {news : List (Addr × Obj)} {a b c : Ent} {u v x : Value} (h1 : EntAt w news u a) (h2 : EntAt w news v b) (h3 : EntAt w news x c) : Ens w [a, b, c] [u, v, x] news :=
  ((Ens.snoc (Ens.snoc (Ens.snoc ⟨rfl, fun i e v h => by simp at h⟩ h1) h2) h3 : Ens w ((([] ++ [a]) ++ [b]) ++ [c]) ((([] ++ [u]) ++ [v]) ++ [x]) news))
theorem lts3 {s : Int} {news : List (Addr × Obj)} {a b c : Int × Nat} {u v x : Value} (h1 : LightAt news u (light s a.1 a.2)) (h2 : LightAt news v (light s b.1 b.2)) (h3 : LightAt news x (light s c.1 c.2)) : Lts s [a, b, c] [u, v, x] news :=
  ((Lts.snoc (Lts.snoc (Lts.snoc ⟨rfl, fun i e v h => by simp at h⟩ h1) h2) h3 : Lts s ((([] ++ [a]) ++ [b]) ++ [c]) ((([] ++ [u]) ++ [v]) ++ [x]) news))
theorem EntAt.zero {w : World} {news : List (Addr × Obj)} {t d : Addr} {o : Obj} {n : Nat} {s1 s2 s3 s4 : Tok} (h1 : (t, ({ cls := .type "tuple", data := .seq #[.int 0 s1, .int 0 s2, .int 0 s3, .int 0 s4, .ref d] n } : Obj)) ∈ news) (h2 : (d, o) ∈ news) (lo : (d == sysModules) = false)
    (hd : o.IsDictOf (PySem.intKind Challenge.rw_zn0015_01.row.prog w) []) : EntAt w news (.ref t) Ent.zero :=
  ⟨t, d, o, [], n, s1, s2, s3, s4, rfl, h1, h2, lo, hd, PyProof.V.FlatPairs.nil, List.nodup_nil⟩
theorem LightAt.of {news : List (Addr × Obj)} {b : Addr} {n : Nat} {x y z : Int} {l : Int × Int × Int} {s1 s2 s3 : Tok} (h1 : (b, ({ cls := .type "list", data := .seq #[.int x s1, .int y s2, .int z s3] n } : Obj)) ∈ news) (e1 : x = l.1) (e2 : y = l.2.1) (e3 : z = l.2.2) : LightAt news (.ref b) l := by
  subst e1; subst e2; subst e3
  exact ⟨b, n, s1, s2, s3, rfl, h1⟩
theorem cons_sub {α : Type} {x : α} {a b : List α} (h : ∀ p ∈ a, p ∈ b) : ∀ p ∈ x :: a, p ∈ x :: b := fun p hp => by
  rcases List.mem_cons.mp hp with rfl | hp
  · exact .head _
  · exact .tail _ (h p hp)
theorem cons_drop {α : Type} {x : α} {a b : List α} (h : ∀ p ∈ a, p ∈ b) : ∀ p ∈ a, p ∈ x :: b := fun p hp => .tail _ (h p hp)
theorem off_cons {D a : Nat} {o : Obj} {l : List (Addr × Obj)} (h : a ≠ D) (h2 : ∀ p ∈ l, p.1 ≠ D) : ∀ p ∈ ((a, o) :: l : List (Addr × Obj)), p.1 ≠ D := fun p hp => by
  rcases List.mem_cons.mp hp with rfl | hp
  · exact h
  · exact h2 p hp
theorem off_app {D : Addr} {l l' : List (Addr × Obj)} (h : ∀ p ∈ l, p.1 ≠ D) (h2 : ∀ p ∈ l', p.1 ≠ D) : ∀ p ∈ l ++ l', p.1 ≠ D := fun p hp => by
  rcases List.mem_append.mp hp with hp | hp
  · exact h p hp
  · exact h2 p hp
theorem start_go {G : Prop} {w : World} {sp : Int} {news : List (Addr × Obj)} {rvs lvs evs : List Value} {nR nL : Nat} {aR aL aE L : Addr} {h₀ h : Heap} {nE : Nat} {rest0 S : List (Addr × Obj)} {wc : List (Int × Nat)} {es : List Ent} (_ : News h₀ L h ((aE, { cls := .type "list", data := .seq evs.toArray nE }) :: rest0)) (hS : ∀ p ∈ S, p ∈ rest0) (mR : (aR, ({ cls := .type "list", data := .seq rvs.toArray nR } : Obj)) ∈ rest0) (mL : (aL, ({ cls := .type "list", data := .seq lvs.toArray nL } : Obj)) ∈ rest0)
    (old : ∀ p ∈ news, p ∈ S) (oR : ∀ p ∈ S, p.1 ≠ aR) (oL : ∀ p ∈ S, p.1 ≠ aL) (offE : ∀ p ∈ rest0, p.1 ≠ aE) (lts : Lts sp wc lvs S) (ens : Ens w es evs S) (rvi : IntsAre rvs [0, 1, 2])
    (go : (∀ p ∈ S, p ∈ rest0) → (aR, ({ cls := .type "list", data := .seq rvs.toArray nR } : Obj)) ∈ rest0 → (aL, ({ cls := .type "list", data := .seq lvs.toArray nL } : Obj)) ∈ rest0 → (∀ p ∈ news, p ∈ S) → (∀ p ∈ S, p.1 ≠ aR) → (∀ p ∈ S, p.1 ≠ aL) → (∀ p ∈ rest0, p.1 ≠ aE) → Lts sp wc lvs S → Ens w es evs S → IntsAre rvs [0, 1, 2] → G) : G := go hS mR mL old oR oL offE lts ens rvi
theorem sub_start {aE aR aL : Addr} {oE oR oL : Obj} {tl S rest0 : List (Addr × Obj)} (mR : (aR, oR) ∈ rest0) (mL : (aL, oL) ∈ rest0) (hS : ∀ p ∈ S, p ∈ rest0) : ∀ p ∈ (aE, oE) :: (aR, oR) :: (aL, oL) :: (tl ++ S), p ∈ (aE, oE) :: (tl ++ rest0) := fun p hp => by
  rcases List.mem_cons.mp hp with rfl | hp
  · exact .head _
  rcases List.mem_cons.mp hp with rfl | hp
  · exact .tail _ (List.mem_append.mpr (.inr mR))
  rcases List.mem_cons.mp hp with rfl | hp
  · exact .tail _ (List.mem_append.mpr (.inr mL))
  rcases List.mem_append.mp hp with hp | hp
  · exact .tail _ (List.mem_append.mpr (.inl hp))
  · exact .tail _ (List.mem_append.mpr (.inr (hS p hp)))
theorem ints3 {a b c : Int} {s t u : Tok} : IntsAre [.int a s, .int b t, .int c u] [a, b, c] := .cons _ _ (.cons _ _ (.cons _ _ .nil))
theorem ints_cons {v : Value} {r : List Value} {ns : List Int} (h : IntsAre (v :: r) ns) : ∃ n t ns', v = .int n t ∧ ns = n :: ns' ∧ IntsAre r ns' := by
  cases h with
  | cons n t h => exact ⟨n, t, _, rfl, rfl, h⟩
theorem raw_side {m : Mo} (G : Good m) (y : Int) : (y.fmod ↑m.ring.length).toNat = side m y := by
  have := G.k3
  unfold side; rw [Int.fmod_eq_emod_of_nonneg _ (by lia)]
theorem raw_one {m : Mo} (G : Good m) (y : Int) : m.ring.getD (y.fmod ↑m.ring.length).toNat 0 = one m y := by rw [raw_side G]; rfl
theorem raw_side2 {m : Mo} (G : Good m) (y : Int) : ((y.fmod ↑m.ring.length + 1).fmod ↑m.ring.length).toNat = (side m y + 1) % m.ring.length := by
  have h3 := G.k3
  have h1 := Int.emod_lt_of_pos y (by lia : (0 : Int) < m.ring.length)
  have h2 := Int.emod_nonneg y (by lia : (m.ring.length : Int) ≠ 0)
  unfold side; rw [Int.fmod_eq_emod_of_nonneg _ (by lia), Int.fmod_eq_emod_of_nonneg _ (by lia)]
  have e : (y % (m.ring.length : Int)) = (((y % (m.ring.length : Int)).toNat : Nat) : Int) := by lia
  rw [e]
  generalize (y % (m.ring.length : Int)).toNat = k
  have : (((k : Nat) : Int) + 1) % (m.ring.length : Int) = (((k + 1) % m.ring.length : Nat) : Int) := by push_cast; rfl
  rw [this, Int.toNat_natCast, Int.toNat_natCast]
theorem raw_other {m : Mo} (G : Good m) (y : Int) : m.ring.getD ((y.fmod ↑m.ring.length + 1).fmod ↑m.ring.length).toNat 0 = other m y := by rw [raw_side2 G]; rfl
theorem light_b {s w : Int} {c : Nat} (h0 : 40 ≤ s) (h1 : s < 140) (h2 : 0 ≤ w) (h3 : w < 64) : (0 ≤ (light s w c).1 ∧ (light s w c).1 < 1000) ∧ (0 ≤ (light s w c).2.1 ∧ (light s w c).2.1 < 1000) ∧ (0 ≤ (light s w c).2.2 ∧ (light s w c).2.2 < 1000) := by
  unfold light; dsimp only; refine ⟨?_, ?_, ?_⟩ <;> split <;> lia
theorem ints_len {vs : List Value} {is : List Int} (h : IntsAre vs is) : vs.length = is.length := by
  induction h with
  | nil => rfl
  | cons n t _ ih => rw [List.length_cons, List.length_cons, ih]
theorem getD_app1 {α : Type} {l l' : List α} {i : Nat} {d : α} (h : i < l.length) : (l ++ l').getD i d = l.getD i d := by
  rw [List.getD_eq_getElem?_getD, List.getElem?_append_left h, ← List.getD_eq_getElem?_getD]
theorem getD_app2 {α : Type} {l : List α} {a d : α} : (l ++ [a]).getD l.length d = a := by
  rw [List.getD_eq_getElem?_getD, List.getElem?_append_right (Nat.le_refl _), Nat.sub_self]; rfl
theorem swap4 {α : Type} {a b c e : α} {l : List α} : ∀ p ∈ e :: a :: b :: c :: l, p ∈ a :: b :: c :: e :: l := fun p hp => by
  rcases List.mem_cons.mp hp with rfl | hp
  · exact .tail _ (.tail _ (.tail _ (.head _)))
  rcases List.mem_cons.mp hp with rfl | hp
  · exact .head _
  rcases List.mem_cons.mp hp with rfl | hp
  · exact .tail _ (.head _)
  rcases List.mem_cons.mp hp with rfl | hp
  · exact .tail _ (.tail _ (.head _))
  · exact .tail _ (.tail _ (.tail _ (.tail _ hp)))
theorem get3 {h₀ h : Heap} {L : Addr} {a b c e f g : Addr × Obj} {l S1 : List (Addr × Obj)} (_ : News h₀ L h (a :: b :: c :: e :: f :: g :: l)) (h1 : ∀ p ∈ S1, p ∈ l) :
    ∃ S : List (Addr × Obj), (∀ p ∈ S, p ∈ a :: b :: c :: f :: g :: l) ∧ b ∈ S ∧ c ∈ S ∧ (∀ p ∈ S1, p ∈ S) ∧ ∀ D : Addr, b.1 ≠ D → c.1 ≠ D → (∀ p ∈ S1, p.1 ≠ D) → ∀ p ∈ S, p.1 ≠ D :=
  ⟨b :: c :: S1, cons_drop (cons_sub (cons_sub (cons_drop (cons_drop h1)))), .head _, .tail _ (.head _), cons_drop (cons_drop fun _ h => h), fun D x y z p hp => by
    rcases List.mem_cons.mp hp with rfl | hp
    · exact x
    rcases List.mem_cons.mp hp with rfl | hp
    · exact y
    · exact z p hp⟩
theorem ints_ins0 {vs : List Value} {is : List Int} (h : IntsAre vs is) (c : Int) (t : Tok) : ∀ (k : Nat), k ≤ is.length → IntsAre (vs.take k ++ .int c t :: vs.drop k) (is.insertIdx k c) := by
  induction h with
  | nil =>
    intro k hk
    have : k = 0 := by simpa using hk
    subst this
    exact .cons _ _ .nil
  | cons n u h ih =>
    intro k hk
    match k with
    | 0 => exact .cons _ _ (.cons _ _ h)
    | k + 1 => exact .cons _ _ (ih k (by simpa using hk))
theorem ints_ins {vs : List Value} {is : List Int} (h : IntsAre vs is) (k : Nat) (hk : k ≤ is.length) (c : Int) (t : Tok) (x : Int) (hx : x = k) : IntsAre (kl_ins vs x (.int c t)) (is.insertIdx k c) := by
  have hl := ints_len h
  unfold kl_ins
  have e : (if x < 0 then (x + (vs.length : Int)).toNat else min x.toNat vs.length) = k := by
    rw [if_neg (by lia)]; lia
  rw [e]
  exact ints_ins0 h c t k hk
structure Turn (w : World) (sp : Int) (ns : List Int) (aN : Addr) (vN : List Value) (nN : Nat) (news : List (Addr × Obj)) (m : Mo) (ns' : List Int) (r rvs lvs evs : List Value) (aR aL aE : Addr) (rest : List (Addr × Obj)) : Prop where
  vals : IntsAre r ns'
  nn : ∀ n ∈ ns', 0 ≤ n
  run : ns'.foldl (stepM sp) m = runM sp ns
  good : Good m
  len : m.ring.length + ns'.length ≤ 9
  ring : IntsAre rvs m.ring
  lts : Lts sp m.wc lvs rest
  ens : Ens w m.es evs rest
  ap1 : @LT.lt Nat _ aR aL
  ap2 : @LT.lt Nat _ aL aE
  offR : ∀ p ∈ rest, p.1 ≠ aR
  offL : ∀ p ∈ rest, p.1 ≠ aL
  offE : ∀ p ∈ rest, p.1 ≠ aE
  nums : (aN, ({ cls := .type "list", data := .seq vN.toArray nN } : Obj)) ∈ rest
  old : ∀ p ∈ news, p ∈ rest
inductive PolJ (w : World) (sp : Int) (ns : List Int) (aN : Addr) (vN : List Value) (nN : Nat) (news : List (Addr × Obj)) (aR aL aE : Addr) (r : List Value) (u : Str → Option Value) (nw : List (Addr × Obj)) : Prop
  | mk (m : Mo) (ns' : List Int) (rvs lvs evs : List Value) (nR nL nE : Nat) (rest : List (Addr × Obj)) (e1 : nw = (aE, { cls := .type "list", data := .seq evs.toArray nE }) :: (aR, { cls := .type "list", data := .seq rvs.toArray nR }) :: (aL, { cls := .type "list", data := .seq lvs.toArray nL }) :: rest) (e2 : Turn w sp ns aN vN nN news m ns' r rvs lvs evs aR aL aE rest) : PolJ w sp ns aN vN nN news aR aL aE r u nw
noncomputable def Sc122 : Prop := ∀ (w : World) (aN : Addr) (vN : List Value) (ns : List Int) (nN : Nat) (sp : Int) (ts : Tok) (news : List (Addr × Obj)),
   (aN, ({ cls := .type "list", data := .seq vN.toArray nN } : Obj)) ∈ news → IntsAre vN ns → ns.length ≤ 6 → (∀ n ∈ ns, 0 ≤ n) → 40 ≤ sp → sp < 140 →
   Ct w 122 60 news [.ref aN, .int sp ts] (fun r news' => ∃ (t aR aL aE : Addr) (nT nR nL nE : Nat) (rvs lvs evs : List Value) (rest : List (Addr × Obj)), r = .ref t ∧
     news' = (t, ({ cls := .type "tuple", data := .seq #[.ref aR, .ref aL, .ref aE] nT } : Obj)) :: (aE, { cls := .type "list", data := .seq evs.toArray nE }) :: (aR, { cls := .type "list", data := .seq rvs.toArray nR }) :: (aL, { cls := .type "list", data := .seq lvs.toArray nL }) :: rest ∧
     IntsAre rvs (runM sp ns).ring ∧ Lts sp (runM sp ns).wc lvs rest ∧ Ens w (runM sp ns).es evs rest ∧ ∀ p ∈ news, p ∈ rest)
noncomputable def kTc122 : {P : (yW→yN→yVS→yIS→yN→yI→yN→yR→yLS→ymean→yM→yM→yN→yN→ycn→ycs→yN→yV→ycl→youter→yH→yH→yN→yM→ys→yQ→yQ→yH→yN→yH→Prop) // (∀ x1 x2 x3 x4 x5 x6 x7 x8 x9 x10 x11 x12 x13 x14 x15 x16 x17 x18 x19 x20 x21 x22 x23 x24 x25 x26 x27 x28 x29 x30, P x1 x2 x3 x4 x5 x6 x7 x8 x9 x10 x11 x12 x13 x14 x15 x16 x17 x18 x19 x20 x21 x22 x23 x24 x25 x26 x27 x28 x29 x30) → Sc122} := by
  refine' ⟨_, fun hPB1 => ?main⟩
  case main =>
    unfold Sc122
    unfold Ct
    k_fill
    intro w aN vN ns nN sp ts news hmN hiN hlN hn0 hs0 hs1
    intros
    rename_i hret
    w_on
    refine wpAny_call ?_
    k_dflt cell_enter
    rename_i qz1 qz2 qz3 qz4 qz5 qz6 qz7 qz8 qz9 qz10 qz11 qz12 qz13 qz14 qz15 qz16 qz17 qz18 qz19 qz20 qz21 qz22 qz23 qz24 qz25 qz26 qz27 qz28 qz29 qz30 qz31 qz32 qz33 qz34 qz35 qz36 qz37
    revert hmN hiN hlN hn0 hs0 hs1 qz23 qz25 qz27 qz28 hret qz33 qz34 qz35 qz36 qz37
    exact hPB1 w aN vN ns nN sp ts news qz1 qz2 qz3 qz4 qz5 qz6 qz7 qz8 qz9 qz10 qz11 qz12 qz14 qz15 qz16 qz17 qz18 qz19 qz20 qz29 qz30 qz31
noncomputable def pB1 (v : Vars) : Prop := kTc122.1 (v.W 0) (v.N 0) (v.VS 0) (v.IS 0) (v.N 1) (v.I 0) (v.N 2) (v.R 0) (v.LS 0) (v.mean 0) (v.M 0) (v.M 1) (v.N 3) (v.N 4) (v.cn 0) (v.cs 0) (v.N 5) (v.V 0) (v.cl 0) (v.outer 0) (v.H 0) (v.H 1) (v.N 6) (v.M 2) (v.s 0) (v.Q 0) (v.Q 1) (v.H 2) (v.N 7) (v.H 3)
@[irreducible] noncomputable def vB1 : Vars := hk pB1
noncomputable def ktB1 : {P : (yN→yN→yN→yN→yN→yN→yN→yO→yN→yN→yO→yN→yN→yO→yN→yN→yH→Prop) // (∀ x1 x2 x3 x4 x5 x6 x7 x8 x9 x10 x11 x12 x13 x14 x15 x16 x17, P x1 x2 x3 x4 x5 x6 x7 x8 x9 x10 x11 x12 x13 x14 x15 x16 x17) → pB1 vB1} := by
  refine' ⟨_, fun hPB2 => ?main⟩
  case main =>
    intro hmN hiN hlN hn0 hs0 hs1 qz23 qz25 qz27 qz28 hret qz33 qz34 qz35 qz36 qz37
    k_steps
    rename_i aR _ lR _ _ _ _ _ _ _ _ _ _ aL _ lL _ _ _ _ _ _ _ _ _ _ _ _ _ _ _ _ _ _ _ _ _ _ _ _ _ _ _ _ _ _ _ _ _ _ _ _ _ aE _ l1E hE FE NE
    rename_i qz38 qz39 qz40 qz41 qz42 qz43 qz44 qz45 qz46 qz47 qz48 qz49 qz50 qz51 qz52 qz53 qz54 qz55 qz56 qz57 qz58 qz59 qz60 qz61 qz62 qz63 qz64 qz65 qz66 qz67 qz68 qz69 qz70 qz71 qz72 qz73 qz74 qz75 qz76 qz77 qz78 qz79 qz80 qz81 qz82 qz83 qz84 qz85 qz86 qz87
    revert hmN hiN hlN hn0 hs0 hs1 qz23 qz25 qz27 qz28 hret qz35 qz36 qz37 lR qz42 qz45 qz48 lL qz54 qz57 qz59 qz62 qz66 qz69 qz71 qz74 qz78 qz81 qz83 qz86 l1E FE NE
    exact hPB2 tk aR qz40 qz43 qz46 aL qz51 qz53 qz60 qz63 qz65 qz72 qz75 qz77 qz84 aE hE
noncomputable def pB2 (v : Vars) : Prop := ktB1.1 (v.N 0) (v.N 1) (v.N 2) (v.N 3) (v.N 4) (v.N 5) (v.N 6) (v.O 0) (v.N 7) (v.N 8) (v.O 1) (v.N 9) (v.N 10) (v.O 2) (v.N 11) (v.N 12) (v.H 0)
@[irreducible] noncomputable def vB2 : Vars := hk pB2
noncomputable def ktB2 : {P : (yH→yN→yVS→yM→yH→yN→yN→yO→yMO→yVS→yVS→yVS→yN→yN→yN→yR→yI→yN→yIS→yN→yN→yN→yN→yN→yN→yN→yN→yN→yN→yIN→yIN→yI→yI→yI→yI→yI→yI→Prop) × (yH→yN→yM→yH→yN→yVS→yVS→yVS→yN→yN→yN→yR→Prop) // (∀ x1 x2 x3 x4 x5 x6 x7 x8 x9 x10 x11 x12 x13 x14 x15 x16 x17 x18 x19 x20 x21 x22 x23 x24 x25 x26 x27 x28 x29 x30 x31 x32 x33 x34 x35 x36 x37, P.1 x1 x2 x3 x4 x5 x6 x7 x8 x9 x10 x11 x12 x13 x14 x15 x16 x17 x18 x19 x20 x21 x22 x23 x24 x25 x26 x27 x28 x29 x30 x31 x32 x33 x34 x35 x36 x37) → (∀ x1 x2 x3 x4 x5 x6 x7 x8 x9 x10 x11 x12, P.2 x1 x2 x3 x4 x5 x6 x7 x8 x9 x10 x11 x12) → pB2 vB2} := by
  refine' ⟨((_ : yW→yN→yVS→yIS→yN→yI→yR→yN→yN→yN→yH→yN→yVS→yM→yH→yN→yN→yO→yMO→yVS→yVS→yVS→yN→yN→yN→yR→yI→yN→yIS→yN→yN→yN→yN→yN→yN→yN→yN→yN→yN→yIN→yIN→yI→yI→yI→yI→yI→yI→Prop) (vB1.W 0) (vB1.N 0) (vB1.VS 0) (vB1.IS 0) (vB1.N 1) (vB1.I 0) (vB1.R 0) (vB2.N 1) (vB2.N 5) (vB2.N 12), (_ : yW→yN→yVS→yIS→yN→yI→yR→yN→yN→yN→yH→yN→yM→yH→yN→yVS→yVS→yVS→yN→yN→yN→yR→Prop) (vB1.W 0) (vB1.N 0) (vB1.VS 0) (vB1.IS 0) (vB1.N 1) (vB1.I 0) (vB1.R 0) (vB2.N 1) (vB2.N 5) (vB2.N 12)), fun hPB3 hPB4 => ?main⟩
  case main =>
    intro hmN hiN hlN hn0 hs0 hs1 qz23 qz25 qz27 qz28 hret qz35 qz36 qz37 lR qz42 qz45 qz48 lL qz54 qz57 qz59 qz62 qz66 qz69 qz71 qz74 qz78 qz81 qz83 qz86 l1E FE NE
    generalize vB1.W 0 = w, vB1.N 0 = aN, vB1.VS 0 = vN, vB1.IS 0 = ns, vB1.N 1 = nN, vB1.I 0 = sp, vB1.R 0 = news, vB2.N 1 = aR, vB2.N 5 = aL, vB2.N 12 = aE at *
    refine halt_out ?_
    refine' start_go (aR := aR) (aL := aL) (news := news) (wc := [(5, 0), (10, 1), (15, 2)]) (es := [Ent.zero, Ent.zero, Ent.zero]) (sp := sp) (w := w) NE ?hS ?mR ?mL ?old ?oR ?oL ?offE ?lts ?ens ?rvi ?go
    case hS => exact cons_sub (cons_sub (cons_sub (cons_sub (cons_sub (cons_sub (cons_drop (cons_sub (cons_sub (cons_sub (cons_drop (fun _ h => h)))))))))))
    case mR => k_mem
    case mL => k_mem
    case old => exact (cons_drop (cons_drop (cons_drop (cons_drop (cons_drop (cons_drop (cons_drop (cons_drop (cons_drop (fun _ h => h))))))))))
    case oR => exact (off_cons (by lia) (off_cons (by lia) (off_cons (by lia) (off_cons (by lia) (off_cons (by lia) (off_cons (by lia) (off_cons (by lia) (off_cons (by lia) (off_cons (by lia) (off_of lR (by lia)))))))))))
    case oL => exact (off_cons (by lia) (off_cons (by lia) (off_cons (by lia) (off_cons (by lia) (off_cons (by lia) (off_cons (by lia) (off_cons (by lia) (off_cons (by lia) (off_cons (by lia) (off_of lR (by lia)))))))))))
    case offE => exact fun p hp => Nat.ne_of_lt (all_of (by exact l1E) p hp)
    case lts => exact lts3 (.of (by k_mem) (by simp [light]) (by simp [light]) (by simp [light])) (.of (by k_mem) (by simp [light]) (by simp [light]) (by simp [light])) (.of (by k_mem) (by simp [light]) (by simp [light]) (by simp [light]))
    case ens => exact ens3 (.zero (by k_mem) (by k_mem) (by assumption) (by assumption)) (.zero (by k_mem) (by k_mem) (by assumption) (by assumption)) (.zero (by k_mem) (by k_mem) (by assumption) (by assumption))
    case rvi => exact ints3
    intro subS mR mL oldS offR offL offE hLsS hEsS rvi
    refine' Ct.use (c115p w _ _ _ _ _ _ _ _ _ _ _ _ sp (3 * (5 + 10 + 15 + sp)) _ _ _ _ [(5, 0), (10, 1), (15, 2)] [Ent.zero, Ent.zero, Ent.zero] _ _ ?hS ?off ?hT ?hL ?h1 ?h2 ?h3 ?h4 ?h5 ?h6 ?h7 ?h8 ?h9 ?h10 ?h11 ?hLs ?hEs ?hb ?hw ?ho) ?B FE ?X NE ?T ?hk ?hd ?hu ?_
    case B => k_asm
    case X => k_asm
    case T => k_asm
    case hk => rfl
    case hd => ktr_room
    case hu => ktr_units
    case hS => exact subS
    case off => exact offE
    case hT => k_mem
    case hL => exact mL
    case h1 => decide
    case h2 => decide
    case h3 => decide
    case h4 => decide
    case h5 => decide
    case h6 => decide
    case h7 => decide
    case h8 => decide
    case h9 => decide
    case h10 => decide
    case h11 => rfl
    case hLs => exact hLsS
    case hEs => exact hEsS
    case hb => intro e he; simp at he; subst he; exact Nat.zero_le _
    case hw => decide
    case ho => simp
    intro r' h' tk' nw' F' N' P'
    obtain ⟨evs', tl, rfl, rfl, hEs, hfr⟩ := P'
    k_steps
    rename Fr _ _ _ _ => F9
    rename News _ _ _ _ => N9
    have tlE : ∀ p ∈ tl, p.1 ≠ aE := fun p hp => Nat.ne_of_gt (hfr p hp).1
    have tlL : ∀ p ∈ tl, p.1 ≠ aL := fun p hp => Nat.ne_of_gt ((hfr p hp).2 _ mL)
    have tlR : ∀ p ∈ tl, p.1 ≠ aR := fun p hp => Nat.ne_of_gt ((hfr p hp).2 _ mR)
    have t0 : Turn w sp ns aN vN nN news (Mo.init sp) ns vN _ _ _ aR aL aE _ := ⟨hiN, hn0, rfl, good_init sp, by show 3 + _ ≤ _; lia, rvi, hLsS.mono (fun p hp => List.mem_append.mpr (.inr hp)), hEs, by lia, by lia, off_app tlR offR, off_app tlL offL, off_app tlE (fun p hp => offE p (subS p hp)), List.mem_append.mpr (.inr (oldS _ hmN)), fun p hp => List.mem_append.mpr (.inr (oldS p hp))⟩
    have sub0 : News _ _ _ _ := fun p hp => N9 p (sub_start mR mL subS p hp)
    refine list_inv (vs := vN) (st := [Str.ofString "y", Str.ofString "side", Str.ofString "one", Str.ofString "other", Str.ofString "corner", Str.ofString "grey"]) (PolJ w sp ns aN vN nN news aR aL aE) (by rfl) F9 sub0 (.tail _ (.tail _ (.tail _ t0.nums))) rfl rfl ⟨Mo.init sp, ns, _, _, _, _, _, _, _, rfl, t0⟩ ?_ ?_ ?_
    · rintro r u nw ⟨m, ns', rvs, lvs, evs, nR, nL, nE, rest, rfl, t⟩
      exact .tail _ (.tail _ (.tail _ t.nums))
    · intro v r u nw h tk I oI hJ91 hcl hne F'' N''
      refine hideG fun nG => ?_
      obtain ⟨m, ns', rvs, lvs, evs, nR, nL, nE, rest, rfl, t⟩ := hJ91
      obtain ⟨vals, nn, run, good, len, ring, lts, ens, ap1, ap2, offR, offL, offE, nums, old⟩ := t
      (try clear F9)
      (try clear N9)
      (try clear sub0)
      (try clear FE)
      (try clear NE)
      obtain ⟨y, ty, ns2, rfl, rfl, vals2⟩ := ints_cons vals
      have hy : 0 ≤ y := nn _ (.head _)
      have k3 := good.k3
      have e1 : m.ring.getD (y.fmod ↑m.ring.length).toNat 0 = one m y := raw_one good y
      have e2 : m.ring.getD ((y.fmod ↑m.ring.length + 1).fmod ↑m.ring.length).toNat 0 = other m y := raw_other good y
      have m1 := good.rng _ (one_mem good y)
      have m2 := good.rng _ (other_mem good y)
      have wl := good.wl
      have wb1 := good.wb _ (wcAt_mem good (one_mem good y))
      have wb2 := good.wb _ (wcAt_mem good (other_mem good y))
      obtain ⟨u1, hu1, b1, nb1, q11, q12, q13, rfl, hb1⟩ := lts.at (i := (one m y).toNat) (by lia)
      obtain ⟨u2, hu2, b2, nb2, q21, q22, q23, rfl, hb2⟩ := lts.at (i := (other m y).toNat) (by lia)
      obtain ⟨w1, hw1⟩ : ∃ x, x = wcAt m (one m y) := ⟨_, rfl⟩
      obtain ⟨w2, hw2⟩ : ∃ x, x = wcAt m (other m y) := ⟨_, rfl⟩
      have hb1' : (b1, ({ cls := .type "list", data := .seq #[.int (light sp w1.1 w1.2).1 q11, .int (light sp w1.1 w1.2).2.1 q12, .int (light sp w1.1 w1.2).2.2 q13] nb1 } : Obj)) ∈ rest := by rw [hw1]; exact hb1
      have hb2' : (b2, ({ cls := .type "list", data := .seq #[.int (light sp w2.1 w2.2).1 q21, .int (light sp w2.1 w2.2).2.1 q22, .int (light sp w2.1 w2.2).2.2 q23] nb2 } : Obj)) ∈ rest := by rw [hw2]; exact hb2
      (try clear hb1)
      (try clear hb2)
      rw [← hw1] at wb1
      rw [← hw2] at wb2
      obtain ⟨l11, hl11⟩ : ∃ x, x = (light sp w1.1 w1.2).1 := ⟨_, rfl⟩
      obtain ⟨l12, hl12⟩ : ∃ x, x = (light sp w1.1 w1.2).2.1 := ⟨_, rfl⟩
      obtain ⟨l13, hl13⟩ : ∃ x, x = (light sp w1.1 w1.2).2.2 := ⟨_, rfl⟩
      obtain ⟨l21, hl21⟩ : ∃ x, x = (light sp w2.1 w2.2).1 := ⟨_, rfl⟩
      obtain ⟨l22, hl22⟩ : ∃ x, x = (light sp w2.1 w2.2).2.1 := ⟨_, rfl⟩
      obtain ⟨l23, hl23⟩ : ∃ x, x = (light sp w2.1 w2.2).2.2 := ⟨_, rfl⟩
      rw [← hl11, ← hl12, ← hl13] at hb1'
      rw [← hl21, ← hl22, ← hl23] at hb2'
      have r10 : 0 ≤ m.ring.getD (y.fmod ↑m.ring.length).toNat 0 := by rw [e1]; exact m1.1
      have r11 : m.ring.getD (y.fmod ↑m.ring.length).toNat 0 < 2 ^ 20 := by rw [e1]; lia
      have r1u : lvs[(m.ring.getD (y.fmod ↑m.ring.length).toNat 0).toNat]? = some (Value.ref b1) := by rw [e1]; exact hu1
      have r20 : 0 ≤ m.ring.getD ((y.fmod ↑m.ring.length + 1).fmod ↑m.ring.length).toNat 0 := by rw [e2]; exact m2.1
      have r21 : m.ring.getD ((y.fmod ↑m.ring.length + 1).fmod ↑m.ring.length).toNat 0 < 2 ^ 20 := by rw [e2]; lia
      have r2u : lvs[(m.ring.getD ((y.fmod ↑m.ring.length + 1).fmod ↑m.ring.length).toNat 0).toNat]? = some (Value.ref b2) := by rw [e2]; exact hu2
      (try clear hu1)
      (try clear hu2)
      refine nG ?_
      (try clear nG)
      rename_i qz88 qz89 qz90
      revert qz25 qz27 qz28 qz35 qz37 hmN hiN hlN hn0 hs0 hs1 qz23 hret qz36 l1E F'' hne N'' good ring lts ens ap1 ap2 offR offL offE nums old vals2 nn run len vals k3 e1 e2 m1 m2 wl wb1 hw1 wb2 hw2 hl11 hl12 hb1' hl13 hl21 hl22 hb2' hl23 r10 r11 r1u r20 r21 r2u
      exact hPB3 h' tk' r u h tk I oI m rvs lvs evs nR nL nE rest y ty ns2 b1 nb1 q11 q12 q13 b2 nb2 q21 q22 q23 w1 w2 l11 l12 l13 l21 l22 l23
    · intro u nw h tk hJ92 F'' N''
      refine hideG fun nG => ?_
      obtain ⟨m, ns', rvs, lvs, evs, nR, nL, nE, rest, rfl, t⟩ := hJ92
      obtain ⟨vals, nn, run, good, len, ring, lts, ens, ap1, ap2, offR, offL, offE, nums, old⟩ := t
      (try clear F9)
      (try clear N9)
      (try clear sub0)
      (try clear FE)
      (try clear NE)
      cases vals
      have run' : m = runM sp ns := run
      subst run'
      refine nG ?_
      (try clear nG)
      rename_i qz91 qz92 qz93
      revert qz25 qz27 qz28 qz35 qz37 hmN hiN hlN hn0 hs0 hs1 qz23 hret qz36 F'' N'' old ring lts ens
      exact hPB4 h' tk' u h tk rvs lvs evs nR nL nE rest
noncomputable def pB3 (v : Vars) : Prop := ktB2.1.1 (v.H 0) (v.N 0) (v.VS 0) (v.M 0) (v.H 1) (v.N 1) (v.N 2) (v.O 0) (v.MO 0) (v.VS 1) (v.VS 2) (v.VS 3) (v.N 3) (v.N 4) (v.N 5) (v.R 0) (v.I 0) (v.N 6) (v.IS 0) (v.N 7) (v.N 8) (v.N 9) (v.N 10) (v.N 11) (v.N 12) (v.N 13) (v.N 14) (v.N 15) (v.N 16) (v.IN 0) (v.IN 1) (v.I 1) (v.I 2) (v.I 3) (v.I 4) (v.I 5) (v.I 6)
@[irreducible] noncomputable def vB3 : Vars := hk pB3
noncomputable def ktB3 : {P : (yH→yN→yN→yN→yN→yH→yN→yH→yN→yH→yN→yH→yH→yN→yN→yR→yR→Prop) // (∀ x1 x2 x3 x4 x5 x6 x7 x8 x9 x10 x11 x12 x13 x14 x15 x16 x17, P x1 x2 x3 x4 x5 x6 x7 x8 x9 x10 x11 x12 x13 x14 x15 x16 x17) → pB3 vB3} := by
  refine' ⟨(_ : yW→yI→yR→yN→yN→yN→yN→yN→yO→yMO→yVS→yVS→yVS→yN→yN→yN→yR→yI→yN→yN→yIN→yIN→yI→yI→yI→yI→yI→yI→yH→yN→yN→yN→yN→yH→yN→yH→yN→yH→yN→yH→yH→yN→yN→yR→yR→Prop) (vB1.W 0) (vB1.I 0) (vB1.R 0) (vB2.N 1) (vB2.N 5) (vB2.N 12) (vB3.N 1) (vB3.N 2) (vB3.O 0) (vB3.MO 0) (vB3.VS 1) (vB3.VS 2) (vB3.VS 3) (vB3.N 3) (vB3.N 4) (vB3.N 5) (vB3.R 0) (vB3.I 0) (vB3.N 7) (vB3.N 12) (vB3.IN 0) (vB3.IN 1) (vB3.I 1) (vB3.I 2) (vB3.I 3) (vB3.I 4) (vB3.I 5) (vB3.I 6), fun hPB5 => ?main⟩
  case main =>
    intro qz25 qz27 qz28 qz35 qz37 hmN hiN hlN hn0 hs0 hs1 qz23 hret qz36 l1E F'' hne N'' good ring lts ens ap1 ap2 offR offL offE nums old vals2 nn run len vals k3 e1 e2 m1 m2 wl wb1 hw1 wb2 hw2 hl11 hl12 hb1' hl13 hl21 hl22 hb2' hl23 r10 r11 r1u r20 r21 r2u
    generalize vB1.W 0 = w, vB1.I 0 = sp, vB1.R 0 = news, vB2.N 1 = aR, vB2.N 5 = aL, vB2.N 12 = aE, vB3.N 1 = tk, vB3.N 2 = I, vB3.O 0 = oI, vB3.MO 0 = m, vB3.VS 1 = rvs, vB3.VS 2 = lvs, vB3.VS 3 = evs, vB3.N 3 = nR, vB3.N 4 = nL, vB3.N 5 = nE, vB3.R 0 = rest, vB3.I 0 = y, vB3.N 7 = b1, vB3.N 12 = b2, vB3.IN 0 = w1, vB3.IN 1 = w2, vB3.I 1 = l11, vB3.I 2 = l12, vB3.I 3 = l13, vB3.I 4 = l21, vB3.I 5 = l22, vB3.I 6 = l23 at *
    k_steps
    all_goals first | (exfalso; lia) | skip
    rename_i M1 tM1 kM1 aM1 bM1 hh1 M2 tM2 kM2 aM2 bM2 hh2 F5 N5
    have wc1 := wb1.2.2
    have wc2 := wb2.2.2
    have hM1 : M1 = w1.1 := by
      (try clear F5)
      (try clear N5)
      unfold light at hl11 hl12 hl13
      obtain h | h | h : w1.2 = 0 ∨ w1.2 = 1 ∨ w1.2 = 2 := by lia
      all_goals (rw [h] at hl11 hl12 hl13; simp at hl11 hl12 hl13; lia)
    have hM2 : M2 = w2.1 := by
      (try clear F5)
      (try clear N5)
      unfold light at hl21 hl22 hl23
      obtain h | h | h : w2.2 = 0 ∨ w2.2 = 1 ∨ w2.2 = 2 := by lia
      all_goals (rw [h] at hl21 hl22 hl23; simp at hl21 hl22 hl23; lia)
    (try clear aM1)
    (try clear bM1)
    (try clear aM2)
    (try clear bM2)
    subst hM1
    subst hM2
    have e3 : (y.fdiv 7).fmod 64 = wnew y := by unfold wnew; rw [Int.fdiv_eq_ediv_of_nonneg _ (by lia), Int.fmod_eq_emod_of_nonneg _ (by lia)]
    have hcn : w1.2 ≠ w2.2 := by rw [hw1, hw2]; exact col_ne good y
    have T := third_ok sp w1.1 w2.1 (wnew y) w1.2 w2.2 hs0 hs1 ⟨wb1.1, wb1.2.1⟩ ⟨wb2.1, wb2.2.1⟩ (wnew_b y) wc1 wc2 hcn
    dsimp only at T
    rw [← hl11, ← hl12, ← hl13, ← hl21, ← hl22, ← hl23, ← e3] at T
    have wn0 : 0 ≤ (y.fdiv 7).fmod 64 ∧ (y.fdiv 7).fmod 64 < 64 := by rw [e3]; exact wnew_b y
    have lb1 : (0 ≤ l11 ∧ l11 < 1000) ∧ (0 ≤ l12 ∧ l12 < 1000) ∧ (0 ≤ l13 ∧ l13 < 1000) := by rw [hl11, hl12, hl13]; exact light_b hs0 hs1 wb1.1 wb1.2.1
    have lb2 : (0 ≤ l21 ∧ l21 < 1000) ∧ (0 ≤ l22 ∧ l22 < 1000) ∧ (0 ≤ l23 ∧ l23 < 1000) := by rw [hl21, hl22, hl23]; exact light_b hs0 hs1 wb2.1 wb2.2.1
    refine halt_out ?_
    refine' Ct.use (c110 w b1 b2 l11 l12 l13 l21 l22 l23 _ _ _ _ _ _ _ _ _ _ _ ?h1 ?h2 lb1.1.1 lb1.2.1.1 lb1.2.2.1 lb2.1.1 lb2.2.1.1 lb2.2.2.1 ?g0 lb1.1.2 lb1.2.1.2 lb1.2.2.2 lb2.1.2 lb2.2.1.2 lb2.2.2.2 ?g1 T.1 T.2.1 T.2.2.1) ?B F5 ?X N5 ?T ?hk ?hd ?hu ?_
    case h1 => k_mem
    case h2 => k_mem
    case g0 => lia
    case g1 => lia
    case B => k_asm
    case X => k_asm
    case T => k_asm
    case hk => rfl
    case hd => ktr_room
    case hu => ktr_units
    intro r' h' tk' nw' F' N' P'
    rw [T.2.2.2.1, T.2.2.2.2.1, T.2.2.2.2.2] at P'
    obtain ⟨aT, nT, t1, t2, t3, rfl, offT, rfl⟩ := P'
    (try clear F5)
    (try clear N5)
    (try clear T)
    have lc : light sp ((y.fdiv 7).fmod 64) (3 - w1.2 - w2.2) = light sp (wnew y) (cnew m y) := by rw [e3, hw1, hw2]; rfl
    rw [lc] at N'
    obtain ⟨oT, hoT⟩ : ∃ x : Obj, x = { cls := .type "list", data := .seq #[.int (light sp (wnew y) (cnew m y)).1 t1, .int (light sp (wnew y) (cnew m y)).2.1 t2, .int (light sp (wnew y) (cnew m y)).2.2 t3] nT } := ⟨_, rfl⟩
    rw [← hoT] at N'
    obtain ⟨S1, hS1⟩ : ∃ x, x = (aT, oT) :: rest := ⟨_, rfl⟩
    obtain ⟨rest1, hr1⟩ : ∃ x, x = (I, oI) :: S1 := ⟨_, rfl⟩
    have IR : I ≠ aR := fun e => hne _ (.tail _ (.head _)) e.symm
    have IL : I ≠ aL := fun e => hne _ (.tail _ (.tail _ (.head _))) e.symm
    have IE : I ≠ aE := fun e => hne _ (.head _) e.symm
    have TI : aT ≠ I := fun e => offT _ (.head _) e.symm
    have TE : aT ≠ aE := fun e => offT _ (.tail _ (.head _)) e.symm
    have TR : aT ≠ aR := fun e => offT _ (.tail _ (.tail _ (.head _))) e.symm
    have TL : aT ≠ aL := fun e => offT _ (.tail _ (.tail _ (.tail _ (.head _)))) e.symm
    have offI1 : ∀ p ∈ S1, p.1 ≠ I := by rw [hS1]; exact off_cons TI (fun p hp => hne p (.tail _ (.tail _ (.tail _ hp))))
    have offR1 : ∀ p ∈ rest1, p.1 ≠ aR := by rw [hr1, hS1]; exact off_cons IR (off_cons TR offR)
    have offL1 : ∀ p ∈ rest1, p.1 ≠ aL := by rw [hr1, hS1]; exact off_cons IL (off_cons TL offL)
    have offE1 : ∀ p ∈ rest1, p.1 ≠ aE := by rw [hr1, hS1]; exact off_cons IE (off_cons TE offE)
    have I1 : (I, oI) ∈ rest1 := by rw [hr1]; exact .head _
    have SR1 : ∀ p ∈ S1, p ∈ rest1 := by rw [hr1]; exact fun p hp => .tail _ hp
    have RS1 : ∀ p ∈ rest, p ∈ S1 := by rw [hS1]; exact fun p hp => .tail _ hp
    have Lts1 : Lts sp (m.wc ++ [(wnew y, cnew m y)]) (lvs ++ [.ref aT]) S1 := (lts.mono RS1).snoc (.of (by rw [hS1, hoT]; exact .head _) rfl rfl rfl)
    have Ens1 : Ens w m.es evs S1 := ens.mono RS1
    have el := good.el
    have len' : m.ring.length ≤ 9 := by lia
    have nums1 := RS1 _ nums
    have old1 : ∀ p ∈ news, p ∈ S1 := fun p hp => RS1 p (old p hp)
    have N1 : News _ _ _ ((aE, ({ cls := .type "list", data := .seq evs.toArray nE } : Obj)) :: (aR, ({ cls := .type "list", data := .seq rvs.toArray nR } : Obj)) :: (aL, ({ cls := .type "list", data := .seq lvs.toArray nL } : Obj)) :: rest1) := fun p hp => N' p (by
      rw [hr1, hS1] at hp
      rcases List.mem_cons.mp hp with rfl | hp
      · exact .tail _ (.tail _ (.head _))
      rcases List.mem_cons.mp hp with rfl | hp
      · exact .tail _ (.tail _ (.tail _ (.head _)))
      rcases List.mem_cons.mp hp with rfl | hp
      · exact .tail _ (.tail _ (.tail _ (.tail _ (.head _))))
      rcases List.mem_cons.mp hp with rfl | hp
      · exact .tail _ (.head _)
      rcases List.mem_cons.mp hp with rfl | hp
      · exact .head _
      · exact .tail _ (.tail _ (.tail _ (.tail _ (.tail _ hp)))))
    have hrl : rvs.length = m.ring.length := ints_len ring
    have szL : lvs.toArray.size ≤ sizeLine := by rw [List.size_toArray, PySem.sizeLine_eq, lts.1]; lia
    have szE : evs.toArray.size ≤ sizeLine := by rw [List.size_toArray, PySem.sizeLine_eq, ens.1]; lia
    have szR : rvs.length ≤ sizeLine := by rw [PySem.sizeLine_eq]; lia
    (try clear N')
    (try clear offT)
    (try clear hne)
    (try clear hr1)
    (try clear hS1)
    (try clear hoT)
    (try clear IR)
    (try clear IL)
    (try clear IE)
    (try clear TI)
    (try clear TE)
    (try clear TR)
    (try clear TL)
    (try clear offR)
    (try clear offL)
    (try clear offE)
    (try clear r1u)
    (try clear r2u)
    (try clear r10)
    (try clear r11)
    (try clear r20)
    (try clear r21)
    (try clear lc)
    (try clear hb1')
    (try clear hb2')
    (try clear nums)
    (try clear old)
    (try clear lts)
    (try clear ens)
    rename_i qz94 qz95 qz96 qz97 qz98 qz99 qz100 qz101 qz102 qz103 qz104
    revert qz25 qz27 qz28 qz35 qz37 hiN hlN hn0 vals2 hmN hs0 hs1 qz23 hret qz36 l1E good ring ap1 ap2 nn run len vals k3 e1 e2 m1 m2 wl hw1 hw2 hcn F' offI1 offR1 offL1 offE1 I1 SR1 Lts1 Ens1 el len' nums1 old1 N1 szL szE szR
    exact hPB5 qz94 qz95 qz98 qz100 qz102 qz103 tk qz104 kM1 hh1 kM2 hh2 h' tk' aT S1 rest1
noncomputable def pB5 (v : Vars) : Prop := ktB3.1 (v.H 0) (v.N 0) (v.N 1) (v.N 2) (v.N 3) (v.H 1) (v.N 4) (v.H 2) (v.N 5) (v.H 3) (v.N 6) (v.H 4) (v.H 5) (v.N 7) (v.N 8) (v.R 0) (v.R 1)
@[irreducible] noncomputable def vB5 : Vars := hk pB5
noncomputable def ktB5 : {P : (yN→yH→yH→yN→yVS→yR→Prop) // (∀ x1 x2 x3 x4 x5 x6, P x1 x2 x3 x4 x5 x6) → pB5 vB5} := by
  refine' ⟨(_ : yW→yI→yN→yN→yN→yN→yO→yMO→yVS→yVS→yVS→yN→yN→yN→yI→yN→yIN→yIN→yN→yN→yR→yN→yH→yH→yN→yVS→yR→Prop) (vB1.W 0) (vB1.I 0) (vB2.N 1) (vB2.N 5) (vB2.N 12) (vB3.N 2) (vB3.O 0) (vB3.MO 0) (vB3.VS 1) (vB3.VS 2) (vB3.VS 3) (vB3.N 3) (vB3.N 4) (vB3.N 5) (vB3.I 0) (vB3.N 6) (vB3.IN 0) (vB3.IN 1) (vB5.N 4) (vB5.N 8) (vB5.R 0), fun hPB6 => ?main⟩
  case main =>
    intro qz25 qz27 qz28 qz35 qz37 hiN hlN hn0 vals2 hmN hs0 hs1 qz23 hret qz36 l1E good ring ap1 ap2 nn run len vals k3 e1 e2 m1 m2 wl hw1 hw2 hcn Fq4 offI1 offR1 offL1 offE1 I1 SR1 Lts1 Ens1 el len' nums1 old1 N1 szL szE szR
    generalize vB1.W 0 = w, vB1.I 0 = sp, vB2.N 1 = aR, vB2.N 5 = aL, vB2.N 12 = aE, vB3.N 2 = I, vB3.O 0 = oI, vB3.MO 0 = m, vB3.VS 1 = rvs, vB3.VS 2 = lvs, vB3.VS 3 = evs, vB3.N 3 = nR, vB3.N 4 = nL, vB3.N 5 = nE, vB3.I 0 = y, vB3.N 6 = ty, vB3.IN 0 = w1, vB3.IN 1 = w2, vB5.N 4 = tk, vB5.N 8 = aT, vB5.R 0 = S1 at *
    k_steps
    simp only [List.cons_append, List.nil_append]
    k_steps
    rename_i d2 _ o2 lo2 _ _ hi2 _ l1d D2 _ l1D _ aT3 _ F6 N6 l1T
    rw [e1, e2, List.push_toArray, List.push_toArray] at N6
    refine halt_out ?_
    have hb3 : ∀ e ∈ m.es ++ [Ent.zero], e.c.length ≤ 1000 := fun e he => by
      rcases List.mem_append.mp he with he | he
      · have := good.eb e he; lia
      · rw [List.mem_singleton.mp he]; exact Nat.zero_le _
    have hw3 : ∀ p ∈ m.wc ++ [(wnew y, cnew m y)], p.2 < 3 := fun p hp => by
      rcases List.mem_append.mp hp with hp | hp
      · exact (good.wb p hp).2.2
      · rw [List.mem_singleton.mp hp]
        have : cnew m y = 3 - w1.2 - w2.2 := by rw [hw1, hw2]; rfl
        show cnew m y < 3
        lia
    have on := one_ne good y
    obtain ⟨S2, hS2r, hD2, hd2, hSS, hS2⟩ := get3 N6 SR1
    refine' Ct.use (Ct.sub (c115p w aE aT3 aL (evs ++ [.ref D2]) (lvs ++ [.ref aT]) _ _ _ (one m y) (other m y) m.ring.length y sp _ _ _ _ ty (m.wc ++ [(wnew y, cnew m y)]) (m.es ++ [Ent.zero]) _ S2 ?hS ?off (.head _) (.tail _ (.tail _ (.tail _ (.tail _ (.head _))))) on ?h2 ?h3 m1.1 m2.1 ?h6 ?h7 ?h8 ?h9 ?h10 ?h11 ?hLs ?hEs hb3 hw3 ?ho) ?sub) ?B F6 ?X N6 ?T ?hk ?hd ?hu ?_
    case sub => exact swap4
    case B => k_asm
    case X => k_asm
    case T => k_asm
    case hk => rfl
    case hd => ktr_room
    case hu => ktr_units
    case hS => exact hS2r
    case off => exact off_cons (by lia) (off_cons (by lia) (off_cons (by lia) (off_cons (by lia) (off_cons (by lia) offE1))))
    case h2 => lia
    case h3 => lia
    case h6 => lia
    case h7 => simp; lia
    case h8 => simp; lia
    case h9 => simp; lia
    case h10 => simp; lia
    case h11 => simp; lia
    case hLs => exact Lts1.mono hSS
    case hEs => exact (Ens1.mono hSS).snoc (.zero hD2 hd2 lo2 hi2)
    case ho =>
      rw [getD_app1 (by lia), getD_app1 (by lia), Int.toNat_natCast, ← wl, getD_app2]
    intro r' h' tk' nw' F' N' P'
    obtain ⟨evs3, tl3, rfl, rfl, hEs3, hfr3⟩ := P'
    have TLR : ∀ p ∈ tl3, p.1 ≠ aR := fun p hp => Nat.ne_of_gt ((hfr3 p hp).2 _ (.tail _ (.tail _ (.tail _ (.head _)))))
    have TLL : ∀ p ∈ tl3, p.1 ≠ aL := fun p hp => Nat.ne_of_gt ((hfr3 p hp).2 _ (.tail _ (.tail _ (.tail _ (.tail _ (.head _))))))
    have TLI : ∀ p ∈ tl3, p.1 ≠ I := fun p hp => Nat.ne_of_gt ((hfr3 p hp).2 _ (.tail _ (.tail _ (.tail _ (.tail _ (.tail _ I1))))))
    have TLE : ∀ p ∈ tl3, p.1 ≠ aE := fun p hp => Nat.ne_of_gt (hfr3 p hp).1
    have offRr : ∀ p ∈ S2, p.1 ≠ aR := hS2 aR (by refine neN ?_; dsimp only; lia) (by refine neN ?_; dsimp only; lia) (fun p hp => offR1 p (SR1 p hp))
    have offLr : ∀ p ∈ S2, p.1 ≠ aL := hS2 aL (by refine neN ?_; dsimp only; lia) (by refine neN ?_; dsimp only; lia) (fun p hp => offL1 p (SR1 p hp))
    have offEr : ∀ p ∈ S2, p.1 ≠ aE := hS2 aE (by refine neN ?_; dsimp only; lia) (by refine neN ?_; dsimp only; lia) (fun p hp => offE1 p (SR1 p hp))
    have offIr : ∀ p ∈ S2, p.1 ≠ I := hS2 I (Nat.ne_of_gt (all_of l1D.2.2.2.2 _ I1)) (Nat.ne_of_gt (all_of l1d.2.2.2 _ I1)) offI1
    obtain ⟨S4, hS4⟩ : ∃ x, x = tl3 ++ S2 := ⟨_, rfl⟩
    rw [← hS4] at hEs3
    have IR : I ≠ aR := offR1 _ I1
    have IL : I ≠ aL := offL1 _ I1
    have IE : I ≠ aE := offE1 _ I1
    have o4R : ∀ p ∈ S4, p.1 ≠ aR := by rw [hS4]; exact off_app TLR offRr
    have o4L : ∀ p ∈ S4, p.1 ≠ aL := by rw [hS4]; exact off_app TLL offLr
    have o4E : ∀ p ∈ S4, p.1 ≠ aE := by rw [hS4]; exact off_app TLE offEr
    have o4I : ∀ p ∈ S4, p.1 ≠ I := by rw [hS4]; exact off_app TLI offIr
    have s14 : ∀ p ∈ S1, p ∈ S4 := by rw [hS4]; exact fun p hp => List.mem_append.mpr (.inr (hSS p hp))
    have N7 : News _ _ _ ((aE, ({ cls := .type "list", data := .seq evs3.toArray (nE + 1) } : Obj)) :: (aR, ({ cls := .type "list", data := .seq rvs.toArray nR } : Obj)) :: (aL, ({ cls := .type "list", data := .seq (lvs ++ [Value.ref aT]).toArray (nL + 1) } : Obj)) :: (I, oI) :: S4) := fun p hp => N' p (by
      rw [hS4] at hp
      rcases List.mem_cons.mp hp with rfl | hp
      · exact .head _
      refine .tail _ (List.mem_append.mpr ?_)
      rcases List.mem_cons.mp hp with rfl | hp
      · exact .inr (.tail _ (.tail _ (.tail _ (.head _))))
      rcases List.mem_cons.mp hp with rfl | hp
      · exact .inr (.tail _ (.tail _ (.tail _ (.tail _ (.head _)))))
      rcases List.mem_cons.mp hp with rfl | hp
      · exact .inr (.tail _ (.tail _ (.tail _ (.tail _ (.tail _ I1)))))
      rcases List.mem_append.mp hp with hp | hp
      · exact .inl hp
      · exact .inr (hS2r p hp))
    have offRI : ∀ p ∈ (I, oI) :: S4, p.1 ≠ aR := off_cons IR o4R
    have insF : Builtin.List.listFitsIndex (y.fmod ↑m.ring.length + 1) = true := by
      have hs := raw_side good y
      have hs2 := side_lt good y
      have h0 := Int.emod_nonneg y (by lia : (m.ring.length : Int) ≠ 0)
      have h1 := Int.emod_lt_of_pos y (by lia : (0 : Int) < m.ring.length)
      rw [Int.fmod_eq_emod_of_nonneg _ (by lia)]
      unfold Builtin.List.listFitsIndex
      simp only [Bool.and_eq_true, decide_eq_true_eq]
      lia
    (try clear N')
    (try clear N6)
    (try clear F6)
    (try clear TLR)
    (try clear TLL)
    (try clear TLI)
    (try clear TLE)
    (try clear offRr)
    (try clear offLr)
    (try clear offEr)
    (try clear offIr)
    (try clear hS4)
    (try clear hS2)
    (try clear hSS)
    (try clear hd2)
    (try clear hD2)
    (try clear hS2r)
    rename_i qz105 qz106 qz107 qz108 qz109 qz110 qz111 qz112 qz113
    revert qz25 qz27 qz28 qz35 qz37 hiN hlN hn0 vals2 hmN hs0 hs1 qz23 hret qz36 l1E good ring ap1 ap2 nn run len k3 Lts1 nums1 old1 szR F' hEs3 IR IL IE o4R o4L o4E o4I s14 N7 offRI insF
    exact hPB6 tk qz113 h' tk' evs3 S4
noncomputable def pB6 (v : Vars) : Prop := ktB5.1 (v.N 0) (v.H 0) (v.H 1) (v.N 1) (v.VS 0) (v.R 0)
@[irreducible] noncomputable def vB6 : Vars := hk pB6
theorem tB6 : pB6 vB6 := by
  intro qz25 qz27 qz28 qz35 qz37 hiN hlN hn0 vals2 hmN hs0 hs1 qz23 hret qz36 l1E good ring ap1 ap2 nn run len k3 Lts1 nums1 old1 szR F' hEs3 IR IL IE o4R o4L o4E o4I s14 N7 offRI insF
  generalize vB1.I 0 = sp, vB3.MO 0 = m, vB3.VS 1 = rvs, vB3.I 0 = y, vB3.IS 0 = ns2, vB6.VS 0 = evs3, vB6.R 0 = S4 at *
  k_steps
  simp only [List.cons_append, List.nil_append]
  k_steps
  rename_i h8 F8 N8
  have hlen : (stepM sp m y).ring.length = m.ring.length + 1 := by
    show (m.ring.insertIdx _ _).length = _
    have := side_lt good y
    rw [List.length_insertIdx_of_le_length (by lia)]
  have hring : ∀ tq, IntsAre (kl_ins rvs (y.fmod ↑m.ring.length + 1) (.int m.ring.length tq)) (stepM sp m y).ring := fun tq => ints_ins ring (side m y + 1) (by have := side_lt good y; lia) _ _ _ (by
    have hs := raw_side good y
    have h0 := Int.emod_nonneg y (by lia : (m.ring.length : Int) ≠ 0)
    rw [← hs]
    rw [Int.fmod_eq_emod_of_nonneg _ (by lia)]
    lia)
  exact TEnd.mk F8 N8 _ swap4 (off_cons IE.symm (off_cons IR.symm (off_cons IL.symm o4I))) (by repeat (first | exact off_base | refine off_if rfl ?_))
    ⟨stepM sp m y, ns2, _, _, evs3, _, _, _, S4, rfl, ⟨vals2, fun n hn => nn n (.tail _ hn), run, good_step sp good y, by rw [hlen]; rw [List.length_cons] at len; lia, hring _, Lts1.mono s14, hEs3, ap1, ap2, o4R, o4L, o4E, s14 _ nums1, fun p hp => s14 p (old1 p hp)⟩⟩
theorem aB6 : ∀ v, pB6 v := hkv tB6 (by unfold vB6; rfl)
theorem tB5 : pB5 vB5 := ktB5.2 (fun x1 x2 x3 x4 x5 x6 => aB6 {d0v with H := sl x2 [x3], N := sl x1 [x4], VS := sl x5 [], R := sl x6 []})
theorem aB5 : ∀ v, pB5 v := hkv tB5 (by unfold vB5; rfl)
theorem tB3 : pB3 vB3 := ktB3.2 (fun x1 x2 x3 x4 x5 x6 x7 x8 x9 x10 x11 x12 x13 x14 x15 x16 x17 => aB5 {d0v with H := sl x1 [x6, x8, x10, x12, x13], N := sl x2 [x3, x4, x5, x7, x9, x11, x14, x15], R := sl x16 [x17]})
theorem aB3 : ∀ v, pB3 v := hkv tB3 (by unfold vB3; rfl)
noncomputable def pB4 (v : Vars) : Prop := ktB2.1.2 (v.H 0) (v.N 0) (v.M 0) (v.H 1) (v.N 1) (v.VS 0) (v.VS 1) (v.VS 2) (v.N 2) (v.N 3) (v.N 4) (v.R 0)
@[irreducible] noncomputable def vB4 : Vars := hk pB4
theorem tB4 : pB4 vB4 := by
  intro qz25 qz27 qz28 qz35 qz37 hmN hiN hlN hn0 hs0 hs1 qz23 hret qz36 F'' N'' old ring lts ens
  generalize vB2.N 1 = aR, vB2.N 5 = aL, vB2.N 12 = aE, vB4.VS 0 = rvs, vB4.VS 1 = lvs, vB4.VS 2 = evs, vB4.N 2 = nR, vB4.N 3 = nL, vB4.N 4 = nE, vB4.R 0 = rest at *
  k_steps
  exact hret _ _ _ _ (by assumption) (by assumption) ⟨_, aR, aL, aE, _, nR, nL, nE, rvs, lvs, evs, rest, rfl, rfl, ring, lts, ens, old⟩
theorem aB4 : ∀ v, pB4 v := hkv tB4 (by unfold vB4; rfl)
theorem tB2 : pB2 vB2 := ktB2.2 (fun x1 x2 x3 x4 x5 x6 x7 x8 x9 x10 x11 x12 x13 x14 x15 x16 x17 x18 x19 x20 x21 x22 x23 x24 x25 x26 x27 x28 x29 x30 x31 x32 x33 x34 x35 x36 x37 => aB3 {d0v with H := sl x1 [x5], N := sl x2 [x6, x7, x13, x14, x15, x18, x20, x21, x22, x23, x24, x25, x26, x27, x28, x29], O := sl x8 [], VS := sl x3 [x10, x11, x12], I := sl x17 [x32, x33, x34, x35, x36, x37], IS := sl x19 [], M := sl x4 [], R := sl x16 [], MO := sl x9 [], IN := sl x30 [x31]}) (fun x1 x2 x3 x4 x5 x6 x7 x8 x9 x10 x11 x12 => aB4 {d0v with H := sl x1 [x4], N := sl x2 [x5, x9, x10, x11], VS := sl x6 [x7, x8], M := sl x3 [], R := sl x12 []})
theorem aB2 : ∀ v, pB2 v := hkv tB2 (by unfold vB2; rfl)
theorem tB1 : pB1 vB1 := ktB1.2 (fun x1 x2 x3 x4 x5 x6 x7 x8 x9 x10 x11 x12 x13 x14 x15 x16 x17 => aB2 {d0v with H := sl x17 [], N := sl x1 [x2, x3, x4, x5, x6, x7, x9, x10, x12, x13, x15, x16], O := sl x8 [x11, x14]})
theorem aB1 : ∀ v, pB1 v := hkv tB1 (by unfold vB1; rfl)
theorem Tc122 : Sc122 := kTc122.2 (fun x1 x2 x3 x4 x5 x6 x7 x8 x9 x10 x11 x12 x13 x14 x15 x16 x17 x18 x19 x20 x21 x22 x23 x24 x25 x26 x27 x28 x29 x30 => aB1 {d0v with W := sl x1 [], LS := sl x9 [], mean := sl x10 [], cn := sl x15 [], cs := sl x16 [], cl := sl x19 [], outer := sl x20 [], s := sl x25 [], H := sl x21 [x22, x28, x30], N := sl x2 [x5, x7, x13, x14, x17, x23, x29], V := sl x18 [], VS := sl x3 [], I := sl x6 [], IS := sl x4 [], M := sl x11 [x12, x24], R := sl x8 [], Q := sl x26 [x27]})
theorem c122 : Sc122 := Tc122
section
local macro_rules | `(tactic| walk_at "subscriptTail Name Name ref int") => `(tactic| (k_here; (with_reducible show wpAny _ _ (subscriptTail _ _ (Value.ref _) (Value.int _ _)) _ _ _); k_dflt (refine' item_at ?N ?m ?a ?b ?c ?_ ?hs; (case N => k_asm); (case m => k_mem); (case c => first | (with_reducible assumption) | assumption | rfl | (rw [List.getElem?_set_ne (by first | assumption | exact Ne.symm (by assumption))]; assumption) | (rw [List.getElem?_set_ne (by first | assumption | exact Ne.symm (by assumption)), List.getElem?_set_ne (by first | assumption | exact Ne.symm (by assumption))]; assumption)); (case a => first | (with_reducible assumption) | assumption | decide); (case b => first | (with_reducible assumption) | assumption | decide); (case hs => with_unfolding_all rfl))))
local macro_rules | `(tactic| walk_at "pyIter ref") => `(tactic| (k_here; (with_reducible show wpAny _ _ (pyIter (Value.ref _)) _ _ _); refine halt_in ?_; walk_say "HALT pyIter"))
theorem w0A127 : True := by w_top off; trivial
noncomputable def fRow (E : Nat → Nat → Int) (c : Nat → Nat) (i k : Nat) : List (Int × Bool) := (List.range k).map fun d => (E i (i + 1 + d), decide (c i = c (i + 1 + d)))
noncomputable def fRows (E : Nat → Nat → Int) (c : Nat → Nat) (n i : Nat) : List (Int × Bool) := (List.range i).flatMap fun a => fRow E c a (n - (a + 1))
theorem fRow_succ (E : Nat → Nat → Int) (c : Nat → Nat) (i k : Nat) : fRow E c i (k + 1) = fRow E c i k ++ [(E i (i + 1 + k), decide (c i = c (i + 1 + k)))] := by
  unfold fRow; rw [List.range_succ, List.map_append]; rfl
theorem fRows_succ (E : Nat → Nat → Int) (c : Nat → Nat) (n i : Nat) : fRows E c n (i + 1) = fRows E c n i ++ fRow E c i (n - (i + 1)) := by
  unfold fRows; rw [List.range_succ, List.flatMap_append]; simp
inductive RowAt (news : List (Addr × Obj)) (v : Value) (p : Int × Bool) : Prop
  | mk (t : Addr) (n : Nat) (s1 : Tok) (e1 : v = .ref t) (e2 : (t, ({ cls := .type "tuple", data := .seq #[.int p.1 s1, .bool p.2] n } : Obj)) ∈ news) : RowAt news v p
noncomputable def RowsAt (rows : List (Int × Bool)) (rvs : List Value) (news : List (Addr × Obj)) : Prop := rvs.length = rows.length ∧ ∀ (k : Nat) (p : Int × Bool) (u : Value), rows[k]? = some p → rvs[k]? = some u → RowAt news u p
theorem RowAt.mono {news news' : List (Addr × Obj)} {v : Value} {p : Int × Bool} (x : RowAt news v p) (h : ∀ p ∈ news, p ∈ news') : RowAt news' v p := let ⟨t, n, s, e, m⟩ := x; ⟨t, n, s, e, h _ m⟩
theorem RowsAt.mono {news news' : List (Addr × Obj)} {rows : List (Int × Bool)} {rvs : List Value} (x : RowsAt rows rvs news) (h : ∀ p ∈ news, p ∈ news') : RowsAt rows rvs news' := ⟨x.1, fun k p u a b => (x.2 k p u a b).mono h⟩
theorem RowsAt.nil {news : List (Addr × Obj)} : RowsAt [] [] news := ⟨rfl, fun k p u a _ => by simp at a⟩
theorem RowsAt.snoc {news : List (Addr × Obj)} {rows : List (Int × Bool)} {rvs : List Value} (x : RowsAt rows rvs news) {p : Int × Bool} {u : Value} (h : RowAt news u p) : RowsAt (rows ++ [p]) (rvs ++ [u]) news := by
  refine ⟨by simp [x.1], fun i q v a b => ?_⟩
  rcases Nat.lt_trichotomy i rows.length with k | k | k
  · rw [List.getElem?_append_left k] at a
    rw [List.getElem?_append_left (by rw [x.1]; exact k)] at b
    exact x.2 i q v a b
  · rw [List.getElem?_append_right (by lia), k, Nat.sub_self] at a
    rw [List.getElem?_append_right (by rw [x.1]; lia), x.1, k, Nat.sub_self] at b
    cases a; cases b; exact h
  · rw [List.getElem?_eq_none (by rw [List.length_append, List.length_singleton]; lia)] at a; cases a
theorem range_sizeG {a b : Int} (h : a ≤ b) : Builtin.Range.rangeSize a b 1 = b - a := by
  unfold Builtin.Range.rangeSize
  rw [if_pos (by decide)]
  split
  · rw [Int.ediv_one]; lia
  · lia
theorem range_smallG {a b : Int} (h0 : 0 ≤ a) (h : a ≤ b) (hb : b < 2 ^ 20) : Builtin.Range.small a b 1 = true := by
  unfold Builtin.Range.small
  rw [range_sizeG h, fits_long (by omega) (by ((try clear h0); lia)), fits_long (by lia) (by omega), fits_long (by lia) (by lia)]
  rw [if_pos (by decide)]
  have e1 : Builtin.Range.rangeFitsLong (b + (1 - 1)) = true := fits_long (by lia) (by lia)
  have e2 : Builtin.Range.rangeFitsLong (b - a) = true := fits_long (by ((try clear h0); (try clear hb); (try clear e1); lia)) (by omega)
  rw [e1, e2, Bool.or_true]; rfl
theorem map_set2 {u m₀ : Str → Option Value} {st : List Str} (x y : Str) (v v' : Value) {j : Str} {w : Option Value} (hx : st.contains x = true) (hu : u x = some v) (hy : st.contains y = true) (hu' : u y = some v') :
    (fun z => if z = j then w else if st.contains z then u z else m₀ z) = fun z => if z = j then w else if z = x then some v else if z = y then some v' else if st.contains z then u z else m₀ z := by
  funext z
  by_cases h1 : z = j
  · rw [if_pos h1, if_pos h1]
  · rw [if_neg h1, if_neg h1]
    by_cases h2 : z = x
    · subst h2; rw [if_pos hx, if_pos rfl, hu]
    · rw [if_neg h2]
      by_cases h3 : z = y
      · subst h3; rw [if_pos hy, if_pos rfl, hu']
      · rw [if_neg h3]
theorem hue_eq {a b : Nat} (ha : a < 3) (hb : b < 3) : (Float64.cmp (hueC a) (hueC b) == some .eq) = decide (a = b) := by
  have h1 : a = 0 ∨ a = 1 ∨ a = 2 := by lia
  have h2 : b = 0 ∨ b = 1 ∨ b = 2 := by lia
  rcases h1 with rfl | rfl | rfl <;> rcases h2 with rfl | rfl | rfl <;> decide +kernel
theorem swap3 {α : Type} {a b c : α} {l : List α} : ∀ p ∈ a :: b :: l, p ∈ c :: b :: a :: l := fun p hp => by
  rcases List.mem_cons.mp hp with rfl | hp
  · exact .tail _ (.tail _ (.head _))
  rcases List.mem_cons.mp hp with rfl | hp
  · exact .tail _ (.head _)
  · exact .tail _ (.tail _ (.tail _ hp))
theorem fRow_len (E : Nat → Nat → Int) (c : Nat → Nat) (i k : Nat) : (fRow E c i k).length = k := by unfold fRow; simp
theorem fRows_len (E : Nat → Nat → Int) (c : Nat → Nat) (n : Nat) : ∀ i, (fRows E c n i).length ≤ i * n
  | 0 => by simp [fRows]
  | i + 1 => by
    rw [fRows_succ, List.length_append, fRow_len, Nat.succ_mul]
    have := fRows_len E c n i
    omega
theorem sub5 {α : Type} {I R T X Y : α} {S : List α} : ∀ p ∈ I :: R :: Y :: T :: S, p ∈ X :: T :: I :: R :: Y :: S := fun p hp => by
  rcases List.mem_cons.mp hp with rfl | hp
  · exact .tail _ (.tail _ (.head _))
  rcases List.mem_cons.mp hp with rfl | hp
  · exact .tail _ (.tail _ (.tail _ (.head _)))
  rcases List.mem_cons.mp hp with rfl | hp
  · exact .tail _ (.tail _ (.tail _ (.tail _ (.head _))))
  rcases List.mem_cons.mp hp with rfl | hp
  · exact .tail _ (.head _)
  · exact .tail _ (.tail _ (.tail _ (.tail _ (.tail _ hp))))
theorem swap2 {α : Type} {a b : α} {l : List α} : ∀ p ∈ b :: a :: l, p ∈ a :: b :: l := fun p hp => by
  rcases List.mem_cons.mp hp with rfl | hp
  · exact .tail _ (.head _)
  rcases List.mem_cons.mp hp with rfl | hp
  · exact .head _
  · exact .tail _ (.tail _ hp)
theorem c35L (w : World) (s v : Int) (c : Nat) (r g b : Int) (t1 t2 t3 : Tok) (news : List (Addr × Obj)) (hs0 : 40 ≤ s) (hs1 : s < 140) (hv0 : 0 ≤ v) (hv1 : v < 64) (hc : c < 3) (hr : r = (light s v c).1) (hg : g = (light s v c).2.1) (hb : b = (light s v c).2.2) :
   Ct w 35 20 news [.int r t1, .int g t2, .int b t3] (fun r news' => ∃ (a : Addr) (nT : Nat) (s1 : Tok) (x y : Value), r = .ref a ∧ news' = (a, { cls := .type "tuple", data := .seq #[.float (hueC c) s1, x, y] nT }) :: news ∧ ∀ p ∈ news, p.1 < a) := by
  subst hr; subst hg; subst hb
  have hcc : c = 0 ∨ c = 1 ∨ c = 2 := by lia
  rcases hcc with rfl | rfl | rfl
  · have e : light s v 0 = (v + s, v, v) := by simp [light]
    rw [e]; exact c35_0 w s v t1 t2 t3 news hs0 hs1 hv0 hv1
  · have e : light s v 1 = (v, v + s, v) := by simp [light]
    rw [e]; exact c35_1 w s v t1 t2 t3 news hs0 hs1 hv0 hv1
  · have e : light s v 2 = (v, v, v + s) := by simp [light]
    rw [e]; exact c35_2 w s v t1 t2 t3 news hs0 hs1 hv0 hv1
inductive FrJ (E : Nat → Nat → Int) (cols : List (Int × Nat)) (cs : List UInt8) (news : List (Addr × Obj)) (aR D9 : Addr) (oH : Obj) (i : Nat) (u : Str → Option Value) (nw : List (Addr × Obj)) : Prop
  | mk (rvs : List Value) (nR : Nat) (S : List (Addr × Obj)) (e1 : nw = (aR, { cls := .type "list", data := .seq rvs.toArray nR }) :: S) (e2 : RowsAt (fRows E (fun i => (cols.getD i (0, 0)).2) cs.length i) rvs S) (e3 : (∀ p ∈ S, p.1 ≠ aR)) (e4 : (D9, oH) ∈ S) (e5 : ∀ p ∈ news, p ∈ S) : FrJ E cols cs news aR D9 oH i u nw
inductive FrJ2 (E : Nat → Nat → Int) (cols : List (Int × Nat)) (cs : List UInt8) (news : List (Addr × Obj)) (aR D9 : Addr) (oH : Obj) (i : Nat) (I : Addr) (oI : Obj) (k : Nat) (u : Str → Option Value) (nw : List (Addr × Obj)) : Prop
  | mk (rvs : List Value) (nR : Nat) (S : List (Addr × Obj)) (e1 : nw = (aR, { cls := .type "list", data := .seq rvs.toArray nR }) :: (I, oI) :: S) (e2 : RowsAt (fRows E (fun i => (cols.getD i (0, 0)).2) cs.length i ++ fRow E (fun i => (cols.getD i (0, 0)).2) i k) rvs S) (e3 : (∀ p ∈ S, p.1 ≠ aR)) (e4 : (∀ p ∈ S, p.1 ≠ I)) (e5 : (D9, oH) ∈ S) (e6 : (∀ p ∈ news, p ∈ S)) (e7 : (∃ t1, u (Str.ofString "ahead") = some (.int (E i (i + k)) t1))) (e8 : ∃ t2, u (Str.ofString "entry") = some (.int (E i (i + 1 + k)) t2)) : FrJ2 E cols cs news aR D9 oH i I oI k u nw
noncomputable def Sc127 : Prop := ∀ (w : World) (cs fs : List UInt8) (t1 t2 : Tok) (s : Int) (cols : List (Int × Nat)) (E : Nat → Nat → Int) (news : List (Addr × Obj)),
   0 < cs.length → cs.length ≤ 9 → (∀ i, i < cs.length → ∃ v c, cols[i]? = some (v, c) ∧ 0 ≤ v ∧ v < 64 ∧ c < 3 ∧ ((fs.getD (3 * i) 0).toNat : Int) = (light s v c).1 ∧ ((fs.getD (3 * i + 1) 0).toNat : Int) = (light s v c).2.1 ∧ ((fs.getD (3 * i + 2) 0).toNat : Int) = (light s v c).2.2) → fs.length = 3 * cs.length → cols.length = cs.length → 40 ≤ s → s < 140 → (∀ i, i < cs.length → E i i = 0 ∧ E i (i + 1) = 1) → (∀ i j, i ≤ j → j < cs.length → 0 ≤ E i j ∧ E i j < 2 ^ 30) → (∀ i j, i < j → j < cs.length → E i (j + 1) = ((cs.getD j 0).toNat : Int) * E i j - E i (j - 1)) →
   Ct w 127 30 news [.bytes cs.toArray t1, .bytes fs.toArray t2] (fun r news' => ∃ (aR : Addr) (nR : Nat) (rvs : List Value) (S : List (Addr × Obj)), r = .ref aR ∧ news' = (aR, { cls := .type "list", data := .seq rvs.toArray nR }) :: S ∧ RowsAt (fRows E (fun i => (cols.getD i (0, 0)).2) cs.length cs.length) rvs S ∧ ∀ p ∈ news, p ∈ S)
noncomputable def kTc127 : {P : (yW→yBY→yBY→yN→yN→yI→yCN→yEE→yR→yLS→ymean→yM→yM→yN→yN→ycn→ycs→yN→yV→ycl→youter→yH→yH→yN→yM→ys→yQ→yQ→yH→yN→yH→yN→yO→Prop) // (∀ x1 x2 x3 x4 x5 x6 x7 x8 x9 x10 x11 x12 x13 x14 x15 x16 x17 x18 x19 x20 x21 x22 x23 x24 x25 x26 x27 x28 x29 x30 x31 x32 x33, P x1 x2 x3 x4 x5 x6 x7 x8 x9 x10 x11 x12 x13 x14 x15 x16 x17 x18 x19 x20 x21 x22 x23 x24 x25 x26 x27 x28 x29 x30 x31 x32 x33) → Sc127} := by
  refine' ⟨_, fun hPC1 => ?main⟩
  case main =>
    unfold Sc127
    unfold Ct
    k_fill
    intro w cs fs t1 t2 s cols E news hc0 hc1 hcol hf hcl hs0 hs1 hE0 hE1 hE2
    intros
    rename_i hret
    w_on
    refine wpAny_call ?_
    k_dflt (refine' code_defC ?k1 ?k2 ?k3 ?k4 ?k5 ?kA ?kF ?kK ?k6 ?k7 ?k8 ?k9 ?kB ?kD ?_ ?c2 ?c3 ?c4; (case kA => exact rfl); (case kF => exact rfl); (case kK => assumption); (case k1 => k_asm); (case k2 => k_asm); (case k3 => k_asm); (case k4 => k_asm); (case k5 => k_asm); (case k6 => k_is); (case k7 => k_is); (case k8 => ktr_room); (case k9 => exact BindsTo.of_eq rfl); (case kB => exact rfl); (case kD => decide +kernel); (case c2 => exact rfl); (case c3 => exact rfl); (case c4 => exact rfl); k_whole; intro g' L' h' tk' cells' FG' F' N' Y' B' X' T' l1; k_cells Y'; (try simp only [List.cons_append, List.nil_append] at N'); (try dsimp only); (try k_fold))
    rename_i qz1 qz2 qz3 qz4 qz5 qz6 qz7 qz8 qz9 qz10 qz11 qz12 qz13 qz14 qz15 qz16 qz17 qz18 qz19 qz20 qz21 qz22 qz23 qz24 qz25 qz26 qz27 qz28 qz29 qz30
    revert hc0 hc1 hcol hf hcl hs0 hs1 hE0 hE1 hE2 qz23 qz25 qz27 qz28 hret F' B' X' T' qz30 N'
    exact hPC1 w cs fs t1 t2 s cols E news qz1 qz2 qz3 qz4 qz5 qz6 qz7 qz8 qz9 qz10 qz11 qz12 qz14 qz15 qz16 qz17 qz18 qz19 qz20 g' L' h' tk' qz29
noncomputable def pC1 (v : Vars) : Prop := kTc127.1 (v.W 0) (v.BY 0) (v.BY 1) (v.N 0) (v.N 1) (v.I 0) (v.CN 0) (v.EE 0) (v.R 0) (v.LS 0) (v.mean 0) (v.M 0) (v.M 1) (v.N 2) (v.N 3) (v.cn 0) (v.cs 0) (v.N 4) (v.V 0) (v.cl 0) (v.outer 0) (v.H 0) (v.H 1) (v.N 5) (v.M 2) (v.s 0) (v.Q 0) (v.Q 1) (v.H 2) (v.N 6) (v.H 3) (v.N 7) (v.O 0)
@[irreducible] noncomputable def vC1 : Vars := hk pC1
noncomputable def ktC1 : {P : (yH→yN→yN→yVS→yN→yO→yN→yM→yH→yN→yR→yAS→yQ→yN→Prop) × (yH→yN→yVS→yN→yH→yN→yH→Prop) // (∀ x1 x2 x3 x4 x5 x6 x7 x8 x9 x10 x11 x12 x13 x14, P.1 x1 x2 x3 x4 x5 x6 x7 x8 x9 x10 x11 x12 x13 x14) → (∀ x1 x2 x3 x4 x5 x6 x7, P.2 x1 x2 x3 x4 x5 x6 x7) → pC1 vC1} := by
  refine' ⟨((_ : yW→yBY→yBY→yN→yN→yI→yCN→yEE→yR→yLS→ymean→yM→yM→yN→yN→ycn→ycs→yN→yV→ycl→youter→yH→yH→yN→yM→ys→yQ→yQ→yH→yN→yH→yN→yO→yH→yN→yN→yVS→yN→yO→yN→yM→yH→yN→yR→yAS→yQ→yN→Prop) (vC1.W 0) (vC1.BY 0) (vC1.BY 1) (vC1.N 0) (vC1.N 1) (vC1.I 0) (vC1.CN 0) (vC1.EE 0) (vC1.R 0) (vC1.LS 0) (vC1.mean 0) (vC1.M 0) (vC1.M 1) (vC1.N 2) (vC1.N 3) (vC1.cn 0) (vC1.cs 0) (vC1.N 4) (vC1.V 0) (vC1.cl 0) (vC1.outer 0) (vC1.H 0) (vC1.H 1) (vC1.N 5) (vC1.M 2) (vC1.s 0) (vC1.Q 0) (vC1.Q 1) (vC1.H 2) (vC1.N 6) (vC1.H 3) (vC1.N 7) (vC1.O 0), (_ : yW→yBY→yBY→yN→yN→yI→yCN→yEE→yR→yLS→ymean→yM→yM→yN→yN→ycn→ycs→yN→yV→ycl→youter→yH→yH→yN→yM→ys→yQ→yQ→yH→yN→yH→yN→yO→yH→yN→yVS→yN→yH→yN→yH→Prop) (vC1.W 0) (vC1.BY 0) (vC1.BY 1) (vC1.N 0) (vC1.N 1) (vC1.I 0) (vC1.CN 0) (vC1.EE 0) (vC1.R 0) (vC1.LS 0) (vC1.mean 0) (vC1.M 0) (vC1.M 1) (vC1.N 2) (vC1.N 3) (vC1.cn 0) (vC1.cs 0) (vC1.N 4) (vC1.V 0) (vC1.cl 0) (vC1.outer 0) (vC1.H 0) (vC1.H 1) (vC1.N 5) (vC1.M 2) (vC1.s 0) (vC1.Q 0) (vC1.Q 1) (vC1.H 2) (vC1.N 6) (vC1.H 3) (vC1.N 7) (vC1.O 0)), fun hPC2 hPC3 => ?main⟩
  case main =>
    intro hc0 hc1 hcol hf hclq0 hs0 hs1 hE0 hE1 hE2 qz23 qz25 qz27 qz28 hret Fq0 B' X' T' qz30 Nq0
    generalize vC1.W 0 = w, vC1.BY 0 = cs, vC1.BY 1 = fs, vC1.N 0 = t1, vC1.N 1 = t2, vC1.I 0 = s, vC1.CN 0 = cols, vC1.EE 0 = E, vC1.R 0 = news, vC1.LS 0 = qz1, vC1.mean 0 = qz2, vC1.M 0 = qz3, vC1.M 1 = qz4, vC1.N 2 = qz5, vC1.N 3 = qz6, vC1.cn 0 = qz7, vC1.cs 0 = qz8, vC1.N 4 = qz9, vC1.V 0 = qz10, vC1.cl 0 = qz11, vC1.outer 0 = qz12, vC1.H 0 = qz14, vC1.H 1 = qz15, vC1.N 5 = qz16, vC1.M 2 = qz17, vC1.s 0 = qz18, vC1.Q 0 = qz19, vC1.Q 1 = qz20, vC1.H 2 = g', vC1.N 6 = L', vC1.H 3 = h', vC1.N 7 = tk', vC1.O 0 = qz29 at *
    k_steps
    rename Fr _ _ _ _ => F2
    rename News _ _ _ _ => N2
    rename IsRange _ _ _ _ _ _ _ _ => R2
    simp only [List.size_toArray] at R2
    k_dflt (refine comp_range (n := cs.length) (by rfl) (by rfl) (by rfl) F2 N2 R2 (range_small1 (by lia) hc0) (range_size2 hc0) (by rw [PySem.sizeLine_eq]; lia) (fun (ys : List Value) nw => nw = _ ∧ ∀ j v, ys[j]? = some v → ∃ t, v = Value.float (hueC (cols.getD j (0, 0)).2) t) ⟨rfl, fun j v e => by simp at e⟩ ?_ ?_)
    · intro i ys nw hi hyl C oC D cm h tk own wr E' hJ hC hcm off hCD hwo hown F' N'
      obtain ⟨ti, hcm⟩ := hcm
      obtain ⟨hJ1, hJ2⟩ := hJ
      have mC : ∀ p ∈ nw, p ∈ (C, oC) :: (D, LCg.lst ys) :: (own ++ nw) := fun p hp => List.Mem.tail _ (List.Mem.tail _ (List.mem_append_right own hp))
      subst hJ1
      have mC1 := mC _ (.head _)
      (try clear mC)
      rename_i qz31 qz32 qz33 qz34 qz35 qz36 qz37 qz38
      revert hc0 hc1 hcol hf hs0 hs1 hE0 hE1 hE2 qz23 qz25 qz27 qz28 hret B' X' T' qz30 hi hyl hC F' hcm hJ2 off N' mC1
      exact hPC2 qz33 qz34 i ys C oC D cm h tk own wr E' ti
    · intro s₂ ys nw hJ91 hyl hJ92 D9 h9 tk9 F9 N9 o9
      refine hideG fun nG => ?_
      obtain ⟨h9, rfl⟩ := hJ91
      obtain ⟨rfl, hys⟩ := hJ92
      refine nG ?_
      (try clear nG)
      rename_i qz39 qz40 qz41 qz42 qz43 qz44 qz45 qz46 qz47
      revert hc0 hc1 hcol hf hclq0 hs0 hs1 hE0 hE1 hE2 qz23 qz25 qz27 qz28 hret B' X' T' qz30 hyl F9 hys N9
      exact hPC3 qz41 qz42 ys D9 qz47 tk9 h9
noncomputable def pC2 (v : Vars) : Prop := ktC1.1.1 (v.H 0) (v.N 0) (v.N 1) (v.VS 0) (v.N 2) (v.O 0) (v.N 3) (v.M 0) (v.H 1) (v.N 4) (v.R 0) (v.AS 0) (v.Q 0) (v.N 5)
@[irreducible] noncomputable def vC2 : Vars := hk pC2
theorem tC2 : pC2 vC2 := by
  intro hc0 hc1 hcol hf hs0 hs1 hE0 hE1 hE2 qz23 qz25 qz27 qz28 hret B' X' T' qz30 hi hyl hC Fq1 hcm hJ2 off Nq1 mC1
  generalize vC1.W 0 = w, vC1.BY 0 = cs, vC1.BY 1 = fs, vC1.N 0 = t1, vC1.N 1 = t2, vC1.I 0 = s, vC1.CN 0 = cols, vC1.EE 0 = E, vC1.R 0 = news, vC1.LS 0 = qz1, vC1.mean 0 = qz2, vC1.M 0 = qz3, vC1.M 1 = qz4, vC1.N 2 = qz5, vC1.N 3 = qz6, vC1.cn 0 = qz7, vC1.cs 0 = qz8, vC1.N 4 = qz9, vC1.V 0 = qz10, vC1.cl 0 = qz11, vC1.outer 0 = qz12, vC1.H 0 = qz14, vC1.H 1 = qz15, vC1.N 5 = qz16, vC1.M 2 = qz17, vC1.s 0 = qz18, vC1.Q 0 = qz19, vC1.H 2 = g', vC1.N 6 = L', vC1.H 3 = h', vC1.N 7 = tk', vC1.O 0 = qz29, vC2.H 0 = qz33, vC2.N 0 = qz34, vC2.N 1 = i, vC2.VS 0 = ys, vC2.N 2 = C, vC2.O 0 = oC, vC2.N 3 = D, vC2.M 0 = cm, vC2.H 1 = h, vC2.N 4 = tk, vC2.R 0 = own, vC2.AS 0 = wr, vC2.Q 0 = E', vC2.N 5 = ti at *
  k_steps
  rename Fr _ _ _ _ => F3
  rename News _ _ _ _ => N3
  with_unfolding_all refine slice3_K (s := ⟨_, _, _, _, _⟩) (i := i) F3 N3 (by lia) (by lia) (by lia) (by lia) ?_
  intro h4 t4 k4 F4 N4
  refine star_bytes3 (by rfl) F4 N4 ?_
  intro h5 k5 a1 a2 a3 F5 N5
  (try clear F4)
  (try clear N4)
  (try clear F3)
  (try clear N3)
  dsimp only
  k_steps
  refine halt_out ?_
  obtain ⟨v, c, hci, hv0, hv1, hc3, er, eg, eb⟩ := hcol i hi
  refine' Ct.use (c35L w s v c _ _ _ _ _ _ _ hs0 hs1 hv0 hv1 hc3 er eg eb) ?B F5 ?X N5 ?T ?hk ?hd ?hu ?_
  case B => k_asm
  case X => k_asm
  case T => k_asm
  case hk => rfl
  case hd => ktr_room
  case hu => ktr_units
  rintro r' h' tk' nw' F' N' ⟨aT, nT, s1, x, y, rfl, rfl, hlT⟩
  (try clear F5)
  (try clear N5)
  k_steps
  rename News _ _ _ _ => N9
  rename Fr _ _ _ _ => F9
  exact ⟨_, _, _, rfl, F9, fun p hp => N9 p (.tail _ hp), off, rfl, snoc_get hJ2 ⟨_, by rw [hyl, List.getD_eq_getElem?_getD, hci]; rfl⟩⟩
theorem aC2 : ∀ v, pC2 v := hkv tC2 (by unfold vC2; rfl)
noncomputable def pC3 (v : Vars) : Prop := ktC1.1.2 (v.H 0) (v.N 0) (v.VS 0) (v.N 1) (v.H 1) (v.N 2) (v.H 2)
@[irreducible] noncomputable def vC3 : Vars := hk pC3
noncomputable def ktC3 : {P : (yN→yH→yH→yN→yO→yN→yN→yM→yH→yN→yN→yO→yVS→yN→yR→Prop) × (yN→yH→yH→yN→yM→yH→yN→yVS→yN→yR→Prop) // (∀ x1 x2 x3 x4 x5 x6 x7 x8 x9 x10 x11 x12 x13 x14 x15, P.1 x1 x2 x3 x4 x5 x6 x7 x8 x9 x10 x11 x12 x13 x14 x15) → (∀ x1 x2 x3 x4 x5 x6 x7 x8 x9 x10, P.2 x1 x2 x3 x4 x5 x6 x7 x8 x9 x10) → pC3 vC3} := by
  refine' ⟨((_ : yW→yBY→yBY→yN→yN→yI→yCN→yEE→yR→yLS→ymean→yM→yM→yN→yN→ycn→ycs→yN→yV→ycl→youter→yH→yH→yN→yM→ys→yQ→yQ→yH→yN→yH→yN→yO→yH→yN→yVS→yN→yH→yN→yH→yN→yH→yH→yN→yO→yN→yN→yM→yH→yN→yN→yO→yVS→yN→yR→Prop) (vC1.W 0) (vC1.BY 0) (vC1.BY 1) (vC1.N 0) (vC1.N 1) (vC1.I 0) (vC1.CN 0) (vC1.EE 0) (vC1.R 0) (vC1.LS 0) (vC1.mean 0) (vC1.M 0) (vC1.M 1) (vC1.N 2) (vC1.N 3) (vC1.cn 0) (vC1.cs 0) (vC1.N 4) (vC1.V 0) (vC1.cl 0) (vC1.outer 0) (vC1.H 0) (vC1.H 1) (vC1.N 5) (vC1.M 2) (vC1.s 0) (vC1.Q 0) (vC1.Q 1) (vC1.H 2) (vC1.N 6) (vC1.H 3) (vC1.N 7) (vC1.O 0) (vC3.H 0) (vC3.N 0) (vC3.VS 0) (vC3.N 1) (vC3.H 1) (vC3.N 2) (vC3.H 2), (_ : yW→yBY→yBY→yN→yN→yI→yCN→yEE→yR→yLS→ymean→yM→yM→yN→yN→ycn→ycs→yN→yV→ycl→youter→yH→yH→yN→yM→ys→yQ→yQ→yH→yN→yH→yN→yO→yH→yN→yVS→yN→yH→yN→yH→yN→yH→yH→yN→yM→yH→yN→yVS→yN→yR→Prop) (vC1.W 0) (vC1.BY 0) (vC1.BY 1) (vC1.N 0) (vC1.N 1) (vC1.I 0) (vC1.CN 0) (vC1.EE 0) (vC1.R 0) (vC1.LS 0) (vC1.mean 0) (vC1.M 0) (vC1.M 1) (vC1.N 2) (vC1.N 3) (vC1.cn 0) (vC1.cs 0) (vC1.N 4) (vC1.V 0) (vC1.cl 0) (vC1.outer 0) (vC1.H 0) (vC1.H 1) (vC1.N 5) (vC1.M 2) (vC1.s 0) (vC1.Q 0) (vC1.Q 1) (vC1.H 2) (vC1.N 6) (vC1.H 3) (vC1.N 7) (vC1.O 0) (vC3.H 0) (vC3.N 0) (vC3.VS 0) (vC3.N 1) (vC3.H 1) (vC3.N 2) (vC3.H 2)), fun hPC4 hPC5 => ?main⟩
  case main =>
    intro hc0 hc1 hcol hf hclq0 hs0 hs1 hE0 hE1 hE2 qz23 qz25 qz27 qz28 hret B' X' T' qz30 hyl F9 hys N9
    generalize vC1.W 0 = w, vC1.BY 0 = cs, vC1.BY 1 = fs, vC1.N 0 = t1, vC1.N 1 = t2, vC1.I 0 = s, vC1.CN 0 = cols, vC1.EE 0 = E, vC1.R 0 = news, vC1.LS 0 = qz1, vC1.mean 0 = qz2, vC1.M 0 = qz3, vC1.M 1 = qz4, vC1.N 2 = qz5, vC1.N 3 = qz6, vC1.cn 0 = qz7, vC1.cs 0 = qz8, vC1.N 4 = qz9, vC1.V 0 = qz10, vC1.cl 0 = qz11, vC1.outer 0 = qz12, vC1.H 0 = qz14, vC1.H 1 = qz15, vC1.N 5 = qz16, vC1.M 2 = qz17, vC1.s 0 = qz18, vC1.Q 0 = qz19, vC1.Q 1 = qz20, vC1.H 2 = g', vC1.N 6 = L', vC1.H 3 = h', vC1.N 7 = tk', vC1.O 0 = qz29, vC3.H 0 = qz41, vC3.N 0 = qz42, vC3.VS 0 = ys, vC3.N 1 = D9, vC3.H 1 = qz47, vC3.N 2 = tk9, vC3.H 2 = h9 at *
    k_steps
    rename_i aR _ lR _ _ _ _ _ _ _ _ _ _ _ _
    rename Fr _ _ _ _ => F2
    rename News _ _ _ _ => N2
    rename IsRange _ _ _ _ _ _ _ _ => R2
    simp only [List.size_toArray] at R2
    obtain ⟨oH, hoH⟩ : ∃ x, x = LCg.lst ys := ⟨_, rfl⟩
    rw [← hoH] at N2
    refine range_inv (n := cs.length) (st := [Str.ofString "i", Str.ofString "ahead", Str.ofString "entry", Str.ofString "j"]) (FrJ E cols cs news aR D9 oH) (by rfl) R2 (range_small1 (by lia) hc0) (range_size2 hc0) F2 N2 ⟨[], 0, _, rfl, RowsAt.nil, ?hoff0, .head _, fun p hp => .tail _ (.tail _ hp)⟩ ?_ ?_
    case hoff0 => exact fun p hp => Nat.ne_of_lt (all_of (by exact lR) p hp)
    · intro i t u nw h tk I oI hi hJ93 hcl hne F3 N3
      refine hideG fun nG => ?_
      obtain ⟨rvs, nR, S, rfl, hrows, hoff, hH, hold⟩ := hJ93
      (try clear F2)
      (try clear N2)
      (try clear R2)
      refine nG ?_
      (try clear nG)
      rename_i qz48 qz49 qz50 qz51 qz52 qz53 qz54 qz55 qz56 qz57
      revert hc0 hc1 hcol hf hclq0 hs0 hs1 hE0 hE1 hE2 qz23 qz25 qz27 qz28 hret B' X' T' qz30 hyl hys hoH hi hcl F3 hrows hoff hH hold hne N3
      exact hPC4 aR qz49 qz52 qz53 oH i t u h tk I oI rvs nR S
    · intro u nw h tk hJ96 F5 N5
      refine hideG fun nG => ?_
      obtain ⟨rvs, nR, S, rfl, hrows, hoff, hH, hold⟩ := hJ96
      (try clear F2)
      (try clear N2)
      (try clear R2)
      refine nG ?_
      (try clear nG)
      rename_i qz58 qz59 qz60 qz61 qz62 qz63 qz64 qz65 qz66 qz67
      revert hc0 hc1 hcol hf hs0 hs1 hE0 hE1 hE2 qz23 qz25 qz27 qz28 hret B' X' T' qz30 F5 hrows hold N5
      exact hPC5 aR qz59 qz62 qz63 u h tk rvs nR S
noncomputable def pC4 (v : Vars) : Prop := ktC3.1.1 (v.N 0) (v.H 0) (v.H 1) (v.N 1) (v.O 0) (v.N 2) (v.N 3) (v.M 0) (v.H 2) (v.N 4) (v.N 5) (v.O 1) (v.VS 0) (v.N 6) (v.R 0)
@[irreducible] noncomputable def vC4 : Vars := hk pC4
noncomputable def ktC4 : {P : (yH→yH→yN→yN→yN→yM→yH→yN→yN→yO→yVS→yN→yR→yN→yN→yN→yN→Prop) × (yH→yH→yN→yM→yH→yN→yVS→yN→yR→Prop) // (∀ x1 x2 x3 x4 x5 x6 x7 x8 x9 x10 x11 x12 x13 x14 x15 x16 x17, P.1 x1 x2 x3 x4 x5 x6 x7 x8 x9 x10 x11 x12 x13 x14 x15 x16 x17) → (∀ x1 x2 x3 x4 x5 x6 x7 x8 x9, P.2 x1 x2 x3 x4 x5 x6 x7 x8 x9) → pC4 vC4} := by
  refine' ⟨((_ : yW→yBY→yBY→yN→yN→yI→yCN→yEE→yR→yLS→ymean→yM→yM→yN→yN→ycn→ycs→yN→yV→ycl→youter→yH→yH→yN→yM→ys→yQ→yQ→yH→yN→yO→yVS→yN→yN→yN→yH→yH→yN→yO→yN→yN→yM→yH→yN→yN→yO→yVS→yN→yR→yH→yH→yN→yN→yN→yM→yH→yN→yN→yO→yVS→yN→yR→yN→yN→yN→yN→Prop) (vC1.W 0) (vC1.BY 0) (vC1.BY 1) (vC1.N 0) (vC1.N 1) (vC1.I 0) (vC1.CN 0) (vC1.EE 0) (vC1.R 0) (vC1.LS 0) (vC1.mean 0) (vC1.M 0) (vC1.M 1) (vC1.N 2) (vC1.N 3) (vC1.cn 0) (vC1.cs 0) (vC1.N 4) (vC1.V 0) (vC1.cl 0) (vC1.outer 0) (vC1.H 0) (vC1.H 1) (vC1.N 5) (vC1.M 2) (vC1.s 0) (vC1.Q 0) (vC1.Q 1) (vC1.H 2) (vC1.N 6) (vC1.O 0) (vC3.VS 0) (vC3.N 1) (vC3.N 2) (vC4.N 0) (vC4.H 0) (vC4.H 1) (vC4.N 1) (vC4.O 0) (vC4.N 2) (vC4.N 3) (vC4.M 0) (vC4.H 2) (vC4.N 4) (vC4.N 5) (vC4.O 1) (vC4.VS 0) (vC4.N 6) (vC4.R 0), (_ : yW→yBY→yBY→yN→yN→yI→yCN→yEE→yR→yLS→ymean→yM→yM→yN→yN→ycn→ycs→yN→yV→ycl→youter→yH→yH→yN→yM→ys→yQ→yQ→yH→yN→yO→yVS→yN→yN→yN→yH→yH→yN→yO→yN→yN→yM→yH→yN→yN→yO→yVS→yN→yR→yH→yH→yN→yM→yH→yN→yVS→yN→yR→Prop) (vC1.W 0) (vC1.BY 0) (vC1.BY 1) (vC1.N 0) (vC1.N 1) (vC1.I 0) (vC1.CN 0) (vC1.EE 0) (vC1.R 0) (vC1.LS 0) (vC1.mean 0) (vC1.M 0) (vC1.M 1) (vC1.N 2) (vC1.N 3) (vC1.cn 0) (vC1.cs 0) (vC1.N 4) (vC1.V 0) (vC1.cl 0) (vC1.outer 0) (vC1.H 0) (vC1.H 1) (vC1.N 5) (vC1.M 2) (vC1.s 0) (vC1.Q 0) (vC1.Q 1) (vC1.H 2) (vC1.N 6) (vC1.O 0) (vC3.VS 0) (vC3.N 1) (vC3.N 2) (vC4.N 0) (vC4.H 0) (vC4.H 1) (vC4.N 1) (vC4.O 0) (vC4.N 2) (vC4.N 3) (vC4.M 0) (vC4.H 2) (vC4.N 4) (vC4.N 5) (vC4.O 1) (vC4.VS 0) (vC4.N 6) (vC4.R 0)), fun hPC6 hPC7 => ?main⟩
  case main =>
    intro hc0 hc1 hcol hf hclq0 hs0 hs1 hE0 hE1 hE2 qz23 qz25 qz27 qz28 hret B' X' T' qz30 hyl hys hoH hi hcl F3 hrows hoff hH hold hne N3
    generalize vC1.W 0 = w, vC1.BY 0 = cs, vC1.BY 1 = fs, vC1.N 0 = t1, vC1.N 1 = t2, vC1.I 0 = s, vC1.CN 0 = cols, vC1.EE 0 = E, vC1.R 0 = news, vC1.LS 0 = qz1, vC1.mean 0 = qz2, vC1.M 0 = qz3, vC1.M 1 = qz4, vC1.N 2 = qz5, vC1.N 3 = qz6, vC1.cn 0 = qz7, vC1.cs 0 = qz8, vC1.N 4 = qz9, vC1.V 0 = qz10, vC1.cl 0 = qz11, vC1.outer 0 = qz12, vC1.H 0 = qz14, vC1.H 1 = qz15, vC1.N 5 = qz16, vC1.M 2 = qz17, vC1.s 0 = qz18, vC1.Q 0 = qz19, vC1.Q 1 = qz20, vC1.H 2 = g', vC1.N 6 = L', vC1.O 0 = qz29, vC3.VS 0 = ys, vC3.N 1 = D9, vC3.N 2 = tk9, vC4.N 0 = aR, vC4.H 0 = qz49, vC4.H 1 = qz52, vC4.N 1 = qz53, vC4.O 0 = oH, vC4.N 2 = i, vC4.N 3 = t, vC4.M 0 = u, vC4.H 2 = h, vC4.N 4 = tk, vC4.N 5 = I, vC4.O 1 = oI, vC4.VS 0 = rvs, vC4.N 6 = nR, vC4.R 0 = S at *
    k_steps
    rename Fr _ _ _ _ => F4
    rename News _ _ _ _ => N4
    rename IsRange _ _ _ _ _ _ _ _ => R4
    simp only [List.size_toArray] at R4
    have N4' : News _ _ _ ((aR, ({ cls := .type "list", data := .seq rvs.toArray nR } : Obj)) :: (I, oI) :: S) := fun p hp => N4 p (swap3 p hp)
    have IR : I ≠ aR := fun e => hne _ (.head _) e.symm
    (try clear N4)
    refine halt_out ?_
    refine range_inv (n := cs.length - (i + 1)) (st := [Str.ofString "ahead", Str.ofString "entry", Str.ofString "j"]) (FrJ2 E cols cs news aR D9 oH i I oI) (by rfl) R4 (range_smallG (by lia) (by lia) (by lia)) ((range_sizeG (by lia)).trans (by lia)) F4 N4' ⟨rvs, nR, S, rfl, ?r0, hoff, fun p hp => hne p (.tail _ hp), hH, hold, ?u1, ?u2⟩ ?_ ?_
    case r0 => exact (List.append_nil _).symm ▸ hrows
    case u1 => exact ⟨_, congrArg (fun z => some (Value.int z _)) (hE0 i hi).1.symm⟩
    case u2 => exact ⟨_, congrArg (fun z => some (Value.int z _)) (hE0 i hi).2.symm⟩
    · intro k t2 u nw h tk I2 oI2 hk hJ94 hcl2 hne2 F5 N5
      refine hideG fun nG => ?_
      obtain ⟨rvs, nR, S, rfl, hrows, hoff, hI, hH, hold, ⟨t3, hua⟩, ⟨t4, hue⟩⟩ := hJ94
      (try clear F4)
      (try clear N4')
      (try clear R4)
      rw [map_set2 (Str.ofString "ahead") (Str.ofString "entry") _ _ rfl hua rfl hue] at F5
      have hj : i + 1 + k < cs.length := by lia
      obtain ⟨bi, hbi⟩ : ∃ b, ys[i]? = some b := ⟨ys[i], List.getElem?_eq_getElem (by omega)⟩
      obtain ⟨bj, hbj⟩ : ∃ b, ys[i + 1 + k]? = some b := ⟨ys[i + 1 + k], List.getElem?_eq_getElem (by omega)⟩
      obtain ⟨ti, rfl⟩ := hys _ _ hbi
      obtain ⟨tj, rfl⟩ := hys _ _ hbj
      have i0 : 0 ≤ 0 + (i : Int) := by ((try clear hc0); (try clear hc1); (try clear hcol); (try clear hf); (try clear hs0); (try clear hs1); (try clear hE0); (try clear hE1); (try clear hE2); (try clear hret); (try clear FG'); (try clear B'); (try clear X'); (try clear T'); (try clear l1); (try clear R2); (try clear hyl); (try clear hys); (try clear o9); (try clear lR); (try clear hoH); (try clear hi); (try clear hcl); (try clear hne); (try clear IR); (try clear hk); (try clear hrows); (try clear hoff); (try clear hI); (try clear hH); (try clear hold); (try clear hua); (try clear hue); (try clear hcl2); (try clear hne2); (try clear F5); (try clear N5); (try clear hj); (try clear hbi); (try clear hbj); lia)
      have i1 : 0 + (i : Int) < 2 ^ 20 := by lia
      have i2 : ys[(0 + (i : Int)).toNat]? = some (.float (hueC (cols.getD i (0, 0)).2) ti) := by
        have : (0 + (i : Int)).toNat = i := by lia
        rw [this]; exact hbi
      have j0 : 0 ≤ 0 + (i : Int) + 1 + (k : Int) := by lia
      have j1 : 0 + (i : Int) + 1 + (k : Int) < 2 ^ 20 := by ((try clear hc0); (try clear hcol); (try clear hf); (try clear hs0); (try clear hs1); (try clear hE0); (try clear hE1); (try clear hE2); (try clear hret); (try clear FG'); (try clear B'); (try clear X'); (try clear T'); (try clear l1); (try clear R2); (try clear hyl); (try clear hys); (try clear o9); (try clear lR); (try clear hoH); (try clear hi); (try clear hcl); (try clear hne); (try clear IR); (try clear hk); (try clear hrows); (try clear hoff); (try clear hI); (try clear hH); (try clear hold); (try clear hua); (try clear hue); (try clear hcl2); (try clear hne2); (try clear F5); (try clear N5); (try clear hbi); (try clear hbj); (try clear i0); (try clear i1); (try clear i2); (try clear j0); lia)
      have j3 : (0 + (i : Int) + 1 + (k : Int)).toNat = i + 1 + k := by lia
      have j2 : ys[(0 + (i : Int) + 1 + (k : Int)).toNat]? = some (.float (hueC (cols.getD (i + 1 + k) (0, 0)).2) tj) := by rw [j3]; exact hbj
      have mH : (D9, ({ cls := .type "list", data := .seq ys.toArray ys.length } : Obj)) ∈ S := by rw [hoH] at hH; exact hH
      have mH2 : (D9, ({ cls := .type "list", data := .seq ys.toArray ys.length } : Obj)) ∈ (I2, oI2) :: (aR, ({ cls := .type "list", data := .seq rvs.toArray nR } : Obj)) :: (I, oI) :: S := .tail _ (.tail _ (.tail _ mH))
      obtain ⟨e0, e1⟩ := hE1 i (i + 1 + k) (by ((try clear hc0); (try clear hc1); (try clear hcol); (try clear hf); (try clear hs0); (try clear hs1); (try clear hE0); (try clear hE1); (try clear hE2); (try clear hret); (try clear FG'); (try clear B'); (try clear X'); (try clear T'); (try clear l1); (try clear R2); (try clear hyl); (try clear hys); (try clear o9); (try clear lR); (try clear hoH); (try clear hi); (try clear hcl); (try clear hne); (try clear IR); (try clear hk); (try clear hrows); (try clear hoff); (try clear hI); (try clear hH); (try clear hold); (try clear hua); (try clear hue); (try clear hcl2); (try clear hne2); (try clear F5); (try clear N5); (try clear hj); (try clear hbi); (try clear hbj); (try clear i0); (try clear i1); (try clear i2); (try clear j0); (try clear j1); (try clear j3); (try clear j2); (try clear mH); (try clear mH2); lia)) hj
      have c1 := UInt8.toNat_lt (cs.getD (0 + (i : Int) + 1 + (k : Int)).toNat 0)
      have qI : I2 ≠ aR := fun e => hne2 _ (.head _) e.symm
      have szR : rvs.toArray.size ≤ sizeLine := by
        have l1 := fRows_len E (fun i => (cols.getD i (0, 0)).2) cs.length i
        have l2 : i * cs.length ≤ 9 * 9 := Nat.mul_le_mul (by lia) hc1
        rw [List.size_toArray, PySem.sizeLine_eq, hrows.1, List.length_append, fRow_len]
        ((try clear hc0); (try clear hcol); (try clear hf); (try clear hs0); (try clear hs1); (try clear hE0); (try clear hE1); (try clear hE2); (try clear hret); (try clear FG'); (try clear B'); (try clear X'); (try clear T'); (try clear R2); (try clear hyl); (try clear hys); (try clear o9); (try clear lR); (try clear hoH); (try clear hi); (try clear hcl); (try clear hne); (try clear IR); (try clear hk); (try clear hrows); (try clear hoff); (try clear hI); (try clear hH); (try clear hold); (try clear hua); (try clear hue); (try clear hcl2); (try clear hne2); (try clear F5); (try clear N5); (try clear hbi); (try clear hbj); (try clear i0); (try clear i1); (try clear i2); (try clear j0); (try clear j1); (try clear j3); (try clear j2); (try clear mH); (try clear mH2); (try clear e0); (try clear e1); (try clear c1); (try clear qI); lia)
      have ci3 : (cols.getD i (0, 0)).2 < 3 := by
        obtain ⟨v, c, e, _, _, h3, _⟩ := hcol i hi
        rw [List.getD_eq_getElem?_getD, e]; exact h3
      have cj3 : (cols.getD (i + 1 + k) (0, 0)).2 < 3 := by
        obtain ⟨v, c, e, _, _, h3, _⟩ := hcol (i + 1 + k) hj
        rw [List.getD_eq_getElem?_getD, e]; exact h3
      have hrec : E i (i + 1 + (k + 1)) = ((cs.getD (0 + (i : Int) + 1 + (k : Int)).toNat 0).toNat : Int) * E i (i + 1 + k) - E i (i + k) := by
        rw [j3]
        have h1 := hE2 i (i + 1 + k) (by ((try clear hc0); (try clear hc1); (try clear hcol); (try clear hf); (try clear hs0); (try clear hs1); (try clear hE0); (try clear hE1); (try clear hE2); (try clear hret); (try clear FG'); (try clear B'); (try clear X'); (try clear T'); (try clear l1); (try clear R2); (try clear hyl); (try clear hys); (try clear o9); (try clear lR); (try clear hoH); (try clear hi); (try clear hcl); (try clear hne); (try clear IR); (try clear hk); (try clear hrows); (try clear hoff); (try clear hI); (try clear hH); (try clear hold); (try clear hua); (try clear hue); (try clear hcl2); (try clear hne2); (try clear F5); (try clear N5); (try clear hj); (try clear hbi); (try clear hbj); (try clear i0); (try clear i1); (try clear i2); (try clear j0); (try clear j1); (try clear j3); (try clear j2); (try clear mH); (try clear mH2); (try clear e0); (try clear e1); (try clear c1); (try clear qI); (try clear szR); (try clear ci3); (try clear cj3); lia)) hj
        have h2 : i + 1 + k - 1 = i + k := by lia
        rw [h2] at h1
        exact h1
      have hah : E i (i + (k + 1)) = E i (i + 1 + k) := by
        have : i + (k + 1) = i + 1 + k := by ((try clear hc0); (try clear hc1); (try clear hcol); (try clear hf); (try clear hs0); (try clear hs1); (try clear hE0); (try clear hE1); (try clear hE2); (try clear hret); (try clear FG'); (try clear B'); (try clear X'); (try clear T'); (try clear l1); (try clear R2); (try clear hyl); (try clear hys); (try clear o9); (try clear lR); (try clear hoH); (try clear hi); (try clear hcl); (try clear hne); (try clear IR); (try clear hk); (try clear hrows); (try clear hoff); (try clear hI); (try clear hH); (try clear hold); (try clear hua); (try clear hue); (try clear hcl2); (try clear hne2); (try clear F5); (try clear N5); (try clear hj); (try clear hbi); (try clear hbj); (try clear i0); (try clear i1); (try clear i2); (try clear j0); (try clear j1); (try clear j3); (try clear j2); (try clear mH); (try clear mH2); (try clear e0); (try clear e1); (try clear c1); (try clear qI); (try clear szR); (try clear ci3); (try clear cj3); (try clear hrec); lia)
        rw [this]
      refine nG ?_
      (try clear nG)
      rename_i qz68 qz69 qz70 qz71 qz72 qz73 qz74 qz75 qz76 qz77 qz78 qz79 qz80 qz81 qz82 qz83 qz84 qz85 qz86 qz87
      revert hc0 hc1 hcol hf hclq0 hs0 hs1 hE0 hE1 hE2 qz23 qz25 qz27 qz28 hret B' X' T' qz30 hyl hcl IR hrows hoff hI hH hold hne2 N5 F5 hj i0 i1 i2 j0 j1 j3 j2 mH2 e0 e1 c1 qI szR ci3 cj3 hrec hah
      exact hPC6 qz79 qz82 qz83 k t2 u h tk I2 oI2 rvs nR S t3 t4 ti tj
    · intro u nw h tk hJ95 F5 N5
      refine hideG fun nG => ?_
      obtain ⟨rvs, nR, S, rfl, hrows, hoff, hI, hH, hold, ⟨t3, hua⟩, ⟨t4, hue⟩⟩ := hJ95
      (try clear F4)
      (try clear N4')
      (try clear R4)
      refine nG ?_
      (try clear nG)
      rename_i qz88 qz89 qz90 qz91 qz92 qz93 qz94 qz95 qz96 qz97 qz98 qz99 qz100 qz101 qz102 qz103 qz104 qz105 qz106 qz107
      revert hc0 hc1 hcol hf hs0 hs1 hE0 hE1 hE2 qz23 qz25 qz27 qz28 hret B' X' T' qz30 hcl IR F5 hrows hoff hI hH hold N5
      exact hPC7 qz99 qz102 qz103 u h tk rvs nR S
noncomputable def pC6 (v : Vars) : Prop := ktC4.1.1 (v.H 0) (v.H 1) (v.N 0) (v.N 1) (v.N 2) (v.M 0) (v.H 2) (v.N 3) (v.N 4) (v.O 0) (v.VS 0) (v.N 5) (v.R 0) (v.N 6) (v.N 7) (v.N 8) (v.N 9)
@[irreducible] noncomputable def vC6 : Vars := hk pC6
theorem tC6 : pC6 vC6 := by
  intro hc0 hc1 hcol hf hclq0 hs0 hs1 hE0 hE1 hE2 qz23 qz25 qz27 qz28 hret B' X' T' qz30 hyl hcl IR hrows hoff hI hH hold hne2 N5 F5 hj i0 i1 i2 j0 j1 j3 j2 mH2 e0 e1 c1 qI szR ci3 cj3 hrec hah
  generalize vC1.W 0 = w, vC1.BY 0 = cs, vC1.BY 1 = fs, vC1.N 0 = t1, vC1.N 1 = t2, vC1.I 0 = s, vC1.CN 0 = cols, vC1.EE 0 = E, vC1.R 0 = news, vC1.LS 0 = qz1, vC1.mean 0 = qz2, vC1.M 0 = qz3, vC1.M 1 = qz4, vC1.N 2 = qz5, vC1.N 3 = qz6, vC1.cn 0 = qz7, vC1.cs 0 = qz8, vC1.N 4 = qz9, vC1.V 0 = qz10, vC1.cl 0 = qz11, vC1.outer 0 = qz12, vC1.H 0 = qz14, vC1.H 1 = qz15, vC1.N 5 = qz16, vC1.M 2 = qz17, vC1.s 0 = qz18, vC1.Q 0 = qz19, vC1.Q 1 = qz20, vC1.H 2 = g', vC1.N 6 = L', vC1.O 0 = qz29, vC3.VS 0 = ys, vC3.N 1 = D9, vC4.N 0 = aR, vC4.O 0 = oH, vC4.N 2 = i, vC4.N 3 = t, vC4.M 0 = u, vC4.H 2 = h, vC4.N 4 = tk, vC4.N 5 = I, vC4.O 1 = oI, vC4.VS 0 = rvs, vC4.N 6 = nR, vC4.R 0 = S, vC6.H 0 = qz79, vC6.H 1 = qz82, vC6.N 0 = qz83, vC6.N 1 = k, vC6.N 2 = t2, vC6.M 0 = u, vC6.H 2 = h, vC6.N 3 = tk, vC6.N 4 = I2, vC6.O 0 = oI2, vC6.VS 0 = rvs, vC6.N 5 = nR, vC6.R 0 = S, vC6.N 6 = t3, vC6.N 7 = t4, vC6.N 8 = ti, vC6.N 9 = tj at *
  k_steps
  refine halt_out ?_
  k_dflt (refine' Ct.use (c42f _ _ _ _ _ _ ) ?B ?F ?X ?N ?T ?hk ?hd ?hu ?_; (case N => k_asm); (case B => k_asm); (case F => k_asm); (case X => k_asm); (case T => k_asm); (case hk => rfl); (case hd => ktr_room); (case hu => ktr_units))
  intro r' h' tk' nw' F' N' P'
  obtain ⟨t', hr', hn'⟩ := P'
  subst hr'
  subst hn'
  k_steps
  refine halt_out ?_
  k_dflt (refine' Ct.use (c70i _ _ _ _ _ _ ?h0 ?h1 ?h2 ?h3) ?B ?F ?X ?N ?T ?hk ?hd ?hu ?_; (case N => k_asm); (case B => k_asm); (case F => k_asm); (case X => k_asm); (case T => k_asm); (case hk => rfl); (case h0 => lia); (case h1 => omega); (case h2 => lia); (case h3 => lia); (case hd => ktr_room); (case hu => ktr_units))
  intro r' h' tk' nw' F' N' P'
  obtain ⟨t', hr', hn'⟩ := P'
  subst hr'
  subst hn'
  k_steps
  refine halt_out ?_
  k_dflt (refine' Ct.use (c77i _ _ _ _ _ _ ) ?B ?F ?X ?N ?T ?hk ?hd ?hu ?_; (case N => k_asm); (case B => k_asm); (case F => k_asm); (case X => k_asm); (case T => k_asm); (case hk => rfl); (case hd => ktr_room); (case hu => ktr_units))
  intro r' h' tk' nw' F' N' P'
  obtain ⟨t', hr', hn'⟩ := P'
  subst hr'
  subst hn'
  k_steps
  rename Fr _ _ _ _ => F9
  rename News _ _ _ _ => N9
  rw [hue_eq ci3 cj3] at N9
  refine TEnd.mk F9 N9 _ sub5 ?off ?hm ⟨_, _, _, rfl, ?rows, ?o2, ?o3, .tail _ hH, fun p hp => .tail _ (hold p hp), ⟨_, congrArg (fun z => some (Value.int z _)) hah.symm⟩, ⟨_, congrArg (fun z => some (Value.int z _)) hrec.symm⟩⟩
  case off => exact off_cons (fun e => qI e.symm) (off_cons (hne2 _ (.tail _ (.head _))) (off_cons (by refine neN ?_; (try dsimp only); lia) fun p hp => hne2 p (.tail _ (.tail _ hp))))
  case hm => repeat (first | exact off_base | refine off_if rfl ?_)
  case rows =>
    rw [fRow_succ, ← List.append_assoc]
    exact (hrows.mono fun p hp => .tail _ hp).snoc ⟨_, _, _, rfl, .head _⟩
  case o2 => exact off_cons (by refine neN ?_; (try dsimp only); lia) hoff
  case o3 => exact off_cons (by refine neN ?_; (try dsimp only); lia) hI
theorem aC6 : ∀ v, pC6 v := hkv tC6 (by unfold vC6; rfl)
noncomputable def pC7 (v : Vars) : Prop := ktC4.1.2 (v.H 0) (v.H 1) (v.N 0) (v.M 0) (v.H 2) (v.N 1) (v.VS 0) (v.N 2) (v.R 0)
@[irreducible] noncomputable def vC7 : Vars := hk pC7
theorem tC7 : pC7 vC7 := by
  intro hc0 hc1 hcol hf hs0 hs1 hE0 hE1 hE2 qz23 qz25 qz27 qz28 hret B' X' T' qz30 hcl IR F5 hrows hoff hI hH hold N5
  generalize vC1.W 0 = w, vC1.BY 0 = cs, vC1.BY 1 = fs, vC1.N 0 = t1, vC1.N 1 = t2, vC1.I 0 = s, vC1.CN 0 = cols, vC1.EE 0 = E, vC1.R 0 = news, vC1.LS 0 = qz1, vC1.mean 0 = qz2, vC1.M 0 = qz3, vC1.M 1 = qz4, vC1.N 2 = qz5, vC1.N 3 = qz6, vC1.cn 0 = qz7, vC1.cs 0 = qz8, vC1.N 4 = qz9, vC1.V 0 = qz10, vC1.cl 0 = qz11, vC1.outer 0 = qz12, vC1.H 0 = qz14, vC1.H 1 = qz15, vC1.N 5 = qz16, vC1.M 2 = qz17, vC1.s 0 = qz18, vC1.Q 0 = qz19, vC1.Q 1 = qz20, vC1.H 2 = g', vC1.N 6 = L', vC1.O 0 = qz29, vC3.N 1 = D9, vC4.N 0 = aR, vC4.O 0 = oH, vC4.N 2 = i, vC4.N 3 = t, vC4.M 0 = u, vC4.H 2 = h, vC4.N 4 = tk, vC4.N 5 = I, vC4.O 1 = oI, vC4.VS 0 = rvs, vC4.N 6 = nR, vC4.R 0 = S, vC7.H 0 = qz99, vC7.H 1 = qz102, vC7.N 0 = qz103, vC7.M 0 = u, vC7.H 2 = h, vC7.N 1 = tk, vC7.VS 0 = rvs, vC7.N 2 = nR, vC7.R 0 = S at *
  k_steps
  rename Fr _ _ _ _ => F9
  rename News _ _ _ _ => N9
  refine TEnd.mk F9 N9 ((aR, ({ cls := .type "list", data := .seq rvs.toArray nR } : Obj)) :: S) swap2 (off_cons IR.symm hI) ?hm2 ⟨rvs, nR, S, rfl, ?rows2, hoff, hH, hold⟩
  case rows2 => rw [fRows_succ]; exact hrows
  case hm2 => exact off_in (fun z hz => by (simp only [List.contains_cons, Bool.or_eq_false_iff] at hz ⊢; simp only [hz, and_self])) (by repeat (first | exact off_base | refine off_if rfl ?_))
theorem aC7 : ∀ v, pC7 v := hkv tC7 (by unfold vC7; rfl)
theorem tC4 : pC4 vC4 := ktC4.2 (fun x1 x2 x3 x4 x5 x6 x7 x8 x9 x10 x11 x12 x13 x14 x15 x16 x17 => aC6 {d0v with H := sl x1 [x2, x7], N := sl x3 [x4, x5, x8, x9, x12, x14, x15, x16, x17], O := sl x10 [], VS := sl x11 [], M := sl x6 [], R := sl x13 []}) (fun x1 x2 x3 x4 x5 x6 x7 x8 x9 => aC7 {d0v with H := sl x1 [x2, x5], N := sl x3 [x6, x8], VS := sl x7 [], M := sl x4 [], R := sl x9 []})
theorem aC4 : ∀ v, pC4 v := hkv tC4 (by unfold vC4; rfl)
noncomputable def pC5 (v : Vars) : Prop := ktC3.1.2 (v.N 0) (v.H 0) (v.H 1) (v.N 1) (v.M 0) (v.H 2) (v.N 2) (v.VS 0) (v.N 3) (v.R 0)
@[irreducible] noncomputable def vC5 : Vars := hk pC5
theorem tC5 : pC5 vC5 := by
  intro hc0 hc1 hcol hf hs0 hs1 hE0 hE1 hE2 qz23 qz25 qz27 qz28 hret B' X' T' qz30 F5 hrows hold N5
  generalize vC1.W 0 = w, vC1.BY 0 = cs, vC1.BY 1 = fs, vC1.N 0 = t1, vC1.N 1 = t2, vC1.I 0 = s, vC1.CN 0 = cols, vC1.EE 0 = E, vC1.R 0 = news, vC1.LS 0 = qz1, vC1.mean 0 = qz2, vC1.M 0 = qz3, vC1.M 1 = qz4, vC1.N 2 = qz5, vC1.N 3 = qz6, vC1.cn 0 = qz7, vC1.cs 0 = qz8, vC1.N 4 = qz9, vC1.V 0 = qz10, vC1.cl 0 = qz11, vC1.outer 0 = qz12, vC1.H 0 = qz14, vC1.H 1 = qz15, vC1.N 5 = qz16, vC1.M 2 = qz17, vC1.s 0 = qz18, vC1.Q 0 = qz19, vC1.Q 1 = qz20, vC1.H 2 = g', vC1.N 6 = L', vC1.O 0 = qz29, vC3.N 1 = D9, vC3.N 2 = tk9, vC5.N 0 = aR, vC5.H 0 = qz59, vC5.H 1 = qz62, vC5.N 1 = qz63, vC5.M 0 = u, vC5.H 2 = h, vC5.N 2 = tk, vC5.VS 0 = rvs, vC5.N 3 = nR, vC5.R 0 = S at *
  k_steps
  exact hret _ _ _ _ (by assumption) (by assumption) ⟨aR, nR, rvs, S, rfl, rfl, hrows, hold⟩
theorem aC5 : ∀ v, pC5 v := hkv tC5 (by unfold vC5; rfl)
theorem tC3 : pC3 vC3 := ktC3.2 (fun x1 x2 x3 x4 x5 x6 x7 x8 x9 x10 x11 x12 x13 x14 x15 => aC4 {d0v with H := sl x2 [x3, x9], N := sl x1 [x4, x6, x7, x10, x11, x14], O := sl x5 [x12], VS := sl x13 [], M := sl x8 [], R := sl x15 []}) (fun x1 x2 x3 x4 x5 x6 x7 x8 x9 x10 => aC5 {d0v with H := sl x2 [x3, x6], N := sl x1 [x4, x7, x9], VS := sl x8 [], M := sl x5 [], R := sl x10 []})
theorem aC3 : ∀ v, pC3 v := hkv tC3 (by unfold vC3; rfl)
theorem tC1 : pC1 vC1 := ktC1.2 (fun x1 x2 x3 x4 x5 x6 x7 x8 x9 x10 x11 x12 x13 x14 => aC2 {d0v with H := sl x1 [x9], N := sl x2 [x3, x5, x7, x10, x14], O := sl x6 [], VS := sl x4 [], M := sl x8 [], R := sl x11 [], Q := sl x13 [], AS := sl x12 []}) (fun x1 x2 x3 x4 x5 x6 x7 => aC3 {d0v with H := sl x1 [x5, x7], N := sl x2 [x4, x6], VS := sl x3 []})
theorem aC1 : ∀ v, pC1 v := hkv tC1 (by unfold vC1; rfl)
theorem Tc127 : Sc127 := kTc127.2 (fun x1 x2 x3 x4 x5 x6 x7 x8 x9 x10 x11 x12 x13 x14 x15 x16 x17 x18 x19 x20 x21 x22 x23 x24 x25 x26 x27 x28 x29 x30 x31 x32 x33 => aC1 {d0v with W := sl x1 [], LS := sl x10 [], mean := sl x11 [], cn := sl x16 [], cs := sl x17 [], cl := sl x20 [], outer := sl x21 [], s := sl x26 [], H := sl x22 [x23, x29, x31], N := sl x4 [x5, x14, x15, x18, x24, x30, x32], O := sl x33 [], V := sl x19 [], I := sl x6 [], M := sl x12 [x13, x25], R := sl x9 [], Q := sl x27 [x28], BY := sl x2 [x3], CN := sl x7 [], EE := sl x8 []})
theorem c127 : Sc127 := Tc127
section
theorem w0A139 : True := by w_top off; trivial
local macro_rules | `(tactic| walk_at "call ref") => `(tactic| (k_here; (with_reducible show wpAny _ _ (call (Value.ref 134) _) _ _ _); k_dflt (refine' Ct.use (c134 _ _ _ _ _ _ _ _ _ _ _ _ _ _ ?hb ?m1 ?m2) ?B ?F ?X ?N ?T ?hk ?hd ?hu ?_; (case N => k_asm); (case B => k_asm); (case F => k_asm); (case X => k_asm); (case T => k_asm); (case hk => rfl); (case m1 => k_mem); (case m2 => k_mem); (case hb => exact ⟨by assumption, by assumption, by assumption, by assumption⟩); (case hd => ktr_room); (case hu => ktr_units)); intro r' h' tk' nw' F' N' P'; obtain ⟨t', hr', hn'⟩ := P'; subst hr'; replace hn' := hn'.symm; subst hn'; walk_say "CONTRACT 134"))
theorem cend_sub2 {C D T : Addr × Obj} {own B l : List (Addr × Obj)} : ∀ p ∈ C :: D :: (own ++ (T :: l ++ B)), p ∈ T :: C :: D :: (own ++ (l ++ B)) := fun p hp => by
  simp only [List.mem_cons, List.mem_append] at hp ⊢
  rcases hp with h | h | h | (h | h) | h
  · exact .inr (.inl h)
  · exact .inr (.inr (.inl h))
  · exact .inr (.inr (.inr (.inl h)))
  · exact .inl h
  · exact .inr (.inr (.inr (.inr (.inl h))))
  · exact .inr (.inr (.inr (.inr (.inr h))))
theorem updOne_len (a b : Int) (es : List Ent) (t : Nat × Nat × Nat) : (updOne a b es t).length = es.length := by unfold updOne; simp
theorem foldA_len (sp : Int) (ns : List Int) (d : Du) (c b : Nat) (es : List Ent) : ∀ k, (foldA sp ns d c b es k).length = es.length
  | 0 => rfl
  | k + 1 => by
    rw [foldA_succ, stepA]
    split
    · show (updOne _ _ (updOne _ _ (updOne _ _ _ _) _) _).length = _
      rw [updOne_len, updOne_len, updOne_len, foldA_len sp ns d c b es k]
    · exact foldA_len sp ns d c b es k
theorem foldB_len (sp : Int) (ns : List Int) (d : Du) (c : Nat) (es : List Ent) : ∀ k, (foldB sp ns d c es k).length = es.length
  | 0 => rfl
  | k + 1 => by rw [foldB_succ, foldA_len, foldB_len sp ns d c es k]
theorem foldC_len (sp : Int) (ns : List Int) (d : Du) (es : List Ent) : ∀ k, (foldC sp ns d es k).length = es.length
  | 0 => rfl
  | k + 1 => by rw [foldC_succ, foldB_len, foldC_len sp ns d es k]
theorem rot3 {α : Type} {I R A : α} {S : List α} : ∀ p ∈ I :: R :: A :: S, p ∈ R :: A :: I :: S := fun p hp => by
  simp only [List.mem_cons] at hp ⊢
  rcases hp with h | h | h | h
  · exact .inr (.inr (.inl h))
  · exact .inl h
  · exact .inr (.inl h)
  · exact .inr (.inr (.inr h))
theorem sub6 {α : Type} {I2 R A I T : α} {S : List α} : ∀ p ∈ I2 :: R :: A :: I :: T :: S, p ∈ T :: I2 :: R :: A :: I :: S := fun p hp => by
  simp only [List.mem_cons] at hp ⊢
  rcases hp with h | h | h | h | h | h
  · exact .inr (.inl h)
  · exact .inr (.inr (.inl h))
  · exact .inr (.inr (.inr (.inl h)))
  · exact .inr (.inr (.inr (.inr (.inl h))))
  · exact .inl h
  · exact .inr (.inr (.inr (.inr (.inr h))))
local macro_rules | `(tactic| walk_at "exec For Name Subscript cons nil") => `(tactic| (k_here; (rename Fr _ _ _ _ => lF'); with_unfolding_all ((refine' For_turns lF' ?_); k_whole)))
theorem slice_from_at {prog : Program} {w : World} {A : Around} {E : Value → Shared → Prop} {s : Shared} {h₀ : Heap} {L l : Addr} {m : Str → Option Value} {news : List (Addr × Obj)} {vs : List Value} {n i : Nat} {x : Int} {t : Tok} {value slice : PySem.Expr} {Q : Value → Shared → Prop} (F : Fr h₀ L s.heap m) (N : News h₀ L s.heap news) (hm : (l, ({ cls := .type "list", data := .seq vs.toArray n } : Obj)) ∈ news) (ex : x = (i : Int)) (hi : i ≤ vs.length) (hz : vs.length ≤ 1000)
    (h : ∀ D h', Fr h₀ L h' m → News h₀ L h' ((D, W.listOf (vs.drop i).toArray 0) :: news) → (∀ p ∈ news, p.1 < D) → Q (.ref D) { s with heap := h' })
    (hs : subscripted slice false (.ref l) (.ref s.heap.objs.size) = operate [.ref s.heap.objs.size, .ref l] (getItem (.ref l) (.ref s.heap.objs.size)) := by with_unfolding_all rfl) (ht : ∀ r, letTemporaryGo value (.ref l) r = pure () := by intro _; with_unfolding_all rfl) :
    wpAny (model prog w) A (subscriptTail value slice (.ref l) (.ref s.heap.objs.size)) Q E { s with heap := s.heap.push { cls := .type "slice", data := .fields #[.int x t, .none, .none] } } := by
  subst ex
  exact kmk_slice_lit (lo := some (i : Int)) (hi := none) (zs := vs.drop i) F N ⟨_, (N _ hm).1, rfl, n, rfl⟩ (by constructor) (by constructor) (by rw [slicePick_from' vs.toArray i]) h hs ht (by rw [List.size_toArray, PySem.sizeLine_eq]; lia)
noncomputable def gRow (E : Nat → Nat → Int) (i k : Nat) : List (Int × Bool) := (List.range k).map fun d => (E i (i + 1 + d), decide (E i (i + 1 + d) % 2 = 0))
noncomputable def gRows (E : Nat → Nat → Int) (n i : Nat) : List (Int × Bool) := (List.range i).flatMap fun a => gRow E a (n - (a + 1))
theorem gRow_succ (E : Nat → Nat → Int) (i k : Nat) : gRow E i (k + 1) = gRow E i k ++ [(E i (i + 1 + k), decide (E i (i + 1 + k) % 2 = 0))] := by
  unfold gRow; rw [List.range_succ, List.map_append]; rfl
theorem gRows_succ (E : Nat → Nat → Int) (n i : Nat) : gRows E n (i + 1) = gRows E n i ++ gRow E i (n - (i + 1)) := by
  unfold gRows; rw [List.range_succ, List.flatMap_append]; simp
theorem gRow_len (E : Nat → Nat → Int) (i k : Nat) : (gRow E i k).length = k := by unfold gRow; simp
theorem gRows_len (E : Nat → Nat → Int) (n : Nat) : ∀ i, (gRows E n i).length ≤ i * n
  | 0 => by simp [gRows]
  | i + 1 => by
    rw [gRows_succ, List.length_append, gRow_len, Nat.succ_mul]
    have := gRows_len E n i
    lia
theorem len_at {prog : Program} {w : World} {A : Around} {E : Value → Shared → Prop} {s : Shared} {h₀ : Heap} {L l : Addr} {news : List (Addr × Obj)} {vs : List Value} {n : Nat} {Q : Value → Shared → Prop} (N : News h₀ L s.heap news) (hm : (l, ({ cls := .type "list", data := .seq vs.toArray n } : Obj)) ∈ news) (hz : vs.length ≤ 1000)
    (h : Q (.int vs.length (s.toks + 1)) { s with toks := s.toks + 1 + 1 }) : wpAny (model prog w) A (call (.builtin "len") [.ref l]) Q E s :=
  len_list (items := vs.toArray) ⟨_, (N _ hm).1, rfl, n, rfl⟩ (by rw [List.size_toArray]; lia) (by rw [List.size_toArray]; exact h)
local macro_rules | `(tactic| walk_at "call builtin:len") => `(tactic| (k_here; (with_reducible show wpAny _ _ (call (Value.builtin "len") [Value.ref _]) _ _ _); k_dflt (refine' len_at ?N ?m ?z ?_; (case N => k_asm); (case m => k_mem); (case z => with_reducible assumption))))
theorem tri_out {I : Addr × Obj} {l B R : List (Addr × Obj)} (h : ∀ p ∈ I :: B, p ∈ R) : ∀ p ∈ I :: (l ++ B), p ∈ l ++ R := fun p hp => by
  rcases List.mem_cons.mp hp with rfl | hp
  · exact List.mem_append_right _ (h _ (.head _))
  rcases List.mem_append.mp hp with hp | hp
  · exact List.mem_append_left _ hp
  · exact List.mem_append_right _ (h _ (.tail _ hp))
inductive TripAt (R : List (Addr × Obj)) (v : Value) (t : Nat × Nat × Nat) : Prop
  | mk (T : Addr) (n : Nat) (s1 s2 s3 : Tok) (e1 : v = .ref T) (e2 : (T, ({ cls := .type "tuple", data := .seq #[.int (0 + (t.1 : Int)) s1, .int (0 + (t.2.1 : Int)) s2, .int (0 + (t.2.2 : Int)) s3] n } : Obj)) ∈ R) : TripAt R v t
noncomputable def TripsAt (R : List (Addr × Obj)) : List (Nat × Nat × Nat) → List Value → Prop
  | [], [] => True
  | t :: ts, v :: vs => TripAt R v t ∧ TripsAt R ts vs
  | _, _ => False
theorem news_mid5 {h₀ h : Heap} {L : Addr} {I a b c e : Addr × Obj} {l B : List (Addr × Obj)} (N : News h₀ L h (a :: b :: c :: e :: I :: (l ++ B))) : News h₀ L h (l ++ a :: b :: c :: e :: I :: B) := fun p hp => N p (by
  simp only [List.mem_cons, List.mem_append] at hp ⊢
  rcases hp with h | h | h | h | h | h | h
  · exact .inr (.inr (.inr (.inr (.inr (.inl h)))))
  · exact .inl h
  · exact .inr (.inl h)
  · exact .inr (.inr (.inl h))
  · exact .inr (.inr (.inr (.inl h)))
  · exact .inr (.inr (.inr (.inr (.inl h))))
  · exact .inr (.inr (.inr (.inr (.inr (.inr h))))))
theorem tri_setup {w : World} {h₀ h : Heap} {L : Addr} {I a b c e : Addr × Obj} {sl : List Slot} {B : List (Addr × Obj)} {ts : List Addr} {es : List Ent} (N : News h₀ L h (a :: b :: c :: e :: I :: (chunk sl ++ B))) (hs : SlotsAt w ts es sl B)
    (ca : ∀ p ∈ chunk sl, p.1 ≠ a.1) (cb : ∀ p ∈ chunk sl, p.1 ≠ b.1) (cc : ∀ p ∈ chunk sl, p.1 ≠ c.1) (ce : ∀ p ∈ chunk sl, p.1 ≠ e.1) (cI : ∀ p ∈ chunk sl, p.1 ≠ I.1) :
    ∃ R4, R4 = a :: b :: c :: e :: I :: B ∧ News h₀ L h (chunk sl ++ R4) ∧ SlotsAt w ts es sl R4 :=
  ⟨_, rfl, news_mid5 N, ((((hs.more (o := I.2) cI).more (o := e.2) ce).more (o := c.2) cc).more (o := b.2) cb).more (o := a.2) ca⟩
theorem tri_m0 {R : List (Addr × Obj)} {a : Addr × Obj} {l : List (Addr × Obj)} (h : R = a :: l) : a ∈ R := by rw [h]; exact .head _
theorem tri_m1 {R : List (Addr × Obj)} {a b : Addr × Obj} {l : List (Addr × Obj)} (h : R = a :: b :: l) : b ∈ R := by rw [h]; exact .tail _ (.head _)
theorem tri_m2 {R : List (Addr × Obj)} {a b c : Addr × Obj} {l : List (Addr × Obj)} (h : R = a :: b :: c :: l) : c ∈ R := by rw [h]; exact .tail _ (.tail _ (.head _))
theorem tri_m3 {R : List (Addr × Obj)} {a b c e : Addr × Obj} {l : List (Addr × Obj)} (h : R = a :: b :: c :: e :: l) : e ∈ R := by rw [h]; exact .tail _ (.tail _ (.tail _ (.head _)))
local macro_rules | `(tactic| walk_at "testChain") => `(tactic| first | with_reducible refine test_link ?_ | refine test_link ?_ | refine test_last ?_)
theorem mid_mem {I : Addr × Obj} {l B : List (Addr × Obj)} : ∀ p ∈ I :: (l ++ B), p ∈ l ++ I :: B := fun p hp => by
  simp only [List.mem_cons, List.mem_append] at hp ⊢
  rcases hp with h | h | h
  · exact .inr (.inl h)
  · exact .inl h
  · exact .inr (.inr h)
theorem news_mid {h₀ h : Heap} {L : Addr} {I : Addr × Obj} {l B : List (Addr × Obj)} (N : News h₀ L h (I :: (l ++ B))) : News h₀ L h (l ++ I :: B) := fun p hp => N p (by
  simp only [List.mem_cons, List.mem_append] at hp ⊢
  rcases hp with h | h | h
  · exact .inr (.inl h)
  · exact .inl h
  · exact .inr (.inr h))
theorem slot_new {h₀ h : Heap} {L aL aD : Addr} {oD : Obj} {s1 s2 s3 s4 : Tok} {n : Nat} {l : List (Addr × Obj)} (N : News h₀ L h ((aL, { cls := .type "list", data := .seq #[.int 0 s1, .int 0 s2, .int 0 s3, .int 0 s4, .ref aD] n }) :: (aD, oD) :: l)) :
    ∃ x : Slot, x.t = aL ∧ x.d = aD ∧ x.o = oD ∧ x.kvs = [] ∧ x.e = Ent.zero ∧ News h₀ L h (x.tO :: x.dO :: l) := ⟨⟨aL, aD, oD, [], n, s1, s2, s3, s4, Ent.zero⟩, rfl, rfl, rfl, rfl, rfl, N⟩
theorem cend_sub {C D : Addr × Obj} {own B : List (Addr × Obj)} {l : List Slot} {x : Slot} : ∀ p ∈ C :: D :: (own ++ (chunk (l ++ [x]) ++ B)), p ∈ x.tO :: x.dO :: C :: D :: (own ++ (chunk l ++ B)) := fun p hp => by
  rw [chunk_app] at hp
  simp only [chunk, List.mem_cons, List.mem_append, List.not_mem_nil, or_false] at hp ⊢
  rcases hp with h | h | h | (h | h | h) | h
  · exact .inr (.inr (.inl h))
  · exact .inr (.inr (.inr (.inl h)))
  · exact .inr (.inr (.inr (.inr (.inl h))))
  · exact .inr (.inr (.inr (.inr (.inr (.inl h)))))
  · exact .inl h
  · exact .inr (.inl h)
  · exact .inr (.inr (.inr (.inr (.inr (.inr h)))))
noncomputable def octF (s : Int) (d : Du) (acc : List Int) (k : Int) : List Int :=
  [(light s (wcAt d.m k).1 (colP (pAt d.ps k))).2.2, (light s (wcAt d.m k).1 (colP (pAt d.ps k))).2.1, (light s (wcAt d.m k).1 (colP (pAt d.ps k))).1] ++ acc
theorem getD_map1 (l : List (Int × Nat)) (i : Nat) : (l.map (·.1)).getD i 0 = (l.getD i (0, 0)).1 := by
  rw [List.getD_eq_getElem?_getD, List.getD_eq_getElem?_getD, List.getElem?_map]
  cases l[i]? <;> rfl
theorem oct_eq (w s ix : Int) (c : Nat) (acc : List Int) (h : ix = c) : [(if ix = 2 then w + s else w), (if ix = 1 then w + s else w), (if ix = 0 then w + s else w)] ++ acc = [(light s w c).2.2, (light s w c).2.1, (light s w c).1] ++ acc := by
  subst h
  unfold light
  have e0 : ((c : Int) = 0) ↔ c = 0 := by lia
  have e1 : ((c : Int) = 1) ↔ c = 1 := by lia
  have e2 : ((c : Int) = 2) ↔ c = 2 := by lia
  simp only [e0, e1, e2]
  congr 2
  · split <;> simp
  · congr 1
    · split <;> simp
    · congr 1
      split <;> simp
theorem oct_bnd {d : Du} {s : Int} {acc : List Int} {k : Int} (w0 : 0 ≤ (wcAt d.m k).1) (w1 : (wcAt d.m k).1 < 64) (s0 : 40 ≤ s) (s1 : s < 140) (h : ∀ x ∈ acc, 0 ≤ x ∧ x < 256) : ∀ x ∈ octF s d acc k, 0 ≤ x ∧ x < 256 := by
  intro x hx
  unfold octF light at hx
  simp only [List.cons_append, List.nil_append, List.mem_cons] at hx
  rcases hx with h1 | h1 | h1 | hx
  · split at h1 <;> lia
  · split at h1 <;> lia
  · split at h1 <;> lia
  · exact h x hx
theorem due_sub3 {α : Type} {I D a b c : α} {l : List α} : ∀ p ∈ I :: D :: l, p ∈ D :: a :: b :: I :: c :: l := fun p hp => by
  simp only [List.mem_cons] at hp ⊢
  rcases hp with h | h | h
  · exact .inr (.inr (.inr (.inl h)))
  · exact .inl h
  · exact .inr (.inr (.inr (.inr (.inr h))))
theorem fmod_ix (p1 p2 : Int) : 0 ≤ p2.fmod 2 * (2 - p1.fmod 2) ∧ p2.fmod 2 * (2 - p1.fmod 2) < 3 ∧ p2.fmod 2 * (2 - p1.fmod 2) = (colP (p1, p2) : Int) := by
  have e1 : p1.fmod 2 = p1 % 2 := Int.fmod_eq_emod_of_nonneg _ (by decide)
  have e2 : p2.fmod 2 = p2 % 2 := Int.fmod_eq_emod_of_nonneg _ (by decide)
  rw [e1, e2]
  unfold colP
  dsimp only
  have h1 : p1 % 2 = 0 ∨ p1 % 2 = 1 := by lia
  have h2 : p2 % 2 = 0 ∨ p2 % 2 = 1 := by lia
  rcases h1 with h1 | h1 <;> rcases h2 with h2 | h2 <;> rw [h1, h2] <;> decide
section
variable {prog : Program} {w : World} {A : Around} {E : Value → Shared → Prop} {s : Shared} {h₀ : Heap} {L D : Addr} {m : Str → Option Value} {news news' : List (Addr × Obj)} {n : Nat} {k a b c x : Int} {t tx t0 t1 t2 : Tok}
theorem getItem3 {l : Addr} {Q : Value → Shared → Prop} (N : News h₀ L s.heap news) (hm : (l, listOf #[.int a t0, .int a t1, .int a t2] n) ∈ news) (h0 : 0 ≤ k) (h1 : k < 3) (h : ∀ t', Q (.int a t') s) : wpAny (model prog w) A (getItem (.ref l) (.int k t)) Q E s := by
  have hk : k = 0 ∨ k = 1 ∨ k = 2 := by lia
  rcases hk with rfl | rfl | rfl
  · exact getItem_at (vs := [.int a t0, .int a t1, .int a t2]) N hm (by decide) (by decide) rfl (h _)
  · exact getItem_at (vs := [.int a t0, .int a t1, .int a t2]) N hm (by decide) (by decide) rfl (h _)
  · exact getItem_at (vs := [.int a t0, .int a t1, .int a t2]) N hm (by decide) (by decide) rfl (h _)
theorem setItem3 {Q : Unit → Shared → Prop} (F : Fr h₀ L s.heap m) (N : News h₀ L s.heap news) (h0 : 0 ≤ k) (h1 : k < 3)
    (U : Upd D (listOf #[.int a t0, .int b t1, .int c t2] n) (listOf #[.int (if k = 0 then x else a) (if k = 0 then tx else t0), .int (if k = 1 then x else b) (if k = 1 then tx else t1), .int (if k = 2 then x else c) (if k = 2 then tx else t2)] n) news news')
    (h : ∀ h', Fr h₀ L h' m → News h₀ L h' news' → Q () { s with heap := h' }) : wpAny (model prog w) A (setItem (.ref D) (.int k t) (.int x tx)) Q E s := by
  have hk : k = 0 ∨ k = 1 ∨ k = 2 := by lia
  rcases hk with rfl | rfl | rfl
  · exact setItem_at (vs := [.int a t0, .int b t1, .int c t2]) F N U (by decide) (by simp) (by decide) h
  · exact setItem_at (vs := [.int a t0, .int b t1, .int c t2]) F N U (by decide) (by simp) (by decide) h
  · exact setItem_at (vs := [.int a t0, .int b t1, .int c t2]) F N U (by decide) (by simp) (by decide) h
end
local macro_rules | `(tactic| walk_at "getItem ref int") => `(tactic| (k_here; (with_reducible show wpAny _ _ (getItem (Value.ref _) (Value.int _ _)) _ _ _); k_dflt (refine' getItem3 ?N ?m ?a ?b ?_; (case N => k_asm); (case m => k_mem); (case a => assumption); (case b => assumption)); intro t'))
local macro_rules | `(tactic| walk_at "setItem ref int") => `(tactic| (k_here; (with_reducible show wpAny _ _ (setItem (Value.ref _) (Value.int _ _) (Value.int _ _)) _ _ _); k_dflt (refine' setItem3 ?F ?N ?a ?b ?U ?_; (case F => k_asm); (case N => k_asm); (case U => k_upd); (case a => assumption); (case b => assumption)); intro h' F' N'; (try dsimp only at N'); (try k_sweep)))
local macro_rules | `(tactic| k_mem) => `(tactic| (first | assumption | ((refine List.Mem.tail _ ?_);  assumption) | ((refine List.Mem.tail _ ?_); (refine List.Mem.tail _ ?_);  assumption) | ((refine List.Mem.tail _ ?_); (refine List.Mem.tail _ ?_); (refine List.Mem.tail _ ?_);  assumption) | ((refine List.Mem.tail _ ?_); (refine List.Mem.tail _ ?_); (refine List.Mem.tail _ ?_); (refine List.Mem.tail _ ?_);  assumption) | ((refine List.Mem.tail _ ?_); (refine List.Mem.tail _ ?_); (refine List.Mem.tail _ ?_); (refine List.Mem.tail _ ?_); (refine List.Mem.tail _ ?_);  assumption) | ((refine List.Mem.tail _ ?_); (refine List.Mem.tail _ ?_); (refine List.Mem.tail _ ?_); (refine List.Mem.tail _ ?_); (refine List.Mem.tail _ ?_); (refine List.Mem.tail _ ?_);  assumption)))
theorem base_of {h₀ h : Heap} {L : Addr} {a : Addr × Obj} {B : List (Addr × Obj)} (N : News h₀ L h (a :: B)) : ∃ B', B' = B ∧ News h₀ L h (a :: B') := ⟨B, rfl, N⟩
theorem run_whites (s : Int) (ns : List Int) : (runM s ns).wc.map (·.1) = [5, 10, 15] ++ ns.map wnew := by
  unfold runM
  suffices h : ∀ m : Mo, (ns.foldl (stepM s) m).wc.map (·.1) = m.wc.map (·.1) ++ ns.map wnew from h _
  induction ns with
  | nil => intro m; simp
  | cons n r ih => intro m; rw [List.foldl_cons, ih]; simp [stepM]
theorem ints_of : ∀ {vs : List Value} {is : List Int}, vs.length = is.length → (∀ (j : Nat) (v : Value), vs[j]? = some v → ∃ t, v = Value.int (is.getD j 0) t) → IntsAre vs is
  | [], [], _, _ => .nil
  | v :: vs, i :: is, hl, h => by
    obtain ⟨t, rfl⟩ := h 0 v rfl
    exact .cons _ _ (ints_of (by simpa using hl) fun j v e => h (j + 1) v e)
theorem ints_at {vs : List Value} {is : List Int} (h : IntsAre vs is) : ∀ {j : Nat} {v : Value}, vs[j]? = some v → ∃ n t, is[j]? = some n ∧ v = Value.int n t := by
  induction h with
  | nil => intro j v e; simp at e
  | cons n t _ ih =>
    intro j v e
    cases j with
    | zero => cases e; exact ⟨n, t, rfl, rfl⟩
    | succ j => exact ih e
theorem PairAt.of {news : List (Addr × Obj)} {t : Addr} {n : Nat} {x y : Int} {p : Int × Int} {s1 s2 : Tok} (h : (t, ({ cls := .type "tuple", data := .seq #[.int x s1, .int y s2] n } : Obj)) ∈ news) (e1 : x = p.1) (e2 : y = p.2) : PairAt news (.ref t) p := by
  subst e1; subst e2; exact ⟨t, n, s1, s2, rfl, h⟩
theorem due_sub2 {α : Type} {I P R C T : α} {l : List α} : ∀ p ∈ I :: P :: R :: C :: T :: l, p ∈ T :: I :: P :: R :: C :: l := fun p hp => by
  simp only [List.mem_cons] at hp ⊢
  rcases hp with h | h | h | h | h | h
  · exact .inr (.inl h)
  · exact .inr (.inr (.inl h))
  · exact .inr (.inr (.inr (.inl h)))
  · exact .inr (.inr (.inr (.inr (.inl h))))
  · exact .inl h
  · exact .inr (.inr (.inr (.inr (.inr h))))
theorem due_sub {α : Type} {P R C a b c : α} {l : List α} : ∀ p ∈ P :: R :: C :: a :: b :: c :: l, p ∈ P :: a :: b :: c :: R :: C :: l := fun p hp => by
  simp only [List.mem_cons] at hp ⊢
  rcases hp with h | h | h | h | h | h | h
  · exact .inl h
  · exact .inr (.inr (.inr (.inr (.inl h))))
  · exact .inr (.inr (.inr (.inr (.inr (.inl h)))))
  · exact .inr (.inl h)
  · exact .inr (.inr (.inl h))
  · exact .inr (.inr (.inr (.inl h)))
  · exact .inr (.inr (.inr (.inr (.inr (.inr h)))))
structure DTurn (sp : Int) (ns : List Int) (aN : Addr) (vN : List Value) (nN : Nat) (news : List (Addr × Obj)) (d : Du) (ns' : List Int) (r rvs pvs : List Value) (aC aR aP : Addr) (rest : List (Addr × Obj)) : Prop where
  vals : IntsAre r ns'
  nn : ∀ n ∈ ns', 0 ≤ n
  run : ns'.foldl (stepD sp) d = runD sp ns
  good : GoodD d
  len : d.m.ring.length + ns'.length ≤ 9
  ring : IntsAre rvs d.m.ring
  prs : PairsAt d.ps pvs rest
  offR : ∀ p ∈ rest, p.1 ≠ aR
  offP : ∀ p ∈ rest, p.1 ≠ aP
  offC : ∀ p ∈ rest, p.1 ≠ aC
  nums : (aN, ({ cls := .type "list", data := .seq vN.toArray nN } : Obj)) ∈ rest
  old : ∀ p ∈ news, p ∈ rest
theorem pow_le64 {n : Nat} (h : n ≤ 9) : 2 ^ (n - 3) ≤ 64 := Nat.le_trans (Nat.pow_le_pow_right (by decide) (by lia : n - 3 ≤ 6)) (by decide)
inductive DuePost (w : World) (sp : Int) (ns : List Int) (news : List (Addr × Obj)) (r : Value) (news' : List (Addr × Obj)) : Prop
  | mk (t aE aRw : Addr) (nT nE nR : Nat) (evs rvs : List Value) (tb : Tok) (e1 : r = .ref t) (e2 : (t, ({ cls := .type "tuple", data := .seq #[.bytes (byteArr ((runD sp ns).m.ring.foldl (octF sp (runD sp ns)) [])) tb, .ref aE, .ref aRw] nT } : Obj)) ∈ news') (e3 : (aE, ({ cls := .type "list", data := .seq evs.toArray nE } : Obj)) ∈ news') (e4 : (aRw, ({ cls := .type "list", data := .seq rvs.toArray nR } : Obj)) ∈ news') (e5 : Ens w (foldC sp ns (runD sp ns) (List.replicate (runD sp ns).m.ring.length Ent.zero) (runD sp ns).m.ring.length) evs news') (e6 : RowsAt (gRows (fun i j => entA (pAt (runD sp ns).ps ((runD sp ns).m.ring.reverse.getD i 0)) (pAt (runD sp ns).ps ((runD sp ns).m.ring.reverse.getD j 0))) (runD sp ns).m.ring.length (runD sp ns).m.ring.length) rvs news') (e7 : ∀ p ∈ news, p ∈ news') : DuePost w sp ns news r news'
inductive TurnJ (sp : Int) (ns : List Int) (aN : Addr) (vN : List Value) (nN : Nat) (news : List (Addr × Obj)) (L' aR aP : Addr) (oC : Obj) (r : List Value) (u : Str → Option Value) (nw : List (Addr × Obj)) : Prop
  | mk (d : Du) (ns' : List Int) (rvs pvs : List Value) (nR nP : Nat) (rest : List (Addr × Obj)) (e1 : nw = (aP, ({ cls := .type "list", data := .seq pvs.toArray nP } : Obj)) :: (aR, ({ cls := .type "list", data := .seq rvs.toArray nR } : Obj)) :: (L' + 1, oC) :: rest) (e2 : DTurn sp ns aN vN nN news d ns' r rvs pvs (L' + 1) aR aP rest) : TurnJ sp ns aN vN nN news L' aR aP oC r u nw
inductive OctJ (sp : Int) (d : Du) (B : List (Addr × Obj)) (r : List Value) (u : Str → Option Value) (nw : List (Addr × Obj)) : Prop
  | mk (ks acc : List Int) (ovs : List Value) (oa : Addr) (nO : Nat) (e1 : nw = (oa, ({ cls := .type "list", data := .seq ovs.toArray nO } : Obj)) :: B) (e2 : IntsAre r ks) (e3 : (∀ k ∈ ks, k ∈ d.m.ring)) (e4 : ks.foldl (octF sp d) acc = d.m.ring.foldl (octF sp d) []) (e5 : acc.length + 3 * ks.length ≤ 27) (e6 : (∀ x ∈ acc, 0 ≤ x ∧ x < 256)) (e7 : IntsAre ovs acc) (e8 : u (Str.ofString "octets") = some (.ref oa)) (e9 : ∀ p ∈ B, p.1 ≠ oa) : OctJ sp d B r u nw
inductive TriJ (w : World) (sp : Int) (ns : List Int) (d : Du) (ts' : List Addr) (a b c : Nat) (R4 : List (Addr × Obj)) (r : List Value) (u : Str → Option Value) (nw : List (Addr × Obj)) : Prop
  | mk (trs : List (Nat × Nat × Nat)) (es : List Ent) (sl : List Slot) (e1 : nw = chunk sl ++ R4) (e2 : SlotsAt w ts' es sl R4) (e3 : trs.foldl (updOne (([1] ++ ns).getD (c - 2) 0) (octT sp d a b c)) es = (triL a b c).foldl (updOne (([1] ++ ns).getD (c - 2) 0) (octT sp d a b c)) (foldA sp ns d c b (foldB sp ns d c (foldC sp ns d (List.replicate d.m.ring.length Ent.zero) c) b) a)) (e4 : TripsAt R4 trs r) (e5 : (∀ t ∈ trs, t.1 < d.m.ring.length)) (e6 : ∀ e ∈ es, e.c.length + 2 * trs.length ≤ 10006) : TriJ w sp ns d ts' a b c R4 r u nw
inductive KeyJ (w : World) (qe : Ent) (y z : Nat) (aK qt qd I4 : Addr) (oI4 : Obj) (R5 : List (Addr × Obj)) (oK oT : Obj) (r : List Value) (u : Str → Option Value) (nw : List (Addr × Obj)) : Prop
  | mk (ks : List Int) (cc : List (Int × Int)) (o : Obj) (kvs : List (Int × Value)) (e1 : IntsAre r ks) (e2 : ks.foldl (fun c k => kdfPut c k (kdfLook c k 0 + 1)) cc = addTo qe.c [((y : Int), 1), ((z : Int), 1)]) (e3 : nw = (aK, oK) :: (qt, oT) :: (qd, o) :: (I4, oI4) :: R5) (e4 : o.IsDictOf (PySem.intKind Challenge.rw_zn0015_01.row.prog w) kvs) (e5 : PyProof.V.FlatPairs PyData.int kvs (kdfD cc)) (e6 : (cc.map (·.1)).Nodup) (e7 : cc.length + ks.length ≤ 20000) : KeyJ w qe y z aK qt qd I4 oI4 R5 oK oT r u nw
inductive RowJ (d : Du) (aRw : Addr) (S0 : List (Addr × Obj)) (i : Nat) (u : Str → Option Value) (nw : List (Addr × Obj)) : Prop
  | mk (rvs2 : List Value) (nR2 : Nat) (S : List (Addr × Obj)) (e1 : nw = (aRw, { cls := .type "list", data := .seq rvs2.toArray nR2 }) :: S) (e2 : RowsAt (gRows (fun i j => entA (pAt d.ps (d.m.ring.reverse.getD i 0)) (pAt d.ps (d.m.ring.reverse.getD j 0))) d.m.ring.length i) rvs2 S) (e3 : (∀ p ∈ S, p.1 ≠ aRw)) (e4 : ∀ p ∈ S0, p ∈ S) : RowJ d aRw S0 i u nw
inductive RowJ2 (d : Du) (ys : List Value) (i : Nat) (aRw aS I : Addr) (oI : Obj) (S0 : List (Addr × Obj)) (r : List Value) (u : Str → Option Value) (nw : List (Addr × Obj)) : Prop
  | mk (k : Nat) (rvs2 : List Value) (nR2 : Nat) (S : List (Addr × Obj)) (e1 : nw = (aRw, { cls := .type "list", data := .seq rvs2.toArray nR2 }) :: (aS, { cls := .type "list", data := .seq (ys.drop (i + 1)).toArray }) :: (I, oI) :: S) (e2 : r = ys.drop (i + 1 + k)) (e3 : i + 1 + k ≤ d.m.ring.length) (e4 : RowsAt (gRows (fun i j => entA (pAt d.ps (d.m.ring.reverse.getD i 0)) (pAt d.ps (d.m.ring.reverse.getD j 0))) d.m.ring.length i ++ gRow (fun i j => entA (pAt d.ps (d.m.ring.reverse.getD i 0)) (pAt d.ps (d.m.ring.reverse.getD j 0))) i k) rvs2 S) (e5 : (∀ p ∈ S, p.1 ≠ aRw)) (e6 : (∀ p ∈ S, p.1 ≠ I)) (e7 : (∀ p ∈ S, p.1 ≠ aS)) (e8 : ∀ p ∈ S0, p ∈ S) : RowJ2 d ys i aRw aS I oI S0 r u nw
noncomputable def Sc139 : Prop := ∀ (w : World) (aN : Addr) (vN : List Value) (ns : List Int) (nN : Nat) (sp : Int) (ts : Tok) (news : List (Addr × Obj)),
   (aN, ({ cls := .type "list", data := .seq vN.toArray nN } : Obj)) ∈ news → IntsAre vN ns → 0 < ns.length → ns.length ≤ 6 → (∀ n ∈ ns, 0 ≤ n) → 40 ≤ sp → sp < 140 →
   Ct w 139 60 news [.ref aN, .int sp ts] (DuePost w sp ns news)
noncomputable def kTc139 : {P : (yW→yN→yVS→yIS→yN→yI→yN→yR→yLS→ymean→yM→yM→yN→yN→ycn→ycs→yN→yV→ycl→youter→yA→yH→yH→yN→yM→ys→yQ→yQ→yH→yN→yH→yN→yO→Prop) // (∀ x1 x2 x3 x4 x5 x6 x7 x8 x9 x10 x11 x12 x13 x14 x15 x16 x17 x18 x19 x20 x21 x22 x23 x24 x25 x26 x27 x28 x29 x30 x31 x32 x33, P x1 x2 x3 x4 x5 x6 x7 x8 x9 x10 x11 x12 x13 x14 x15 x16 x17 x18 x19 x20 x21 x22 x23 x24 x25 x26 x27 x28 x29 x30 x31 x32 x33) → Sc139} := by
  refine' ⟨_, fun hPA1 => ?main⟩
  case main =>
    unfold Sc139
    unfold Ct
    k_fill
    intro w aN vN ns nN sp ts news hmN hiN hlN0 hlN hn0 hs0 hs1
    intros
    rename_i hret
    w_on
    refine wpAny_call ?_
    k_dflt (refine' code_defC ?k1 ?k2 ?k3 ?k4 ?k5 ?kA ?kF ?kK ?k6 ?k7 ?k8 ?k9 ?kB ?kD ?_ ?c2 ?c3 ?c4; (case kA => exact rfl); (case kF => exact rfl); (case kK => assumption); (case k1 => k_asm); (case k2 => k_asm); (case k3 => k_asm); (case k4 => k_asm); (case k5 => k_asm); (case k6 => k_is); (case k7 => k_is); (case k8 => ktr_room); (case k9 => exact BindsTo.of_eq rfl); (case kB => exact rfl); (case kD => decide +kernel); (case c2 => exact rfl); (case c3 => exact rfl); (case c4 => exact rfl); k_whole; intro g' L' h' tk' cells' FG' F' N' Y' B' X' T' l1; k_cells Y'; (try simp only [List.cons_append, List.nil_append] at N'); (try dsimp only); (try k_fold))
    rename_i oC0 dC0
    rename_i qz1 qz2 qz3 qz4 qz5 qz6 qz7 qz8 aA13 qz10 qz11 qz12 qz13 qz14 qz15 qz16 qz17 qz18 qz19 qz20 qz21 qz22 qz23 qz24 qz25 qz26 qz27 qz28
    revert hmN hiN hlN0 hlN hn0 hs0 hs1 qz23 qz25 qz27 qz28 hret F' B' X' T' l1 dC0 N'
    exact hPA1 w aN vN ns nN sp ts news qz1 qz2 qz3 qz4 qz5 qz6 qz7 qz8 aA13 qz10 qz11 qz12 qz13 qz14 qz15 qz16 qz17 qz18 qz19 qz20 g' L' h' tk' oC0
noncomputable def pA1 (v : Vars) : Prop := kTc139.1 (v.W 0) (v.N 0) (v.VS 0) (v.IS 0) (v.N 1) (v.I 0) (v.N 2) (v.R 0) (v.LS 0) (v.mean 0) (v.M 0) (v.M 1) (v.N 3) (v.N 4) (v.cn 0) (v.cs 0) (v.N 5) (v.V 0) (v.cl 0) (v.outer 0) (v.A 0) (v.H 0) (v.H 1) (v.N 6) (v.M 2) (v.s 0) (v.Q 0) (v.Q 1) (v.H 2) (v.N 7) (v.H 3) (v.N 8) (v.O 0)
@[irreducible] noncomputable def vA1 : Vars := hk pA1
noncomputable def ktA1 : {P : (yN→yH→yH→yN→yH→yN→yH→yN→yH→yN→yH→yH→yO→yR→yVS→yM→yH→yN→yN→yO→yD→yVS→yVS→yN→yN→yR→yI→yN→yIS→yMO→yN→yN→yN→yN→yN→yN→yN→yN→yI→yI→yI→yI→Prop) × (yN→yH→yH→yN→yH→yN→yH→yN→yH→yN→yH→yH→yO→yR→yM→yH→yN→yD→yVS→yVS→yN→yN→yR→Prop) // (∀ x1 x2 x3 x4 x5 x6 x7 x8 x9 x10 x11 x12 x13 x14 x15 x16 x17 x18 x19 x20 x21 x22 x23 x24 x25 x26 x27 x28 x29 x30 x31 x32 x33 x34 x35 x36 x37 x38 x39 x40 x41 x42, P.1 x1 x2 x3 x4 x5 x6 x7 x8 x9 x10 x11 x12 x13 x14 x15 x16 x17 x18 x19 x20 x21 x22 x23 x24 x25 x26 x27 x28 x29 x30 x31 x32 x33 x34 x35 x36 x37 x38 x39 x40 x41 x42) → (∀ x1 x2 x3 x4 x5 x6 x7 x8 x9 x10 x11 x12 x13 x14 x15 x16 x17 x18 x19 x20 x21 x22 x23, P.2 x1 x2 x3 x4 x5 x6 x7 x8 x9 x10 x11 x12 x13 x14 x15 x16 x17 x18 x19 x20 x21 x22 x23) → pA1 vA1} := by
  refine' ⟨((_ : yW→yN→yVS→yIS→yN→yI→yN→yR→yLS→ymean→yM→yM→yN→yN→ycn→ycs→yN→yV→ycl→youter→yA→yH→yH→yN→yM→ys→yQ→yQ→yH→yN→yH→yN→yO→yN→yH→yH→yN→yH→yN→yH→yN→yH→yN→yH→yH→yO→yR→yVS→yM→yH→yN→yN→yO→yD→yVS→yVS→yN→yN→yR→yI→yN→yIS→yMO→yN→yN→yN→yN→yN→yN→yN→yN→yI→yI→yI→yI→Prop) (vA1.W 0) (vA1.N 0) (vA1.VS 0) (vA1.IS 0) (vA1.N 1) (vA1.I 0) (vA1.N 2) (vA1.R 0) (vA1.LS 0) (vA1.mean 0) (vA1.M 0) (vA1.M 1) (vA1.N 3) (vA1.N 4) (vA1.cn 0) (vA1.cs 0) (vA1.N 5) (vA1.V 0) (vA1.cl 0) (vA1.outer 0) (vA1.A 0) (vA1.H 0) (vA1.H 1) (vA1.N 6) (vA1.M 2) (vA1.s 0) (vA1.Q 0) (vA1.Q 1) (vA1.H 2) (vA1.N 7) (vA1.H 3) (vA1.N 8) (vA1.O 0), (_ : yW→yN→yVS→yIS→yN→yI→yN→yR→yLS→ymean→yM→yM→yN→yN→ycn→ycs→yN→yV→ycl→youter→yA→yH→yH→yN→yM→ys→yQ→yQ→yH→yN→yH→yN→yO→yN→yH→yH→yN→yH→yN→yH→yN→yH→yN→yH→yH→yO→yR→yM→yH→yN→yD→yVS→yVS→yN→yN→yR→Prop) (vA1.W 0) (vA1.N 0) (vA1.VS 0) (vA1.IS 0) (vA1.N 1) (vA1.I 0) (vA1.N 2) (vA1.R 0) (vA1.LS 0) (vA1.mean 0) (vA1.M 0) (vA1.M 1) (vA1.N 3) (vA1.N 4) (vA1.cn 0) (vA1.cs 0) (vA1.N 5) (vA1.V 0) (vA1.cl 0) (vA1.outer 0) (vA1.A 0) (vA1.H 0) (vA1.H 1) (vA1.N 6) (vA1.M 2) (vA1.s 0) (vA1.Q 0) (vA1.Q 1) (vA1.H 2) (vA1.N 7) (vA1.H 3) (vA1.N 8) (vA1.O 0)), fun hPA2 hPA3 => ?main⟩
  case main =>
    intro hmN hiN hlN0 hlN hn0 hs0 hs1 qz23 qz25 qz27 qz28 hret F' B' X' T' l1 dC0 N'
    generalize vA1.W 0 = w, vA1.N 0 = aN, vA1.VS 0 = vN, vA1.IS 0 = ns, vA1.N 1 = nN, vA1.I 0 = sp, vA1.N 2 = ts, vA1.R 0 = news, vA1.LS 0 = qz1, vA1.mean 0 = qz2, vA1.M 0 = qz3, vA1.M 1 = qz4, vA1.N 3 = qz5, vA1.N 4 = qz6, vA1.cn 0 = qz7, vA1.cs 0 = qz8, vA1.N 5 = aA13, vA1.V 0 = qz10, vA1.cl 0 = qz11, vA1.outer 0 = qz12, vA1.A 0 = qz13, vA1.H 0 = qz14, vA1.H 1 = qz15, vA1.N 6 = qz16, vA1.M 2 = qz17, vA1.s 0 = qz18, vA1.Q 0 = qz19, vA1.Q 1 = qz20, vA1.H 2 = g', vA1.N 7 = L', vA1.H 3 = h', vA1.N 8 = tk', vA1.O 0 = oC0 at *
    k_steps
    rename_i aR _ lR _ D1 _ lD1 D2 _ lD2 D3 _ lD3 aP _ lP _ oC FF NN dC
    rename Fr _ _ _ _ => F2
    rename News _ _ _ _ => N2
    have hCo : ∀ p ∈ news, p.1 ≠ L' + 1 := fun p hp => Nat.ne_of_lt (Nat.lt_succ_of_lt (l1 p hp))
    have t0 : DTurn sp ns aN vN nN news (Du.init sp) ns vN [Value.int 0 tk', Value.int 1 (tk' + 1), Value.int 2 (tk' + 1 + 1)] [Value.ref D1, Value.ref D2, Value.ref D3] (L' + 1) aR aP
        ((D3, { cls := .type "tuple", data := .seq #[Value.int 0 (tk' + 1 + 1 + 1 + 1 + 1 + 1 + 1 + 1), Value.int 1 (tk' + 1 + 1 + 1 + 1 + 1 + 1 + 1 + 1 + 1)] }) :: (D2, { cls := .type "tuple", data := .seq #[Value.int 1 (tk' + 1 + 1 + 1 + 1 + 1 + 1), Value.int 1 (tk' + 1 + 1 + 1 + 1 + 1 + 1 + 1)] }) :: (D1, { cls := .type "tuple", data := .seq #[Value.int 1 (tk' + 1 + 1 + 1 + 1), Value.int 0 (tk' + 1 + 1 + 1 + 1 + 1)] }) :: news) :=
      ⟨hiN, hn0, rfl, goodD_init sp, (by show 3 + _ ≤ _; lia), ints3, pairs3 ⟨_, _, _, _, rfl, .tail _ (.tail _ (.head _))⟩ ⟨_, _, _, _, rfl, .tail _ (.head _)⟩ ⟨_, _, _, _, rfl, .head _⟩,
        off_cons (by refine neN ?_; lia) (off_cons (by refine neN ?_; lia) (off_cons (by refine neN ?_; lia) (off_of l1 (by lia)))),
        off_cons (by refine neN ?_; lia) (off_cons (by refine neN ?_; lia) (off_cons (by refine neN ?_; lia) (off_of l1 (by lia)))),
        off_cons (by refine neN ?_; lia) (off_cons (by refine neN ?_; lia) (off_cons (by refine neN ?_; lia) hCo)),
        .tail _ (.tail _ (.tail _ hmN)), fun p hp => .tail _ (.tail _ (.tail _ hp))⟩
    have pRP : aR ≠ aP := by refine neN ?_; lia
    have pCR : L' + 1 ≠ aR := by refine neN ?_; lia
    have pCP : L' + 1 ≠ aP := by refine neN ?_; lia
    obtain ⟨rest0, hrest0⟩ : ∃ x, x = ((D3, ({ cls := .type "tuple", data := .seq #[Value.int 0 (tk' + 1 + 1 + 1 + 1 + 1 + 1 + 1 + 1), Value.int 1 (tk' + 1 + 1 + 1 + 1 + 1 + 1 + 1 + 1 + 1)] } : Obj)) :: (D2, ({ cls := .type "tuple", data := .seq #[Value.int 1 (tk' + 1 + 1 + 1 + 1 + 1 + 1), Value.int 1 (tk' + 1 + 1 + 1 + 1 + 1 + 1 + 1)] } : Obj)) :: (D1, ({ cls := .type "tuple", data := .seq #[Value.int 1 (tk' + 1 + 1 + 1 + 1), Value.int 0 (tk' + 1 + 1 + 1 + 1 + 1)] } : Obj)) :: news) := ⟨_, rfl⟩
    have N3 : News _ _ _ ((aP, ({ cls := .type "list", data := .seq [Value.ref D1, Value.ref D2, Value.ref D3].toArray 0 } : Obj)) :: (aR, ({ cls := .type "list", data := .seq [Value.int 0 tk', Value.int 1 (tk' + 1), Value.int 2 (tk' + 1 + 1)].toArray 0 } : Obj)) :: (L' + 1, oC) :: rest0) := fun p hp => N2 p (by rw [hrest0] at hp; exact due_sub p hp)
    rw [← hrest0] at t0
    (try clear hrest0)
    (try clear lR)
    (try clear lD1)
    (try clear lD2)
    (try clear lD3)
    (try clear lP)
    (try clear N2)
    (try clear dC0)
    refine halt_out ?_
    refine list_inv (vs := vN) (st := [Str.ofString "y", Str.ofString "side", Str.ofString "a", Str.ofString "b", Str.ofString "c", Str.ofString "d", Str.ofString "turn"]) (TurnJ sp ns aN vN nN news L' aR aP oC) (by rfl) F2 N3 (.tail _ (.tail _ (.tail _ t0.nums))) rfl rfl ⟨_, _, _, _, _, _, _, rfl, t0⟩ ?keep ?_ ?_
    case keep =>
      rintro r u nw ⟨d, ns', rvs, pvs, nR, nP, rest, rfl, t⟩
      exact .tail _ (.tail _ (.tail _ t.nums))
    · intro v r u nw h tk I oI hJ91 hcl hne F'' N''
      refine hideG fun nG => ?_
      obtain ⟨d, ns', rvs, pvs, nR, nP, rest, rfl, t⟩ := hJ91
      obtain ⟨vals, nn, run, good, len, ring, prs, offR, offP, offC, nums, old⟩ := t
      (try clear F2)
      (try clear N3)
      (try clear t0)
      obtain ⟨y, ty, ns2, rfl, rfl, vals2⟩ := ints_cons vals
      have hy : 0 ≤ y := nn _ (.head _)
      have k3 := good.good.k3
      obtain ⟨m, hm⟩ : ∃ m, m = d.m := ⟨_, rfl⟩
      have gm : Good m := hm ▸ good.good
      rw [← hm] at ring k3 len
      have e1 : m.ring.getD (y.fmod ↑m.ring.length).toNat 0 = one m y := raw_one gm y
      have e2 : m.ring.getD ((y.fmod ↑m.ring.length + 1).fmod ↑m.ring.length).toNat 0 = other m y := raw_other gm y
      have m1 := gm.rng _ (one_mem gm y)
      have m2 := gm.rng _ (other_mem gm y)
      have pl := good.pl
      rw [← hm] at pl
      obtain ⟨u1, hu1, T1, n1, q11, q12, rfl, hT1⟩ := prs.at (i := one m y) (by lia)
      obtain ⟨u2, hu2, T2, n2, q21, q22, rfl, hT2⟩ := prs.at (i := other m y) (by lia)
      have pb1 := good.pb _ (pAt_mem (ps := d.ps) (i := one m y) (by lia))
      have pb2 := good.pb _ (pAt_mem (ps := d.ps) (i := other m y) (by lia))
      rw [← hm] at pb1 pb2
      have p64 := pow_le64 (n := m.ring.length) (by lia)
      obtain ⟨x1, hx1⟩ : ∃ x, x = (pAt d.ps (one m y)).1 := ⟨_, rfl⟩
      obtain ⟨x2, hx2⟩ : ∃ x, x = (pAt d.ps (one m y)).2 := ⟨_, rfl⟩
      obtain ⟨z1, hz1⟩ : ∃ x, x = (pAt d.ps (other m y)).1 := ⟨_, rfl⟩
      obtain ⟨z2, hz2⟩ : ∃ x, x = (pAt d.ps (other m y)).2 := ⟨_, rfl⟩
      rw [← hx1, ← hx2] at hT1 pb1
      rw [← hz1, ← hz2] at hT2 pb2
      have pb1' : -64 ≤ x1 ∧ x1 ≤ 64 ∧ -64 ≤ x2 ∧ x2 ≤ 64 := by lia
      have pb2' : -64 ≤ z1 ∧ z1 ≤ 64 ∧ -64 ≤ z2 ∧ z2 ≤ 64 := by lia
      have r10 : 0 ≤ m.ring.getD (y.fmod ↑m.ring.length).toNat 0 := by rw [e1]; exact m1.1
      have r11 : m.ring.getD (y.fmod ↑m.ring.length).toNat 0 < 2 ^ 20 := by rw [e1]; lia
      have r1u : pvs[(m.ring.getD (y.fmod ↑m.ring.length).toNat 0).toNat]? = some (Value.ref T1) := by rw [e1]; exact hu1
      have r20 : 0 ≤ m.ring.getD ((y.fmod ↑m.ring.length + 1).fmod ↑m.ring.length).toNat 0 := by rw [e2]; exact m2.1
      have r21 : m.ring.getD ((y.fmod ↑m.ring.length + 1).fmod ↑m.ring.length).toNat 0 < 2 ^ 20 := by rw [e2]; lia
      have r2u : pvs[(m.ring.getD ((y.fmod ↑m.ring.length + 1).fmod ↑m.ring.length).toNat 0).toNat]? = some (Value.ref T2) := by rw [e2]; exact hu2
      (try clear hu1)
      (try clear hu2)
      (try clear pb1)
      (try clear pb2)
      (try clear p64)
      have hT1' : (T1, ({ cls := .type "tuple", data := .seq #[.int x1 q11, .int x2 q12] n1 } : Obj)) ∈ (I, oI) :: (aP, ({ cls := .type "list", data := .seq pvs.toArray nP } : Obj)) :: (aR, ({ cls := .type "list", data := .seq rvs.toArray nR } : Obj)) :: (L' + 1, oC) :: rest := .tail _ (.tail _ (.tail _ (.tail _ hT1)))
      have hT2' : (T2, ({ cls := .type "tuple", data := .seq #[.int z1 q21, .int z2 q22] n2 } : Obj)) ∈ (I, oI) :: (aP, ({ cls := .type "list", data := .seq pvs.toArray nP } : Obj)) :: (aR, ({ cls := .type "list", data := .seq rvs.toArray nR } : Obj)) :: (L' + 1, oC) :: rest := .tail _ (.tail _ (.tail _ (.tail _ hT2)))
      have IR : I ≠ aR := fun e => hne _ (.tail _ (.head _)) e.symm
      have IP : I ≠ aP := fun e => hne _ (.head _) e.symm
      have hrl : rvs.length = m.ring.length := ints_len ring
      have pPR : aP ≠ aR := pRP.symm
      have hsd := raw_side gm y
      have hf0 : 0 ≤ y.fmod ↑m.ring.length := by rw [Int.fmod_eq_emod_of_nonneg _ (by lia)]; exact Int.emod_nonneg y (by lia)
      have szP : pvs.toArray.size ≤ sizeLine := by rw [List.size_toArray, PySem.sizeLine_eq, prs.1, pl]; lia
      have szR : rvs.length ≤ sizeLine := by rw [PySem.sizeLine_eq]; lia
      have insF : Builtin.List.listFitsIndex (y.fmod ↑m.ring.length + 1) = true := by
        have hs := raw_side gm y
        have hs2 := side_lt gm y
        have h0 := Int.emod_nonneg y (by lia : (m.ring.length : Int) ≠ 0)
        have h1 := Int.emod_lt_of_pos y (by lia : (0 : Int) < m.ring.length)
        rw [Int.fmod_eq_emod_of_nonneg _ (by lia)]
        unfold Builtin.List.listFitsIndex
        simp only [Bool.and_eq_true, decide_eq_true_eq]
        lia
      refine nG ?_
      (try clear nG)
      rename_i qz29 qz30 qz31 qz32 qz33 qz34 qz35
      revert hmN hiN hlN0 hlN hn0 hs0 hs1 qz23 qz25 qz27 qz28 hret B' X' T' l1 dC pRP pCR pCP F'' hne N'' good prs offR offP offC nums old vals2 nn run len k3 ring hm gm pl hx1 hx2 hz1 hz2 r10 r11 r1u r20 r21 r2u hT1' hT2' IR IP hrl pPR hsd hf0 szP szR insF
      exact hPA2 aR qz29 qz30 D1 qz31 D2 qz32 D3 qz33 aP qz34 qz35 oC rest0 r u h tk I oI d rvs pvs nR nP rest y ty ns2 m T1 n1 q11 q12 T2 n2 q21 q22 x1 x2 z1 z2
    · intro u nw h tk hJ92 F'' N''
      refine hideG fun nG => ?_
      obtain ⟨d, ns', rvs, pvs, nR, nP, rest, rfl, t⟩ := hJ92
      obtain ⟨vals, nn, run, good, len, ring, prs, offR, offP, offC, nums, old⟩ := t
      (try clear F2)
      (try clear N3)
      (try clear t0)
      cases vals
      have run' : d = runD sp ns := run
      (try clear run)
      (try clear nn)
      have wcl : d.m.wc.length = d.m.ring.length := good.good.wl
      refine nG ?_
      (try clear nG)
      rename_i qz36 qz37 qz38 qz39 qz40 qz41 qz42
      revert hmN hiN hlN0 hlN hn0 hs0 hs1 qz23 qz25 qz27 qz28 hret B' X' T' l1 dC F'' N'' good ring prs nums old len run' wcl
      exact hPA3 aR qz36 qz37 D1 qz38 D2 qz39 D3 qz40 aP qz41 qz42 oC rest0 u h tk d rvs pvs nR nP rest
noncomputable def pA2 (v : Vars) : Prop := ktA1.1.1 (v.N 0) (v.H 0) (v.H 1) (v.N 1) (v.H 2) (v.N 2) (v.H 3) (v.N 3) (v.H 4) (v.N 4) (v.H 5) (v.H 6) (v.O 0) (v.R 0) (v.VS 0) (v.M 0) (v.H 7) (v.N 5) (v.N 6) (v.O 1) (v.D 0) (v.VS 1) (v.VS 2) (v.N 7) (v.N 8) (v.R 1) (v.I 0) (v.N 9) (v.IS 0) (v.MO 0) (v.N 10) (v.N 11) (v.N 12) (v.N 13) (v.N 14) (v.N 15) (v.N 16) (v.N 17) (v.I 1) (v.I 2) (v.I 3) (v.I 4)
@[irreducible] noncomputable def vA2 : Vars := hk pA2
theorem tA2 : pA2 vA2 := by
  intro hmN hiN hlN0 hlN hn0 hs0 hs1 qz23 qz25 qz27 qz28 hret B' X' T' l1 dC pRP pCR pCP F'' hne N'' good prs offR offP offC nums old vals2 nn run len k3 ring hm gm pl hx1 hx2 hz1 hz2 r10 r11 r1u r20 r21 r2u hT1' hT2' IR IP hrl pPR hsd hf0 szP szR insF
  generalize vA1.W 0 = w, vA1.N 0 = aN, vA1.VS 0 = vN, vA1.IS 0 = ns, vA1.N 1 = nN, vA1.I 0 = sp, vA1.N 2 = ts, vA1.R 0 = news, vA1.LS 0 = qz1, vA1.mean 0 = qz2, vA1.M 0 = qz3, vA1.M 1 = qz4, vA1.N 3 = qz5, vA1.N 4 = qz6, vA1.cn 0 = qz7, vA1.cs 0 = qz8, vA1.N 5 = aA13, vA1.V 0 = qz10, vA1.cl 0 = qz11, vA1.outer 0 = qz12, vA1.A 0 = qz13, vA1.H 0 = qz14, vA1.H 1 = qz15, vA1.N 6 = qz16, vA1.M 2 = qz17, vA1.s 0 = qz18, vA1.Q 0 = qz19, vA1.Q 1 = qz20, vA1.H 2 = g', vA1.N 7 = L', vA1.H 3 = h', vA1.N 8 = tk', vA1.O 0 = oC0, vA2.N 0 = aR, vA2.H 0 = qz29, vA2.H 1 = qz30, vA2.N 1 = D1, vA2.H 2 = qz31, vA2.N 2 = D2, vA2.H 3 = qz32, vA2.N 3 = D3, vA2.H 4 = qz33, vA2.N 4 = aP, vA2.H 5 = qz34, vA2.H 6 = qz35, vA2.O 0 = oC, vA2.R 0 = rest0, vA2.VS 0 = r, vA2.M 0 = u, vA2.H 7 = h, vA2.N 5 = tk, vA2.N 6 = I, vA2.O 1 = oI, vA2.D 0 = d, vA2.VS 1 = rvs, vA2.VS 2 = pvs, vA2.N 7 = nR, vA2.N 8 = nP, vA2.R 1 = rest, vA2.I 0 = y, vA2.N 9 = ty, vA2.IS 0 = ns2, vA2.MO 0 = m, vA2.N 10 = T1, vA2.N 11 = n1, vA2.N 12 = q11, vA2.N 13 = q12, vA2.N 14 = T2, vA2.N 15 = n2, vA2.N 16 = q21, vA2.N 17 = q22, vA2.I 1 = x1, vA2.I 2 = x2, vA2.I 3 = z1, vA2.I 4 = z2 at *
  k_steps
  all_goals ((try simp only [List.cons_append, List.nil_append]); k_steps)
  all_goals ((try simp only [List.cons_append, List.nil_append]); k_steps)
  all_goals (
    rename Fr _ _ _ _ => F9
    rename News _ _ _ _ => N9
    have hlen : (stepD sp d y).m.ring.length = m.ring.length + 1 := by rw [hm]; exact step_len sp good.good y
    have hring : ∀ tq, IntsAre (kl_ins rvs (y.fmod ↑m.ring.length + 1) (.int m.ring.length tq)) (stepD sp d y).m.ring := fun tq => by
      have h := ints_ins ring (side m y + 1) (by have := side_lt gm y; lia) m.ring.length tq (y.fmod ↑m.ring.length + 1) (by lia)
      have e : (stepD sp d y).m.ring = m.ring.insertIdx (side m y + 1) m.ring.length := by rw [hm]; rfl
      rw [e]; exact h
    refine TEnd.mk F9 N9 _ due_sub2 ?off ?hm ⟨stepD sp d y, ns2, _, _, _, _, _, rfl, ⟨vals2, fun n hn => nn n (.tail _ hn), run, goodD_step sp good y, ?len, hring _, (prs.mono (fun p hp => .tail _ hp)).snoc (PairAt.of (.head _) ?px ?py), ?oR, ?oP, ?oC, .tail _ nums, fun p hp => .tail _ (old p hp)⟩⟩
    case off => exact off_cons IP.symm (off_cons IR.symm (off_cons (hne _ (.tail _ (.tail _ (.head _)))) (off_cons (by refine neN ?_; lia) fun p hp => hne p (.tail _ (.tail _ (.tail _ hp))))))
    case hm => repeat (first | exact off_base | refine off_if rfl ?_)
    case len => rw [hlen]; rw [List.length_cons] at len; lia
    case px => (show _ = (pAt d.ps (one d.m y)).1 + turnOf d.m y * (pAt d.ps (other d.m y)).1); rw [← hm, ← hx1, ← hz1]; (first | rw [turnOf, if_pos (by lia)] | rw [turnOf, if_neg (by lia)])
    case py => (show _ = (pAt d.ps (one d.m y)).2 + turnOf d.m y * (pAt d.ps (other d.m y)).2); rw [← hm, ← hx2, ← hz2]; (first | rw [turnOf, if_pos (by lia)] | rw [turnOf, if_neg (by lia)])
    case oR => exact off_cons (by refine neN ?_; lia) offR
    case oP => exact off_cons (by refine neN ?_; lia) offP
    case oC => exact off_cons (by refine neN ?_; lia) offC)
theorem aA2 : ∀ v, pA2 v := hkv tA2 (by unfold vA2; rfl)
noncomputable def pA3 (v : Vars) : Prop := ktA1.1.2 (v.N 0) (v.H 0) (v.H 1) (v.N 1) (v.H 2) (v.N 2) (v.H 3) (v.N 3) (v.H 4) (v.N 4) (v.H 5) (v.H 6) (v.O 0) (v.R 0) (v.M 0) (v.H 7) (v.N 5) (v.D 0) (v.VS 0) (v.VS 1) (v.N 6) (v.N 7) (v.R 1)
@[irreducible] noncomputable def vA3 : Vars := hk pA3
noncomputable def ktA3 : {P : (yN→yH→yN→yVS→yR→yN→yO→yN→yM→yH→yN→yR→yAS→yQ→yI→yN→Prop) × (yN→yH→yVS→yN→yH→yN→yH→Prop) // (∀ x1 x2 x3 x4 x5 x6 x7 x8 x9 x10 x11 x12 x13 x14 x15 x16, P.1 x1 x2 x3 x4 x5 x6 x7 x8 x9 x10 x11 x12 x13 x14 x15 x16) → (∀ x1 x2 x3 x4 x5 x6 x7, P.2 x1 x2 x3 x4 x5 x6 x7) → pA3 vA3} := by
  refine' ⟨((_ : yW→yN→yVS→yIS→yN→yI→yN→yR→yLS→ymean→yM→yM→yN→yN→ycn→ycs→yN→yV→ycl→youter→yA→yH→yH→yN→yM→ys→yQ→yQ→yH→yN→yH→yN→yO→yN→yH→yH→yN→yH→yN→yH→yN→yH→yN→yH→yH→yO→yR→yM→yH→yN→yD→yVS→yVS→yN→yN→yR→yN→yH→yN→yVS→yR→yN→yO→yN→yM→yH→yN→yR→yAS→yQ→yI→yN→Prop) (vA1.W 0) (vA1.N 0) (vA1.VS 0) (vA1.IS 0) (vA1.N 1) (vA1.I 0) (vA1.N 2) (vA1.R 0) (vA1.LS 0) (vA1.mean 0) (vA1.M 0) (vA1.M 1) (vA1.N 3) (vA1.N 4) (vA1.cn 0) (vA1.cs 0) (vA1.N 5) (vA1.V 0) (vA1.cl 0) (vA1.outer 0) (vA1.A 0) (vA1.H 0) (vA1.H 1) (vA1.N 6) (vA1.M 2) (vA1.s 0) (vA1.Q 0) (vA1.Q 1) (vA1.H 2) (vA1.N 7) (vA1.H 3) (vA1.N 8) (vA1.O 0) (vA3.N 0) (vA3.H 0) (vA3.H 1) (vA3.N 1) (vA3.H 2) (vA3.N 2) (vA3.H 3) (vA3.N 3) (vA3.H 4) (vA3.N 4) (vA3.H 5) (vA3.H 6) (vA3.O 0) (vA3.R 0) (vA3.M 0) (vA3.H 7) (vA3.N 5) (vA3.D 0) (vA3.VS 0) (vA3.VS 1) (vA3.N 6) (vA3.N 7) (vA3.R 1), (_ : yW→yN→yVS→yIS→yN→yI→yN→yR→yLS→ymean→yM→yM→yN→yN→ycn→ycs→yN→yV→ycl→youter→yA→yH→yH→yN→yM→ys→yQ→yQ→yH→yN→yH→yN→yO→yN→yH→yH→yN→yH→yN→yH→yN→yH→yN→yH→yH→yO→yR→yM→yH→yN→yD→yVS→yVS→yN→yN→yR→yN→yH→yVS→yN→yH→yN→yH→Prop) (vA1.W 0) (vA1.N 0) (vA1.VS 0) (vA1.IS 0) (vA1.N 1) (vA1.I 0) (vA1.N 2) (vA1.R 0) (vA1.LS 0) (vA1.mean 0) (vA1.M 0) (vA1.M 1) (vA1.N 3) (vA1.N 4) (vA1.cn 0) (vA1.cs 0) (vA1.N 5) (vA1.V 0) (vA1.cl 0) (vA1.outer 0) (vA1.A 0) (vA1.H 0) (vA1.H 1) (vA1.N 6) (vA1.M 2) (vA1.s 0) (vA1.Q 0) (vA1.Q 1) (vA1.H 2) (vA1.N 7) (vA1.H 3) (vA1.N 8) (vA1.O 0) (vA3.N 0) (vA3.H 0) (vA3.H 1) (vA3.N 1) (vA3.H 2) (vA3.N 2) (vA3.H 3) (vA3.N 3) (vA3.H 4) (vA3.N 4) (vA3.H 5) (vA3.H 6) (vA3.O 0) (vA3.R 0) (vA3.M 0) (vA3.H 7) (vA3.N 5) (vA3.D 0) (vA3.VS 0) (vA3.VS 1) (vA3.N 6) (vA3.N 7) (vA3.R 1)), fun hPA4 hPA5 => ?main⟩
  case main =>
    intro hmN hiN hlN0 hlN hn0 hs0 hs1 qz23 qz25 qz27 qz28 hret B' X' T' l1 dC F'' N'' good ring prs nums old len run' wcl
    generalize vA1.W 0 = w, vA1.N 0 = aN, vA1.VS 0 = vN, vA1.IS 0 = ns, vA1.N 1 = nN, vA1.I 0 = sp, vA1.N 2 = ts, vA1.R 0 = news, vA1.LS 0 = qz1, vA1.mean 0 = qz2, vA1.M 0 = qz3, vA1.M 1 = qz4, vA1.N 3 = qz5, vA1.N 4 = qz6, vA1.cn 0 = qz7, vA1.cs 0 = qz8, vA1.N 5 = aA13, vA1.V 0 = qz10, vA1.cl 0 = qz11, vA1.outer 0 = qz12, vA1.A 0 = qz13, vA1.H 0 = qz14, vA1.H 1 = qz15, vA1.N 6 = qz16, vA1.M 2 = qz17, vA1.s 0 = qz18, vA1.Q 0 = qz19, vA1.Q 1 = qz20, vA1.H 2 = g', vA1.N 7 = L', vA1.H 3 = h', vA1.N 8 = tk', vA1.O 0 = oC0, vA3.N 0 = aR, vA3.H 0 = qz36, vA3.H 1 = qz37, vA3.N 1 = D1, vA3.H 2 = qz38, vA3.N 2 = D2, vA3.H 3 = qz39, vA3.N 3 = D3, vA3.H 4 = qz40, vA3.N 4 = aP, vA3.H 5 = qz41, vA3.H 6 = qz42, vA3.O 0 = oC, vA3.R 0 = rest0, vA3.M 0 = u, vA3.H 7 = h, vA3.N 5 = tk, vA3.D 0 = d, vA3.VS 0 = rvs, vA3.VS 1 = pvs, vA3.N 6 = nR, vA3.N 7 = nP, vA3.R 1 = rest at *
    k_steps
    rename Fr _ _ _ _ => F3
    rename News _ _ _ _ => N3
    dsimp only at N3
    refine halt_out ?_
    k_dflt (refine comp_list (vs := vN) (by rfl) (by rfl) (by rfl) F3 N3 (.tail _ (.tail _ (.tail _ (.tail _ nums)))) (by rw [PySem.sizeLine_eq, ints_len hiN]; lia) (fun (ys : List Value) nw => nw = _ ∧ ∀ j v, ys[j]? = some v → ∃ t, v = Value.int ((ns.map wnew).getD j 0) t) ⟨rfl, fun j v e => by simp at e⟩ ?_ ?_)
    · intro i v₁ ys nw hv1 hyl C oC D cm h tk own wr E' hJ hC hcm off hCD hwo hown F' N'
      obtain ⟨hJ1, hJ2⟩ := hJ
      obtain ⟨y, ty, hyi, rfl⟩ := ints_at hiN hv1
      rename_i qz43 qz44 qz45
      revert hmN hiN hlN0 hlN hn0 hs0 hs1 qz23 qz25 qz27 qz28 hret B' X' T' l1 hyl hC off F' N' hJ1 hJ2 hyi hcm
      exact hPA4 qz43 qz44 i ys nw C oC D cm h tk own wr E' y ty
    · intro s₂ ys nw hJ93 hyl hJ94 D9 h9 tk9 F9 N9 o9
      refine hideG fun nG => ?_
      obtain ⟨h9, rfl⟩ := hJ93
      obtain ⟨rfl, hys⟩ := hJ94
      (try clear F3)
      (try clear N3)
      have hyi : IntsAre ys (ns.map wnew) := ints_of (by rw [hyl, List.length_map, ints_len hiN]) hys
      (try clear hys)
      refine nG ?_
      (try clear nG)
      rename_i qz46 qz47 qz48 qz49
      revert hmN hiN hlN0 hlN hn0 hs0 hs1 qz23 qz25 qz27 qz28 hret B' X' T' l1 dC good ring prs nums old len run' wcl F9 N9 hyi
      exact hPA5 qz46 qz47 ys D9 qz49 tk9 h9
noncomputable def pA4 (v : Vars) : Prop := ktA3.1.1 (v.N 0) (v.H 0) (v.N 1) (v.VS 0) (v.R 0) (v.N 2) (v.O 0) (v.N 3) (v.M 0) (v.H 1) (v.N 4) (v.R 1) (v.AS 0) (v.Q 0) (v.I 0) (v.N 5)
@[irreducible] noncomputable def vA4 : Vars := hk pA4
theorem tA4 : pA4 vA4 := by
  intro hmN hiN hlN0 hlN hn0 hs0 hs1 qz23 qz25 qz27 qz28 hret B' X' T' l1 hyl hC off F' N' hJ1 hJ2 hyi hcm
  generalize vA1.W 0 = w, vA1.N 0 = aN, vA1.VS 0 = vN, vA1.IS 0 = ns, vA1.N 1 = nN, vA1.I 0 = sp, vA1.N 2 = ts, vA1.R 0 = news, vA1.LS 0 = qz1, vA1.mean 0 = qz2, vA1.M 0 = qz3, vA1.M 1 = qz4, vA1.N 3 = qz5, vA1.N 4 = qz6, vA1.cn 0 = qz7, vA1.cs 0 = qz8, vA1.N 5 = aA13, vA1.V 0 = qz10, vA1.cl 0 = qz11, vA1.outer 0 = qz12, vA1.A 0 = qz13, vA1.H 0 = qz14, vA1.H 1 = qz15, vA1.N 6 = qz16, vA1.M 2 = qz17, vA1.s 0 = qz18, vA1.Q 0 = qz19, vA1.Q 1 = qz20, vA1.H 2 = g', vA1.N 7 = L', vA1.H 3 = h', vA1.N 8 = tk', vA1.O 0 = oC0, vA3.N 0 = aR, vA3.H 0 = qz36, vA3.H 1 = qz37, vA3.N 1 = D1, vA3.H 2 = qz38, vA3.N 2 = D2, vA3.H 3 = qz39, vA3.N 3 = D3, vA3.H 4 = qz40, vA3.N 4 = aP, vA3.H 5 = qz41, vA3.H 6 = qz42, vA3.O 0 = oC, vA3.R 0 = rest0, vA3.M 0 = u, vA3.H 7 = h, vA3.N 5 = tk, vA3.D 0 = d, vA3.VS 0 = rvs, vA3.VS 1 = pvs, vA3.N 6 = nR, vA3.N 7 = nP, vA3.R 1 = rest, vA4.N 0 = qz43, vA4.H 0 = qz44, vA4.N 1 = i, vA4.VS 0 = ys, vA4.R 0 = nw, vA4.N 2 = C, vA4.O 0 = oC, vA4.N 3 = D, vA4.M 0 = cm, vA4.H 1 = h, vA4.N 4 = tk, vA4.R 1 = own, vA4.AS 0 = wr, vA4.Q 0 = E', vA4.I 0 = y, vA4.N 5 = ty at *
  k_steps
  rename Fr _ _ _ _ => F9
  rename News _ _ _ _ => N9
  have hy0 : 0 ≤ y := hn0 _ (List.mem_of_getElem? hyi)
  have e3 : (y.fdiv 7).fmod 64 = wnew y := by unfold wnew; rw [Int.fdiv_eq_ediv_of_nonneg _ (by lia), Int.fmod_eq_emod_of_nonneg _ (by lia)]
  exact ⟨_, _, nw, rfl, F9, N9, off, hJ1, snoc_get hJ2 ⟨_, by rw [hyl, e3, List.getD_eq_getElem?_getD, List.getElem?_map, hyi]; rfl⟩⟩
theorem aA4 : ∀ v, pA4 v := hkv tA4 (by unfold vA4; rfl)
noncomputable def pA5 (v : Vars) : Prop := ktA3.1.2 (v.N 0) (v.H 0) (v.VS 0) (v.N 1) (v.H 1) (v.N 2) (v.H 2)
@[irreducible] noncomputable def vA5 : Vars := hk pA5
noncomputable def ktA5 : {P : (yN→yVS→yH→yH→yN→yH→yN→yVS→yH→yH→yN→yH→yH→yR→yVS→yM→yH→yN→yN→yO→yIS→yVS→yN→yN→yI→yN→yIS→yN→yN→yN→yN→yIS→yI→yI→Prop) × (yN→yVS→yH→yH→yN→yH→yN→yVS→yH→yH→yN→yH→yH→yR→yM→yH→yN→yIS→yVS→yN→yN→yR→Prop) // (∀ x1 x2 x3 x4 x5 x6 x7 x8 x9 x10 x11 x12 x13 x14 x15 x16 x17 x18 x19 x20 x21 x22 x23 x24 x25 x26 x27 x28 x29 x30 x31 x32 x33 x34, P.1 x1 x2 x3 x4 x5 x6 x7 x8 x9 x10 x11 x12 x13 x14 x15 x16 x17 x18 x19 x20 x21 x22 x23 x24 x25 x26 x27 x28 x29 x30 x31 x32 x33 x34) → (∀ x1 x2 x3 x4 x5 x6 x7 x8 x9 x10 x11 x12 x13 x14 x15 x16 x17 x18 x19 x20 x21 x22, P.2 x1 x2 x3 x4 x5 x6 x7 x8 x9 x10 x11 x12 x13 x14 x15 x16 x17 x18 x19 x20 x21 x22) → pA5 vA5} := by
  refine' ⟨((_ : yW→yN→yVS→yIS→yN→yI→yN→yR→yLS→ymean→yM→yM→yN→yN→ycn→ycs→yN→yV→ycl→youter→yA→yH→yH→yN→yM→ys→yQ→yQ→yH→yN→yH→yN→yO→yN→yH→yH→yN→yH→yN→yH→yN→yH→yN→yH→yH→yO→yR→yM→yH→yN→yD→yVS→yVS→yN→yN→yR→yN→yH→yVS→yN→yH→yN→yH→yN→yVS→yH→yH→yN→yH→yN→yVS→yH→yH→yN→yH→yH→yR→yVS→yM→yH→yN→yN→yO→yIS→yVS→yN→yN→yI→yN→yIS→yN→yN→yN→yN→yIS→yI→yI→Prop) (vA1.W 0) (vA1.N 0) (vA1.VS 0) (vA1.IS 0) (vA1.N 1) (vA1.I 0) (vA1.N 2) (vA1.R 0) (vA1.LS 0) (vA1.mean 0) (vA1.M 0) (vA1.M 1) (vA1.N 3) (vA1.N 4) (vA1.cn 0) (vA1.cs 0) (vA1.N 5) (vA1.V 0) (vA1.cl 0) (vA1.outer 0) (vA1.A 0) (vA1.H 0) (vA1.H 1) (vA1.N 6) (vA1.M 2) (vA1.s 0) (vA1.Q 0) (vA1.Q 1) (vA1.H 2) (vA1.N 7) (vA1.H 3) (vA1.N 8) (vA1.O 0) (vA3.N 0) (vA3.H 0) (vA3.H 1) (vA3.N 1) (vA3.H 2) (vA3.N 2) (vA3.H 3) (vA3.N 3) (vA3.H 4) (vA3.N 4) (vA3.H 5) (vA3.H 6) (vA3.O 0) (vA3.R 0) (vA3.M 0) (vA3.H 7) (vA3.N 5) (vA3.D 0) (vA3.VS 0) (vA3.VS 1) (vA3.N 6) (vA3.N 7) (vA3.R 1) (vA5.N 0) (vA5.H 0) (vA5.VS 0) (vA5.N 1) (vA5.H 1) (vA5.N 2) (vA5.H 2), (_ : yW→yN→yVS→yIS→yN→yI→yN→yR→yLS→ymean→yM→yM→yN→yN→ycn→ycs→yN→yV→ycl→youter→yA→yH→yH→yN→yM→ys→yQ→yQ→yH→yN→yH→yN→yO→yN→yH→yH→yN→yH→yN→yH→yN→yH→yN→yH→yH→yO→yR→yM→yH→yN→yD→yVS→yVS→yN→yN→yR→yN→yH→yVS→yN→yH→yN→yH→yN→yVS→yH→yH→yN→yH→yN→yVS→yH→yH→yN→yH→yH→yR→yM→yH→yN→yIS→yVS→yN→yN→yR→Prop) (vA1.W 0) (vA1.N 0) (vA1.VS 0) (vA1.IS 0) (vA1.N 1) (vA1.I 0) (vA1.N 2) (vA1.R 0) (vA1.LS 0) (vA1.mean 0) (vA1.M 0) (vA1.M 1) (vA1.N 3) (vA1.N 4) (vA1.cn 0) (vA1.cs 0) (vA1.N 5) (vA1.V 0) (vA1.cl 0) (vA1.outer 0) (vA1.A 0) (vA1.H 0) (vA1.H 1) (vA1.N 6) (vA1.M 2) (vA1.s 0) (vA1.Q 0) (vA1.Q 1) (vA1.H 2) (vA1.N 7) (vA1.H 3) (vA1.N 8) (vA1.O 0) (vA3.N 0) (vA3.H 0) (vA3.H 1) (vA3.N 1) (vA3.H 2) (vA3.N 2) (vA3.H 3) (vA3.N 3) (vA3.H 4) (vA3.N 4) (vA3.H 5) (vA3.H 6) (vA3.O 0) (vA3.R 0) (vA3.M 0) (vA3.H 7) (vA3.N 5) (vA3.D 0) (vA3.VS 0) (vA3.VS 1) (vA3.N 6) (vA3.N 7) (vA3.R 1) (vA5.N 0) (vA5.H 0) (vA5.VS 0) (vA5.N 1) (vA5.H 1) (vA5.N 2) (vA5.H 2)), fun hPA6 hPA7 => ?main⟩
  case main =>
    intro hmN hiN hlN0 hlN hn0 hs0 hs1 qz23 qz25 qz27 qz28 hret B' X' T' l1 dC good ring prs nums old len run' wcl F9 N9 hyi
    generalize vA1.W 0 = w, vA1.N 0 = aN, vA1.VS 0 = vN, vA1.IS 0 = ns, vA1.N 1 = nN, vA1.I 0 = sp, vA1.N 2 = ts, vA1.R 0 = news, vA1.LS 0 = qz1, vA1.mean 0 = qz2, vA1.M 0 = qz3, vA1.M 1 = qz4, vA1.N 3 = qz5, vA1.N 4 = qz6, vA1.cn 0 = qz7, vA1.cs 0 = qz8, vA1.N 5 = aA13, vA1.V 0 = qz10, vA1.cl 0 = qz11, vA1.outer 0 = qz12, vA1.A 0 = qz13, vA1.H 0 = qz14, vA1.H 1 = qz15, vA1.N 6 = qz16, vA1.M 2 = qz17, vA1.s 0 = qz18, vA1.Q 0 = qz19, vA1.Q 1 = qz20, vA1.H 2 = g', vA1.N 7 = L', vA1.H 3 = h', vA1.N 8 = tk', vA1.O 0 = oC0, vA3.N 0 = aR, vA3.H 0 = qz36, vA3.H 1 = qz37, vA3.N 1 = D1, vA3.H 2 = qz38, vA3.N 2 = D2, vA3.H 3 = qz39, vA3.N 3 = D3, vA3.H 4 = qz40, vA3.N 4 = aP, vA3.H 5 = qz41, vA3.H 6 = qz42, vA3.O 0 = oC, vA3.R 0 = rest0, vA3.M 0 = u, vA3.H 7 = h, vA3.N 5 = tk, vA3.D 0 = d, vA3.VS 0 = rvs, vA3.VS 1 = pvs, vA3.N 6 = nR, vA3.N 7 = nP, vA3.R 1 = rest, vA5.N 0 = qz46, vA5.H 0 = qz47, vA5.VS 0 = ys, vA5.N 1 = D9, vA5.H 1 = qz49, vA5.N 2 = tk9, vA5.H 2 = h9 at *
    k_steps
    rename_i aW wW _ _ _ hW _ _ _ _ _ aV wV _ hV _ _ aO _ lO _ F4 N4
    (try clear hyi)
    obtain ⟨B, hB, N5⟩ := base_of N4
    have lB : AllLt aO B := by rw [hB]; exact lO
    have mV : (aV, ({ cls := .type "list", data := .seq wV.toArray 0 } : Obj)) ∈ B := by rw [hB]; k_mem
    have mW : (aW, ({ cls := .type "list", data := .seq wW.toArray 0 } : Obj)) ∈ B := by rw [hB]; k_mem
    have mP : (aP, ({ cls := .type "list", data := .seq pvs.toArray nP } : Obj)) ∈ B := by rw [hB]; k_mem
    have mR : (aR, ({ cls := .type "list", data := .seq rvs.toArray nR } : Obj)) ∈ B := by rw [hB]; k_mem
    have mC : (L' + 1, oC) ∈ B := by rw [hB]; k_mem
    have prsB : PairsAt d.ps pvs B := prs.mono fun p hp => by rw [hB]; exact .tail _ (.tail _ (.tail _ (.tail _ (.tail _ (.tail _ (.tail _ (.tail _ hp)))))))
    have oldB : ∀ p ∈ news, p ∈ B := fun p hp => by rw [hB]; exact .tail _ (.tail _ (.tail _ (.tail _ (.tail _ (.tail _ (.tail _ (.tail _ (old p hp))))))))
    (try clear hB)
    (try clear N4)
    (try clear lO)
    have wh : [5, 10, 15] ++ ns.map wnew = d.m.wc.map (·.1) := by rw [run', runD_m]; exact (run_whites sp ns).symm
    rw [wh] at hW
    refine halt_out ?_
    have n9 : d.m.ring.length ≤ 9 := by simpa using len
    refine list_inv (vs := rvs) (st := [Str.ofString "k", Str.ofString "light", Str.ofString "octets"]) (OctJ sp d B) (by rfl) F4 N5 (.tail _ mR) rfl rfl ⟨d.m.ring, [], [], aO, 0, rfl, ring, fun _ h => h, rfl, (by simp only [List.length_nil]; lia), (fun x hx => by cases hx), .nil, rfl, fun p hp => Nat.ne_of_lt (all_of lB p hp)⟩ ?keep2 ?_ ?_
    case keep2 =>
      rintro r u nw ⟨ks, acc, ovs, oa, nO, rfl, _⟩
      exact .tail _ mR
    · intro v r u nw h tk I oI hJ95 hcl hne F5 N5'
      refine hideG fun nG => ?_
      obtain ⟨ks, acc, ovs, oa, nO, rfl, hks, hkr, hfold, hlen, hb, hovs, huo, hoff⟩ := hJ95
      (try clear N5)
      rw [map_set (Str.ofString "octets") _ rfl huo] at F5
      obtain ⟨k, tkk, ks2, rfl, rfl, hks2⟩ := ints_cons hks
      have hkm := hkr _ (.head _)
      have hk0 := good.good.rng _ hkm
      have pl := good.pl
      obtain ⟨u1, hu1, T1, n1, q11, q12, rfl, hT1⟩ := prsB.at (i := k) (by lia)
      obtain ⟨W, hWd⟩ : ∃ W, W = d.m.wc.map (·.1) := ⟨_, rfl⟩
      rw [← hWd] at hW
      have hWl : W.length = d.m.ring.length := by rw [hWd, List.length_map, wcl]
      obtain ⟨p1, hp1⟩ : ∃ x, x = (pAt d.ps k).1 := ⟨_, rfl⟩
      obtain ⟨p2, hp2⟩ : ∃ x, x = (pAt d.ps k).2 := ⟨_, rfl⟩
      rw [← hp1, ← hp2] at hT1
      have k0 : 0 ≤ k := hk0.1
      have k1 : k < 2 ^ 20 := by lia
      have ix0 : 0 ≤ p2.fmod 2 * (2 - p1.fmod 2) := (fmod_ix p1 p2).1
      have ix1 : p2.fmod 2 * (2 - p1.fmod 2) < 3 := (fmod_ix p1 p2).2.1
      have oaI : oa ≠ I := hne _ (.head _)
      refine nG ?_
      (try clear nG)
      rename_i qz50 qz51 qz52 qz53 qz54 qz55 qz56 qz57 qz58 qz59 qz60 qz61 qz62
      revert hmN hiN hlN0 hlN hn0 hs0 hs1 qz23 qz25 qz27 qz28 hret B' X' T' l1 dC good wcl mW mP mC F5 hb hovs hne N5' hks2 hkr hfold hlen hkm hk0 pl hu1 hW hWd hWl hp1 hT1 hp2 k0 k1 ix0 ix1
      exact hPA6 aW wW qz50 qz54 qz55 qz56 aV wV qz58 qz60 aO qz61 qz62 B r u h tk I oI acc ovs oa nO k tkk ks2 T1 n1 q11 q12 W p1 p2
    · intro u nw h tk hJ96 F5 N5'
      refine hideG fun nG => ?_
      obtain ⟨ks, acc, ovs, oa, nO, rfl, hks, hkr, hfold, hlen, hb, hovs, huo, hoff⟩ := hJ96
      (try clear N5)
      rw [map_set (Str.ofString "octets") _ rfl huo] at F5
      cases hks
      have hacc : acc = d.m.ring.foldl (octF sp d) [] := hfold
      have hal : acc.length ≤ 27 := by simpa using hlen
      (try clear hfold)
      (try clear hkr)
      (try clear hlen)
      obtain ⟨B2, hB2⟩ : ∃ B2, B2 = (oa, ({ cls := .type "list", data := .seq ovs.toArray nO } : Obj)) :: B := ⟨_, rfl⟩
      rw [← hB2] at N5'
      have mO : (oa, ({ cls := .type "list", data := .seq ovs.toArray nO } : Obj)) ∈ B2 := by rw [hB2]; exact .head _
      have BB : ∀ p ∈ B, p ∈ B2 := fun p hp => by rw [hB2]; exact .tail _ hp
      replace mV := BB _ mV
      replace mW := BB _ mW
      replace mP := BB _ mP
      replace mR := BB _ mR
      replace mC := BB _ mC
      replace prsB := prsB.mono BB
      replace oldB : ∀ p ∈ news, p ∈ B2 := fun p hp => BB p (oldB p hp)
      (try clear hB2)
      (try clear BB)
      (try clear hoff)
      (try clear lB)
      refine nG ?_
      (try clear nG)
      rename_i qz63 qz64 qz65 qz66 qz67 qz68 qz69 qz70 qz71 qz72 qz73 qz74 qz75
      revert hmN hiN hlN0 hlN hn0 hs0 hs1 qz23 qz25 qz27 qz28 hret B' X' T' l1 dC good ring prs len run' wcl hW hV wh n9 F5 hb hovs hacc hal N5' mO mV mW mP mR mC prsB oldB
      exact hPA7 aW wW qz63 qz67 qz68 qz69 aV wV qz71 qz73 aO qz74 qz75 B u h tk acc ovs oa nO B2
noncomputable def pA6 (v : Vars) : Prop := ktA5.1.1 (v.N 0) (v.VS 0) (v.H 0) (v.H 1) (v.N 1) (v.H 2) (v.N 2) (v.VS 1) (v.H 3) (v.H 4) (v.N 3) (v.H 5) (v.H 6) (v.R 0) (v.VS 2) (v.M 0) (v.H 7) (v.N 4) (v.N 5) (v.O 0) (v.IS 0) (v.VS 3) (v.N 6) (v.N 7) (v.I 0) (v.N 8) (v.IS 1) (v.N 9) (v.N 10) (v.N 11) (v.N 12) (v.IS 2) (v.I 1) (v.I 2)
@[irreducible] noncomputable def vA6 : Vars := hk pA6
theorem tA6 : pA6 vA6 := by
  intro hmN hiN hlN0 hlN hn0 hs0 hs1 qz23 qz25 qz27 qz28 hret B' X' T' l1 dC good wcl mW mP mC F5 hb hovs hne N5' hks2 hkr hfold hlen hkm hk0 pl hu1 hW hWd hWl hp1 hT1 hp2 k0 k1 ix0 ix1
  generalize vA1.W 0 = w, vA1.N 0 = aN, vA1.VS 0 = vN, vA1.IS 0 = ns, vA1.N 1 = nN, vA1.I 0 = sp, vA1.N 2 = ts, vA1.R 0 = news, vA1.LS 0 = qz1, vA1.mean 0 = qz2, vA1.M 0 = qz3, vA1.M 1 = qz4, vA1.N 3 = qz5, vA1.N 4 = qz6, vA1.cn 0 = qz7, vA1.cs 0 = qz8, vA1.N 5 = aA13, vA1.V 0 = qz10, vA1.cl 0 = qz11, vA1.outer 0 = qz12, vA1.A 0 = qz13, vA1.H 0 = qz14, vA1.H 1 = qz15, vA1.N 6 = qz16, vA1.M 2 = qz17, vA1.s 0 = qz18, vA1.Q 0 = qz19, vA1.Q 1 = qz20, vA1.H 2 = g', vA1.N 7 = L', vA1.H 3 = h', vA1.N 8 = tk', vA1.O 0 = oC0, vA3.N 0 = aR, vA3.H 0 = qz36, vA3.H 1 = qz37, vA3.N 1 = D1, vA3.H 2 = qz38, vA3.N 2 = D2, vA3.H 3 = qz39, vA3.N 3 = D3, vA3.H 4 = qz40, vA3.N 4 = aP, vA3.H 5 = qz41, vA3.H 6 = qz42, vA3.O 0 = oC, vA3.R 0 = rest0, vA3.M 0 = u, vA3.H 7 = h, vA3.N 5 = tk, vA3.D 0 = d, vA3.VS 0 = rvs, vA3.VS 1 = pvs, vA3.N 6 = nR, vA3.N 7 = nP, vA3.R 1 = rest, vA5.N 0 = qz46, vA5.H 0 = qz47, vA5.VS 0 = ys, vA5.N 1 = D9, vA5.H 1 = qz49, vA5.N 2 = tk9, vA5.H 2 = h9, vA6.N 0 = aW, vA6.VS 0 = wW, vA6.H 0 = qz50, vA6.H 1 = qz54, vA6.N 1 = qz55, vA6.H 2 = qz56, vA6.N 2 = aV, vA6.VS 1 = wV, vA6.H 3 = qz58, vA6.H 4 = qz60, vA6.N 3 = aO, vA6.H 5 = qz61, vA6.H 6 = qz62, vA6.R 0 = B, vA6.VS 2 = r, vA6.M 0 = u, vA6.H 7 = h, vA6.N 4 = tk, vA6.N 5 = I, vA6.O 0 = oI, vA6.IS 0 = acc, vA6.VS 3 = ovs, vA6.N 6 = oa, vA6.N 7 = nO, vA6.I 0 = k, vA6.N 8 = tkk, vA6.IS 1 = ks2, vA6.N 9 = T1, vA6.N 10 = n1, vA6.N 11 = q11, vA6.N 12 = q12, vA6.IS 2 = W, vA6.I 1 = p1, vA6.I 2 = p2 at *
  k_steps
  rename_i _ aD ws2 _ hI2 lD2 _ F9 N9
  have ewk : W.getD k.toNat 0 = (wcAt d.m k).1 := by rw [hWd]; exact getD_map1 _ _
  have ecol : p2.fmod 2 * (2 - p1.fmod 2) = (colP (pAt d.ps k) : Int) := by rw [(fmod_ix p1 p2).2.2, hp1, hp2]
  rw [ewk, oct_eq _ _ _ _ _ ecol] at hI2
  have hwk := good.good.wb _ (wcAt_mem good.good hkm)
  exact TEnd.mk F9 N9 ((aD, listOf ws2.toArray 0) :: B) due_sub3 (off_cons (by refine neN ?_; lia) fun p hp => hne p (.tail _ hp)) (by repeat (first | exact off_base | refine off_if rfl ?_))
    ⟨ks2, octF sp d acc k, ws2, aD, 0, rfl, hks2, fun k hk => hkr k (.tail _ hk), hfold, (by rw [List.length_cons] at hlen; simp only [octF, List.length_append, List.length_cons, List.length_nil]; lia), oct_bnd hwk.1 hwk.2.1 hs0 hs1 hb, hI2, rfl, fun p hp => Nat.ne_of_lt (all_of lD2.2.2.2.2 p hp)⟩
theorem aA6 : ∀ v, pA6 v := hkv tA6 (by unfold vA6; rfl)
noncomputable def pA7 (v : Vars) : Prop := ktA5.1.2 (v.N 0) (v.VS 0) (v.H 0) (v.H 1) (v.N 1) (v.H 2) (v.N 2) (v.VS 1) (v.H 3) (v.H 4) (v.N 3) (v.H 5) (v.H 6) (v.R 0) (v.M 0) (v.H 7) (v.N 4) (v.IS 0) (v.VS 2) (v.N 5) (v.N 6) (v.R 1)
@[irreducible] noncomputable def vA7 : Vars := hk pA7
noncomputable def ktA7 : {P : (yN→yV→yN→yO→yN→yM→yH→yN→yR→yAS→yQ→ySL→yAS→Prop) × (yN→yH→yN→yH→ySL→yAS→yR→Prop) // (∀ x1 x2 x3 x4 x5 x6 x7 x8 x9 x10 x11 x12 x13, P.1 x1 x2 x3 x4 x5 x6 x7 x8 x9 x10 x11 x12 x13) → (∀ x1 x2 x3 x4 x5 x6 x7, P.2 x1 x2 x3 x4 x5 x6 x7) → pA7 vA7} := by
  refine' ⟨((_ : yW→yN→yVS→yIS→yN→yI→yN→yR→yLS→ymean→yM→yM→yN→yN→ycn→ycs→yN→yV→ycl→youter→yA→yH→yH→yN→yM→ys→yQ→yQ→yH→yN→yH→yN→yO→yN→yH→yH→yN→yH→yN→yH→yN→yH→yN→yH→yH→yO→yR→yM→yH→yN→yD→yVS→yVS→yN→yN→yR→yN→yH→yVS→yN→yH→yN→yH→yN→yVS→yH→yH→yN→yH→yN→yVS→yH→yH→yN→yH→yH→yR→yM→yH→yN→yIS→yVS→yN→yN→yR→yN→yV→yN→yO→yN→yM→yH→yN→yR→yAS→yQ→ySL→yAS→Prop) (vA1.W 0) (vA1.N 0) (vA1.VS 0) (vA1.IS 0) (vA1.N 1) (vA1.I 0) (vA1.N 2) (vA1.R 0) (vA1.LS 0) (vA1.mean 0) (vA1.M 0) (vA1.M 1) (vA1.N 3) (vA1.N 4) (vA1.cn 0) (vA1.cs 0) (vA1.N 5) (vA1.V 0) (vA1.cl 0) (vA1.outer 0) (vA1.A 0) (vA1.H 0) (vA1.H 1) (vA1.N 6) (vA1.M 2) (vA1.s 0) (vA1.Q 0) (vA1.Q 1) (vA1.H 2) (vA1.N 7) (vA1.H 3) (vA1.N 8) (vA1.O 0) (vA3.N 0) (vA3.H 0) (vA3.H 1) (vA3.N 1) (vA3.H 2) (vA3.N 2) (vA3.H 3) (vA3.N 3) (vA3.H 4) (vA3.N 4) (vA3.H 5) (vA3.H 6) (vA3.O 0) (vA3.R 0) (vA3.M 0) (vA3.H 7) (vA3.N 5) (vA3.D 0) (vA3.VS 0) (vA3.VS 1) (vA3.N 6) (vA3.N 7) (vA3.R 1) (vA5.N 0) (vA5.H 0) (vA5.VS 0) (vA5.N 1) (vA5.H 1) (vA5.N 2) (vA5.H 2) (vA7.N 0) (vA7.VS 0) (vA7.H 0) (vA7.H 1) (vA7.N 1) (vA7.H 2) (vA7.N 2) (vA7.VS 1) (vA7.H 3) (vA7.H 4) (vA7.N 3) (vA7.H 5) (vA7.H 6) (vA7.R 0) (vA7.M 0) (vA7.H 7) (vA7.N 4) (vA7.IS 0) (vA7.VS 2) (vA7.N 5) (vA7.N 6) (vA7.R 1), (_ : yW→yN→yVS→yIS→yN→yI→yN→yR→yLS→ymean→yM→yM→yN→yN→ycn→ycs→yN→yV→ycl→youter→yA→yH→yH→yN→yM→ys→yQ→yQ→yH→yN→yH→yN→yO→yN→yH→yH→yN→yH→yN→yH→yN→yH→yN→yH→yH→yO→yR→yM→yH→yN→yD→yVS→yVS→yN→yN→yR→yN→yH→yVS→yN→yH→yN→yH→yN→yVS→yH→yH→yN→yH→yN→yVS→yH→yH→yN→yH→yH→yR→yM→yH→yN→yIS→yVS→yN→yN→yR→yN→yH→yN→yH→ySL→yAS→yR→Prop) (vA1.W 0) (vA1.N 0) (vA1.VS 0) (vA1.IS 0) (vA1.N 1) (vA1.I 0) (vA1.N 2) (vA1.R 0) (vA1.LS 0) (vA1.mean 0) (vA1.M 0) (vA1.M 1) (vA1.N 3) (vA1.N 4) (vA1.cn 0) (vA1.cs 0) (vA1.N 5) (vA1.V 0) (vA1.cl 0) (vA1.outer 0) (vA1.A 0) (vA1.H 0) (vA1.H 1) (vA1.N 6) (vA1.M 2) (vA1.s 0) (vA1.Q 0) (vA1.Q 1) (vA1.H 2) (vA1.N 7) (vA1.H 3) (vA1.N 8) (vA1.O 0) (vA3.N 0) (vA3.H 0) (vA3.H 1) (vA3.N 1) (vA3.H 2) (vA3.N 2) (vA3.H 3) (vA3.N 3) (vA3.H 4) (vA3.N 4) (vA3.H 5) (vA3.H 6) (vA3.O 0) (vA3.R 0) (vA3.M 0) (vA3.H 7) (vA3.N 5) (vA3.D 0) (vA3.VS 0) (vA3.VS 1) (vA3.N 6) (vA3.N 7) (vA3.R 1) (vA5.N 0) (vA5.H 0) (vA5.VS 0) (vA5.N 1) (vA5.H 1) (vA5.N 2) (vA5.H 2) (vA7.N 0) (vA7.VS 0) (vA7.H 0) (vA7.H 1) (vA7.N 1) (vA7.H 2) (vA7.N 2) (vA7.VS 1) (vA7.H 3) (vA7.H 4) (vA7.N 3) (vA7.H 5) (vA7.H 6) (vA7.R 0) (vA7.M 0) (vA7.H 7) (vA7.N 4) (vA7.IS 0) (vA7.VS 2) (vA7.N 5) (vA7.N 6) (vA7.R 1)), fun hPA8 hPA9 => ?main⟩
  case main =>
    intro hmN hiN hlN0 hlN hn0 hs0 hs1 qz23 qz25 qz27 qz28 hret B' X' T' l1 dC good ring prs len run' wcl hW hV wh n9 F5 hb hovs hacc hal N5' mO mV mW mP mR mC prsB oldB
    generalize vA1.W 0 = w, vA1.N 0 = aN, vA1.VS 0 = vN, vA1.IS 0 = ns, vA1.N 1 = nN, vA1.I 0 = sp, vA1.N 2 = ts, vA1.R 0 = news, vA1.LS 0 = qz1, vA1.mean 0 = qz2, vA1.M 0 = qz3, vA1.M 1 = qz4, vA1.N 3 = qz5, vA1.N 4 = qz6, vA1.cn 0 = qz7, vA1.cs 0 = qz8, vA1.N 5 = aA13, vA1.V 0 = qz10, vA1.cl 0 = qz11, vA1.outer 0 = qz12, vA1.A 0 = qz13, vA1.H 0 = qz14, vA1.H 1 = qz15, vA1.N 6 = qz16, vA1.M 2 = qz17, vA1.s 0 = qz18, vA1.Q 0 = qz19, vA1.Q 1 = qz20, vA1.H 2 = g', vA1.N 7 = L', vA1.H 3 = h', vA1.N 8 = tk', vA1.O 0 = oC0, vA3.N 0 = aR, vA3.H 0 = qz36, vA3.H 1 = qz37, vA3.N 1 = D1, vA3.H 2 = qz38, vA3.N 2 = D2, vA3.H 3 = qz39, vA3.N 3 = D3, vA3.H 4 = qz40, vA3.N 4 = aP, vA3.H 5 = qz41, vA3.H 6 = qz42, vA3.O 0 = oC, vA3.R 0 = rest0, vA3.M 0 = u, vA3.H 7 = h, vA3.N 5 = tk, vA3.D 0 = d, vA3.VS 0 = rvs, vA3.VS 1 = pvs, vA3.N 6 = nR, vA3.N 7 = nP, vA3.R 1 = rest, vA5.N 0 = qz46, vA5.H 0 = qz47, vA5.VS 0 = ys, vA5.N 1 = D9, vA5.H 1 = qz49, vA5.N 2 = tk9, vA5.H 2 = h9, vA7.N 0 = aW, vA7.VS 0 = wW, vA7.H 0 = qz63, vA7.H 1 = qz67, vA7.N 1 = qz68, vA7.H 2 = qz69, vA7.N 2 = aV, vA7.VS 1 = wV, vA7.H 3 = qz71, vA7.H 4 = qz73, vA7.N 3 = aO, vA7.H 5 = qz74, vA7.H 6 = qz75, vA7.R 0 = B, vA7.M 0 = u, vA7.H 7 = h, vA7.N 4 = tk, vA7.IS 0 = acc, vA7.VS 2 = ovs, vA7.N 5 = oa, vA7.N 6 = nO, vA7.R 1 = B2 at *
    k_steps
    refine halt_out ?_
    k_dflt (refine comp_list (vs := rvs) (by rfl) (by rfl) (by rfl) (by k_asm) (by k_asm) mR (by rw [PySem.sizeLine_eq, ints_len ring]; lia) (fun (ys : List Value) nw => ∃ (sl : List Slot) (ts : List Addr), ys = ts.map Value.ref ∧ nw = chunk sl ++ B2 ∧ SlotsAt w ts (List.replicate ys.length Ent.zero) sl B2) ⟨[], [], rfl, rfl, .nil⟩ ?_ ?_)
    · intro i v₁ ys nw hv1 hyl C oC3 D cm h tk own wr E' hJ97 hC hcm off hCD hwo hown F' N'
      refine hideG fun nG => ?_
      obtain ⟨sl, ts', rfl, rfl, hsl⟩ := hJ97
      have mC1 : ∀ p ∈ B2, p ∈ (C, oC3) :: (D, LCg.lst (ts'.map Value.ref)) :: (own ++ (chunk sl ++ B2)) := fun p hp => List.Mem.tail _ (List.Mem.tail _ (List.mem_append_right own (List.mem_append_right _ hp)))
      refine nG ?_
      (try clear nG)
      rename_i qz76
      revert hmN hiN hlN0 hlN hn0 hs0 hs1 qz23 qz25 qz27 qz28 hret B' X' T' l1 hwo F' hsl off N'
      exact hPA8 i v₁ C oC3 D cm h tk own wr E' sl ts'
    · intro s₂ ys nw hJ98 hyl hJ99 D9 h9 tk9 F9 N9 o9
      refine hideG fun nG => ?_
      obtain ⟨h9, rfl⟩ := hJ98
      obtain ⟨sl, ts', rfl, rfl, hsl⟩ := hJ99
      have o9' := off1_mem o9
      obtain ⟨Z, hZ⟩ : ∃ Z, Z = (D9, LCg.lst (ts'.map Value.ref)) :: (chunk sl ++ B2) := ⟨_, rfl⟩
      rw [← hZ] at N9
      have mZ : ∀ p ∈ B2, p ∈ Z := fun p hp => by rw [hZ]; exact .tail _ (List.mem_append_right _ hp)
      have mRZ := mZ _ mR
      refine nG ?_
      (try clear nG)
      rename_i qz77 qz78 qz79
      revert hmN hiN hlN0 hlN hn0 hs0 hs1 qz23 qz25 qz27 qz28 hret B' X' T' l1 dC good ring prs len run' wcl hW hV wh n9 hb hovs hacc hal mO mV mW mP mR mC prsB oldB F9 hyl hsl o9' N9 hZ mRZ
      exact hPA9 D9 qz79 tk9 h9 sl ts' Z
noncomputable def pA8 (v : Vars) : Prop := ktA7.1.1 (v.N 0) (v.V 0) (v.N 1) (v.O 0) (v.N 2) (v.M 0) (v.H 0) (v.N 3) (v.R 0) (v.AS 0) (v.Q 0) (v.SL 0) (v.AS 1)
@[irreducible] noncomputable def vA8 : Vars := hk pA8
theorem tA8 : pA8 vA8 := by
  intro hmN hiN hlN0 hlN hn0 hs0 hs1 qz23 qz25 qz27 qz28 hret B' X' T' l1 hwo F' hsl off N'
  generalize vA1.W 0 = w, vA1.N 0 = aN, vA1.VS 0 = vN, vA1.IS 0 = ns, vA1.N 1 = nN, vA1.I 0 = sp, vA1.N 2 = ts, vA1.R 0 = news, vA1.LS 0 = qz1, vA1.mean 0 = qz2, vA1.M 0 = qz3, vA1.M 1 = qz4, vA1.N 3 = qz5, vA1.N 4 = qz6, vA1.cn 0 = qz7, vA1.cs 0 = qz8, vA1.N 5 = aA13, vA1.V 0 = qz10, vA1.cl 0 = qz11, vA1.outer 0 = qz12, vA1.A 0 = qz13, vA1.H 0 = qz14, vA1.H 1 = qz15, vA1.N 6 = qz16, vA1.M 2 = qz17, vA1.s 0 = qz18, vA1.Q 0 = qz19, vA1.Q 1 = qz20, vA1.H 2 = g', vA1.N 7 = L', vA1.H 3 = h', vA1.N 8 = tk', vA1.O 0 = oC0, vA3.N 0 = aR, vA3.H 0 = qz36, vA3.H 1 = qz37, vA3.N 1 = D1, vA3.H 2 = qz38, vA3.N 2 = D2, vA3.H 3 = qz39, vA3.N 3 = D3, vA3.H 4 = qz40, vA3.N 4 = aP, vA3.H 5 = qz41, vA3.H 6 = qz42, vA3.O 0 = oC, vA3.R 0 = rest0, vA3.M 0 = u, vA3.H 7 = h, vA3.N 5 = tk, vA3.D 0 = d, vA3.VS 0 = rvs, vA3.VS 1 = pvs, vA3.N 6 = nR, vA3.N 7 = nP, vA3.R 1 = rest, vA5.N 0 = qz46, vA5.H 0 = qz47, vA5.VS 0 = ys, vA5.N 1 = D9, vA5.H 1 = qz49, vA5.N 2 = tk9, vA5.H 2 = h9, vA7.N 0 = aW, vA7.VS 0 = wW, vA7.H 0 = qz63, vA7.H 1 = qz67, vA7.N 1 = qz68, vA7.H 2 = qz69, vA7.N 2 = aV, vA7.VS 1 = wV, vA7.H 3 = qz71, vA7.H 4 = qz73, vA7.N 3 = aO, vA7.H 5 = qz74, vA7.H 6 = qz75, vA7.R 0 = B, vA7.M 0 = u, vA7.H 7 = h, vA7.N 4 = tk, vA7.IS 0 = acc, vA7.VS 2 = ovs, vA7.N 5 = oa, vA7.N 6 = nO, vA7.R 1 = B2, vA8.N 0 = i, vA8.V 0 = v₁, vA8.N 1 = C, vA8.O 0 = oC3, vA8.N 2 = D, vA8.M 0 = cm, vA8.H 0 = h, vA8.N 3 = tk, vA8.R 0 = own, vA8.AS 0 = wr, vA8.Q 0 = E', vA8.SL 0 = sl, vA8.AS 1 = ts' at *
  k_steps
  rename_i aD _ oD loD _ _ hiD fiD lD aL _ F9 N9 lL
  dsimp only at N9
  have aD9 := all_of lD.2.2
  have aL9 := all_of lL.2.2.2
  obtain ⟨x, ht, hd, ho, hk, he, N10⟩ := slot_new N9
  (try clear N9)
  refine ⟨_, _, chunk (sl ++ [x]) ++ B2, rfl, F9, fun p hp => N10 p (cend_sub p hp), ?_, sl ++ [x], ts' ++ [aL], ?_, rfl, ?_⟩
  · intro p hp
    have tt : aL ≠ C ∧ aL ≠ D ∧ aL ∉ wr := ⟨Nat.ne_of_gt lL.2.1, Nat.ne_of_gt lL.2.2.1, fun hw => by
      obtain ⟨o, ho⟩ := hwo _ hw
      exact absurd (aL9 (aL, o) (List.mem_append_left _ ho)) (Nat.lt_irrefl _)⟩
    have dd : aD ≠ C ∧ aD ≠ D ∧ aD ∉ wr := ⟨Nat.ne_of_gt lD.1, Nat.ne_of_gt lD.2.1, fun hw => by
      obtain ⟨o, ho⟩ := hwo _ hw
      exact absurd (aD9 (aD, o) (List.mem_append_left _ ho)) (Nat.lt_irrefl _)⟩
    rw [chunk_app] at hp
    rcases List.mem_append.mp hp with hp | hp
    · rcases List.mem_append.mp hp with hp | hp
      · exact off p (List.mem_append_left _ hp)
      · have hp' : p = x.tO ∨ p = x.dO := by simpa [chunk] using hp
        rcases hp' with rfl | rfl
        · (show x.t ≠ C ∧ x.t ≠ D ∧ x.t ∉ wr); rw [ht]; exact tt
        · (show x.d ≠ C ∧ x.d ≠ D ∧ x.d ∉ wr); rw [hd]; exact dd
    · exact off p (List.mem_append_right _ hp)
  · rw [List.map_append]; rfl
  · have q := hsl.snoc x ⟨by rw [hd]; exact loD, by rw [ho, hk]; exact hiD, by rw [hk, he]; exact fiD, by rw [he]; exact List.nodup_nil⟩ (by rw [ht, hd]; exact Nat.ne_of_gt lL.1) (fun p hp => by
        rw [ht, hd]; exact ⟨Nat.ne_of_lt (aL9 p (List.mem_append_right _ (List.mem_append_left _ hp))), Nat.ne_of_lt (aD9 p (List.mem_append_right _ (List.mem_append_left _ hp)))⟩)
      (fun p hp => by rw [ht, hd]; exact ⟨Nat.ne_of_lt (aL9 p (List.mem_append_right _ (List.mem_append_right _ hp))), Nat.ne_of_lt (aD9 p (List.mem_append_right _ (List.mem_append_right _ hp)))⟩)
    rw [ht, he] at q
    rw [List.length_append, List.length_singleton, List.replicate_succ']
    exact q
theorem aA8 : ∀ v, pA8 v := hkv tA8 (by unfold vA8; rfl)
noncomputable def pA9 (v : Vars) : Prop := ktA7.1.2 (v.N 0) (v.H 0) (v.N 1) (v.H 1) (v.SL 0) (v.AS 0) (v.R 0)
@[irreducible] noncomputable def vA9 : Vars := hk pA9
noncomputable def ktA9 : {P : (yH→yN→yN→yN→yN→yR→yN→yN→yM→yH→yN→yN→yO→ySL→Prop) × (yH→yN→yN→yN→yN→yR→yM→yH→yN→ySL→yR→Prop) // (∀ x1 x2 x3 x4 x5 x6 x7 x8 x9 x10 x11 x12 x13 x14, P.1 x1 x2 x3 x4 x5 x6 x7 x8 x9 x10 x11 x12 x13 x14) → (∀ x1 x2 x3 x4 x5 x6 x7 x8 x9 x10 x11, P.2 x1 x2 x3 x4 x5 x6 x7 x8 x9 x10 x11) → pA9 vA9} := by
  refine' ⟨((_ : yW→yN→yVS→yIS→yN→yI→yN→yR→yLS→ymean→yM→yM→yN→yN→ycn→ycs→yN→yV→ycl→youter→yA→yH→yH→yN→yM→ys→yQ→yQ→yH→yN→yH→yN→yO→yN→yH→yH→yN→yH→yN→yH→yN→yH→yN→yH→yH→yO→yR→yM→yH→yN→yD→yVS→yVS→yN→yN→yR→yN→yH→yVS→yN→yH→yN→yH→yN→yVS→yH→yH→yN→yH→yN→yVS→yH→yH→yN→yH→yH→yR→yM→yH→yN→yIS→yVS→yN→yN→yR→yN→yH→yN→yH→ySL→yAS→yR→yH→yN→yN→yN→yN→yR→yN→yN→yM→yH→yN→yN→yO→ySL→Prop) (vA1.W 0) (vA1.N 0) (vA1.VS 0) (vA1.IS 0) (vA1.N 1) (vA1.I 0) (vA1.N 2) (vA1.R 0) (vA1.LS 0) (vA1.mean 0) (vA1.M 0) (vA1.M 1) (vA1.N 3) (vA1.N 4) (vA1.cn 0) (vA1.cs 0) (vA1.N 5) (vA1.V 0) (vA1.cl 0) (vA1.outer 0) (vA1.A 0) (vA1.H 0) (vA1.H 1) (vA1.N 6) (vA1.M 2) (vA1.s 0) (vA1.Q 0) (vA1.Q 1) (vA1.H 2) (vA1.N 7) (vA1.H 3) (vA1.N 8) (vA1.O 0) (vA3.N 0) (vA3.H 0) (vA3.H 1) (vA3.N 1) (vA3.H 2) (vA3.N 2) (vA3.H 3) (vA3.N 3) (vA3.H 4) (vA3.N 4) (vA3.H 5) (vA3.H 6) (vA3.O 0) (vA3.R 0) (vA3.M 0) (vA3.H 7) (vA3.N 5) (vA3.D 0) (vA3.VS 0) (vA3.VS 1) (vA3.N 6) (vA3.N 7) (vA3.R 1) (vA5.N 0) (vA5.H 0) (vA5.VS 0) (vA5.N 1) (vA5.H 1) (vA5.N 2) (vA5.H 2) (vA7.N 0) (vA7.VS 0) (vA7.H 0) (vA7.H 1) (vA7.N 1) (vA7.H 2) (vA7.N 2) (vA7.VS 1) (vA7.H 3) (vA7.H 4) (vA7.N 3) (vA7.H 5) (vA7.H 6) (vA7.R 0) (vA7.M 0) (vA7.H 7) (vA7.N 4) (vA7.IS 0) (vA7.VS 2) (vA7.N 5) (vA7.N 6) (vA7.R 1) (vA9.N 0) (vA9.H 0) (vA9.N 1) (vA9.H 1) (vA9.SL 0) (vA9.AS 0) (vA9.R 0), (_ : yW→yN→yVS→yIS→yN→yI→yN→yR→yLS→ymean→yM→yM→yN→yN→ycn→ycs→yN→yV→ycl→youter→yA→yH→yH→yN→yM→ys→yQ→yQ→yH→yN→yH→yN→yO→yN→yH→yH→yN→yH→yN→yH→yN→yH→yN→yH→yH→yO→yR→yM→yH→yN→yD→yVS→yVS→yN→yN→yR→yN→yH→yVS→yN→yH→yN→yH→yN→yVS→yH→yH→yN→yH→yN→yVS→yH→yH→yN→yH→yH→yR→yM→yH→yN→yIS→yVS→yN→yN→yR→yN→yH→yN→yH→ySL→yAS→yR→yH→yN→yN→yN→yN→yR→yM→yH→yN→ySL→yR→Prop) (vA1.W 0) (vA1.N 0) (vA1.VS 0) (vA1.IS 0) (vA1.N 1) (vA1.I 0) (vA1.N 2) (vA1.R 0) (vA1.LS 0) (vA1.mean 0) (vA1.M 0) (vA1.M 1) (vA1.N 3) (vA1.N 4) (vA1.cn 0) (vA1.cs 0) (vA1.N 5) (vA1.V 0) (vA1.cl 0) (vA1.outer 0) (vA1.A 0) (vA1.H 0) (vA1.H 1) (vA1.N 6) (vA1.M 2) (vA1.s 0) (vA1.Q 0) (vA1.Q 1) (vA1.H 2) (vA1.N 7) (vA1.H 3) (vA1.N 8) (vA1.O 0) (vA3.N 0) (vA3.H 0) (vA3.H 1) (vA3.N 1) (vA3.H 2) (vA3.N 2) (vA3.H 3) (vA3.N 3) (vA3.H 4) (vA3.N 4) (vA3.H 5) (vA3.H 6) (vA3.O 0) (vA3.R 0) (vA3.M 0) (vA3.H 7) (vA3.N 5) (vA3.D 0) (vA3.VS 0) (vA3.VS 1) (vA3.N 6) (vA3.N 7) (vA3.R 1) (vA5.N 0) (vA5.H 0) (vA5.VS 0) (vA5.N 1) (vA5.H 1) (vA5.N 2) (vA5.H 2) (vA7.N 0) (vA7.VS 0) (vA7.H 0) (vA7.H 1) (vA7.N 1) (vA7.H 2) (vA7.N 2) (vA7.VS 1) (vA7.H 3) (vA7.H 4) (vA7.N 3) (vA7.H 5) (vA7.H 6) (vA7.R 0) (vA7.M 0) (vA7.H 7) (vA7.N 4) (vA7.IS 0) (vA7.VS 2) (vA7.N 5) (vA7.N 6) (vA7.R 1) (vA9.N 0) (vA9.H 0) (vA9.N 1) (vA9.H 1) (vA9.SL 0) (vA9.AS 0) (vA9.R 0)), fun hPA10 hPA11 => ?main⟩
  case main =>
    intro hmN hiN hlN0 hlN hn0 hs0 hs1 qz23 qz25 qz27 qz28 hret B' X' T' l1 dC good ring prs len run' wcl hW hV wh n9 hb hovs hacc hal mO mV mW mP mR mC prsB oldB F9 hyl hsl o9' N9 hZ mRZ
    generalize vA1.W 0 = w, vA1.N 0 = aN, vA1.VS 0 = vN, vA1.IS 0 = ns, vA1.N 1 = nN, vA1.I 0 = sp, vA1.N 2 = ts, vA1.R 0 = news, vA1.LS 0 = qz1, vA1.mean 0 = qz2, vA1.M 0 = qz3, vA1.M 1 = qz4, vA1.N 3 = qz5, vA1.N 4 = qz6, vA1.cn 0 = qz7, vA1.cs 0 = qz8, vA1.N 5 = aA13, vA1.V 0 = qz10, vA1.cl 0 = qz11, vA1.outer 0 = qz12, vA1.A 0 = qz13, vA1.H 0 = qz14, vA1.H 1 = qz15, vA1.N 6 = qz16, vA1.M 2 = qz17, vA1.s 0 = qz18, vA1.Q 0 = qz19, vA1.Q 1 = qz20, vA1.H 2 = g', vA1.N 7 = L', vA1.H 3 = h', vA1.N 8 = tk', vA1.O 0 = oC0, vA3.N 0 = aR, vA3.H 0 = qz36, vA3.H 1 = qz37, vA3.N 1 = D1, vA3.H 2 = qz38, vA3.N 2 = D2, vA3.H 3 = qz39, vA3.N 3 = D3, vA3.H 4 = qz40, vA3.N 4 = aP, vA3.H 5 = qz41, vA3.H 6 = qz42, vA3.O 0 = oC, vA3.R 0 = rest0, vA3.M 0 = u, vA3.H 7 = h, vA3.N 5 = tk, vA3.D 0 = d, vA3.VS 0 = rvs, vA3.VS 1 = pvs, vA3.N 6 = nR, vA3.N 7 = nP, vA3.R 1 = rest, vA5.N 0 = qz46, vA5.H 0 = qz47, vA5.VS 0 = ys, vA5.N 1 = D9, vA5.H 1 = qz49, vA5.N 2 = tk9, vA5.H 2 = h9, vA7.N 0 = aW, vA7.VS 0 = wW, vA7.H 0 = qz63, vA7.H 1 = qz67, vA7.N 1 = qz68, vA7.H 2 = qz69, vA7.N 2 = aV, vA7.VS 1 = wV, vA7.H 3 = qz71, vA7.H 4 = qz73, vA7.N 3 = aO, vA7.H 5 = qz74, vA7.H 6 = qz75, vA7.R 0 = B, vA7.M 0 = u, vA7.H 7 = h, vA7.N 4 = tk, vA7.IS 0 = acc, vA7.VS 2 = ovs, vA7.N 5 = oa, vA7.N 6 = nO, vA7.R 1 = B2, vA9.N 0 = D9, vA9.H 0 = qz79, vA9.N 1 = tk9, vA9.H 1 = h9, vA9.SL 0 = sl, vA9.AS 0 = ts', vA9.R 0 = Z at *
    k_steps
    rename Fr _ _ _ _ => F6
    rename News _ _ _ _ => N6
    rename IsRange _ _ _ _ _ _ _ _ => R6
    have hRl : (rvs.length : Int) = d.m.ring.length := by rw [ints_len ring]
    have htl : ts'.length = d.m.ring.length := by rw [← ints_len ring, ← hyl, List.length_map]
    obtain ⟨B3, hB3⟩ : ∃ B3, B3 = (D9, LCg.lst (ts'.map Value.ref)) :: B2 := ⟨_, rfl⟩
    have hs0' : SlotsAt w ts' (List.replicate d.m.ring.length Ent.zero) sl B3 := by
      rw [hB3]
      have q := hsl.more (a := D9) (o := LCg.lst (ts'.map Value.ref)) fun p hp => o9' p (List.mem_append_left _ hp)
      rw [hyl, ints_len ring] at q
      exact q
    have N7 : News _ _ _ (chunk sl ++ B3) := fun p hp => N6 p (by
      rw [hZ]
      rw [hB3] at hp
      rcases List.mem_append.mp hp with hp | hp
      · exact .tail _ (List.mem_append_left _ hp)
      · rcases List.mem_cons.mp hp with rfl | hp
        · exact .head _
        · exact .tail _ (List.mem_append_right _ hp))
    have mE : (D9, ({ cls := .type "list", data := .seq (ts'.map Value.ref).toArray (ts'.map Value.ref).length } : Obj)) ∈ B3 := by rw [hB3]; exact .head _
    have BB : ∀ p ∈ B2, p ∈ B3 := fun p hp => by rw [hB3]; exact .tail _ hp
    replace mO := BB _ mO
    replace mV := BB _ mV
    replace mW := BB _ mW
    replace mP := BB _ mP
    replace mR := BB _ mR
    replace mC := BB _ mC
    replace prsB := prsB.mono BB
    replace oldB : ∀ p ∈ news, p ∈ B3 := fun p hp => BB p (oldB p hp)
    (try clear hB3)
    (try clear BB)
    (try clear N6)
    (try clear hZ)
    (try clear mZ)
    (try clear mRZ)
    (try clear o9)
    (try clear o9')
    (try clear hsl)
    refine halt_out ?_
    refine range_inv (n := d.m.ring.length) (st := [Str.ofString "c", Str.ofString "b", Str.ofString "a", Str.ofString "one", Str.ofString "two", Str.ofString "three", Str.ofString "k"]) (fun c u nw => ∃ sl, nw = chunk sl ++ B3 ∧ SlotsAt w ts' (foldC sp ns d (List.replicate d.m.ring.length Ent.zero) c) sl B3) (by rfl) R6 (range_smallG (by lia) (by lia) (by lia)) ((range_sizeG (by lia)).trans (by lia)) F6 N7 ⟨sl, rfl, hs0'⟩ ?_ ?_
    · intro c tc u nw h tk I oI hc hJ910 hcl hne F7 N8
      refine hideG fun nG => ?_
      obtain ⟨sl, rfl, hs⟩ := hJ910
      (try clear F6)
      (try clear N7)
      (try clear R6)
      (try clear hs0')
      refine nG ?_
      (try clear nG)
      rename_i qz80 qz81 qz82 qz83 qz84 qz85 qz86 qz87
      revert hmN hiN hlN0 hlN hn0 hs0 hs1 qz23 qz25 qz27 qz28 hret B' X' T' l1 dC good len run' wcl hW hV hovs hRl htl mE mV mW mP mC prsB hc F7 hs hne N8
      exact hPA10 qz82 qz83 qz84 qz85 qz86 B3 c tc u h tk I oI sl
    · intro u nw h tk hJ917 F7 N8
      refine hideG fun nG => ?_
      obtain ⟨sl, rfl, hs⟩ := hJ917
      (try clear F6)
      (try clear N7)
      (try clear R6)
      (try clear hs0')
      obtain ⟨Z4, hZ4⟩ : ∃ Z4, Z4 = chunk sl ++ B3 := ⟨_, rfl⟩
      rw [← hZ4] at N8
      have BZ : ∀ p ∈ B3, p ∈ Z4 := fun p hp => by rw [hZ4]; exact List.mem_append_right _ hp
      have zE := BZ _ mE
      have zO := BZ _ mO
      have zP := BZ _ mP
      have zR := BZ _ mR
      have zC := BZ _ mC
      refine nG ?_
      (try clear nG)
      rename_i qz88 qz89 qz90 qz91 qz92 qz93 qz94 qz95
      revert hmN hiN hlN0 hlN hn0 hs0 hs1 qz23 qz25 qz27 qz28 hret B' X' T' l1 dC good ring prs len run' wcl hW wh n9 hb hovs hacc hal hRl htl prsB oldB F7 hs N8 hZ4 BZ zE zO zP zR zC
      exact hPA11 qz90 qz91 qz92 qz93 qz94 B3 u h tk sl Z4
noncomputable def pA10 (v : Vars) : Prop := ktA9.1.1 (v.H 0) (v.N 0) (v.N 1) (v.N 2) (v.N 3) (v.R 0) (v.N 4) (v.N 5) (v.M 0) (v.H 1) (v.N 6) (v.N 7) (v.O 0) (v.SL 0)
@[irreducible] noncomputable def vA10 : Vars := hk pA10
noncomputable def ktA10 : {P : (yH→yN→yN→yN→yN→yN→yN→yM→yH→yN→yN→yO→ySL→Prop) × (yH→yN→yN→yN→yN→yM→yH→yN→ySL→Prop) // (∀ x1 x2 x3 x4 x5 x6 x7 x8 x9 x10 x11 x12 x13, P.1 x1 x2 x3 x4 x5 x6 x7 x8 x9 x10 x11 x12 x13) → (∀ x1 x2 x3 x4 x5 x6 x7 x8 x9, P.2 x1 x2 x3 x4 x5 x6 x7 x8 x9) → pA10 vA10} := by
  refine' ⟨((_ : yW→yN→yVS→yIS→yN→yI→yN→yR→yLS→ymean→yM→yM→yN→yN→ycn→ycs→yN→yV→ycl→youter→yA→yH→yH→yN→yM→ys→yQ→yQ→yH→yN→yH→yN→yO→yN→yH→yH→yN→yH→yN→yH→yN→yH→yN→yH→yH→yO→yR→yM→yH→yN→yD→yVS→yVS→yN→yN→yR→yN→yH→yVS→yN→yH→yN→yH→yN→yVS→yH→yH→yN→yH→yN→yVS→yH→yH→yN→yH→yH→yR→yM→yH→yN→yIS→yVS→yN→yN→yR→yN→yH→yN→yH→ySL→yAS→yR→yH→yN→yN→yN→yN→yR→yN→yN→yM→yH→yN→yN→yO→ySL→yH→yN→yN→yN→yN→yN→yN→yM→yH→yN→yN→yO→ySL→Prop) (vA1.W 0) (vA1.N 0) (vA1.VS 0) (vA1.IS 0) (vA1.N 1) (vA1.I 0) (vA1.N 2) (vA1.R 0) (vA1.LS 0) (vA1.mean 0) (vA1.M 0) (vA1.M 1) (vA1.N 3) (vA1.N 4) (vA1.cn 0) (vA1.cs 0) (vA1.N 5) (vA1.V 0) (vA1.cl 0) (vA1.outer 0) (vA1.A 0) (vA1.H 0) (vA1.H 1) (vA1.N 6) (vA1.M 2) (vA1.s 0) (vA1.Q 0) (vA1.Q 1) (vA1.H 2) (vA1.N 7) (vA1.H 3) (vA1.N 8) (vA1.O 0) (vA3.N 0) (vA3.H 0) (vA3.H 1) (vA3.N 1) (vA3.H 2) (vA3.N 2) (vA3.H 3) (vA3.N 3) (vA3.H 4) (vA3.N 4) (vA3.H 5) (vA3.H 6) (vA3.O 0) (vA3.R 0) (vA3.M 0) (vA3.H 7) (vA3.N 5) (vA3.D 0) (vA3.VS 0) (vA3.VS 1) (vA3.N 6) (vA3.N 7) (vA3.R 1) (vA5.N 0) (vA5.H 0) (vA5.VS 0) (vA5.N 1) (vA5.H 1) (vA5.N 2) (vA5.H 2) (vA7.N 0) (vA7.VS 0) (vA7.H 0) (vA7.H 1) (vA7.N 1) (vA7.H 2) (vA7.N 2) (vA7.VS 1) (vA7.H 3) (vA7.H 4) (vA7.N 3) (vA7.H 5) (vA7.H 6) (vA7.R 0) (vA7.M 0) (vA7.H 7) (vA7.N 4) (vA7.IS 0) (vA7.VS 2) (vA7.N 5) (vA7.N 6) (vA7.R 1) (vA9.N 0) (vA9.H 0) (vA9.N 1) (vA9.H 1) (vA9.SL 0) (vA9.AS 0) (vA9.R 0) (vA10.H 0) (vA10.N 0) (vA10.N 1) (vA10.N 2) (vA10.N 3) (vA10.R 0) (vA10.N 4) (vA10.N 5) (vA10.M 0) (vA10.H 1) (vA10.N 6) (vA10.N 7) (vA10.O 0) (vA10.SL 0), (_ : yW→yN→yVS→yIS→yN→yI→yN→yR→yLS→ymean→yM→yM→yN→yN→ycn→ycs→yN→yV→ycl→youter→yA→yH→yH→yN→yM→ys→yQ→yQ→yH→yN→yH→yN→yO→yN→yH→yH→yN→yH→yN→yH→yN→yH→yN→yH→yH→yO→yR→yM→yH→yN→yD→yVS→yVS→yN→yN→yR→yN→yH→yVS→yN→yH→yN→yH→yN→yVS→yH→yH→yN→yH→yN→yVS→yH→yH→yN→yH→yH→yR→yM→yH→yN→yIS→yVS→yN→yN→yR→yN→yH→yN→yH→ySL→yAS→yR→yH→yN→yN→yN→yN→yR→yN→yN→yM→yH→yN→yN→yO→ySL→yH→yN→yN→yN→yN→yM→yH→yN→ySL→Prop) (vA1.W 0) (vA1.N 0) (vA1.VS 0) (vA1.IS 0) (vA1.N 1) (vA1.I 0) (vA1.N 2) (vA1.R 0) (vA1.LS 0) (vA1.mean 0) (vA1.M 0) (vA1.M 1) (vA1.N 3) (vA1.N 4) (vA1.cn 0) (vA1.cs 0) (vA1.N 5) (vA1.V 0) (vA1.cl 0) (vA1.outer 0) (vA1.A 0) (vA1.H 0) (vA1.H 1) (vA1.N 6) (vA1.M 2) (vA1.s 0) (vA1.Q 0) (vA1.Q 1) (vA1.H 2) (vA1.N 7) (vA1.H 3) (vA1.N 8) (vA1.O 0) (vA3.N 0) (vA3.H 0) (vA3.H 1) (vA3.N 1) (vA3.H 2) (vA3.N 2) (vA3.H 3) (vA3.N 3) (vA3.H 4) (vA3.N 4) (vA3.H 5) (vA3.H 6) (vA3.O 0) (vA3.R 0) (vA3.M 0) (vA3.H 7) (vA3.N 5) (vA3.D 0) (vA3.VS 0) (vA3.VS 1) (vA3.N 6) (vA3.N 7) (vA3.R 1) (vA5.N 0) (vA5.H 0) (vA5.VS 0) (vA5.N 1) (vA5.H 1) (vA5.N 2) (vA5.H 2) (vA7.N 0) (vA7.VS 0) (vA7.H 0) (vA7.H 1) (vA7.N 1) (vA7.H 2) (vA7.N 2) (vA7.VS 1) (vA7.H 3) (vA7.H 4) (vA7.N 3) (vA7.H 5) (vA7.H 6) (vA7.R 0) (vA7.M 0) (vA7.H 7) (vA7.N 4) (vA7.IS 0) (vA7.VS 2) (vA7.N 5) (vA7.N 6) (vA7.R 1) (vA9.N 0) (vA9.H 0) (vA9.N 1) (vA9.H 1) (vA9.SL 0) (vA9.AS 0) (vA9.R 0) (vA10.H 0) (vA10.N 0) (vA10.N 1) (vA10.N 2) (vA10.N 3) (vA10.R 0) (vA10.N 4) (vA10.N 5) (vA10.M 0) (vA10.H 1) (vA10.N 6) (vA10.N 7) (vA10.O 0) (vA10.SL 0)), fun hPA12 hPA13 => ?main⟩
  case main =>
    intro hmN hiN hlN0 hlN hn0 hs0 hs1 qz23 qz25 qz27 qz28 hret B' X' T' l1 dC good len run' wcl hW hV hovs hRl htl mE mV mW mP mC prsB hc F7 hs hne N8
    generalize vA1.W 0 = w, vA1.N 0 = aN, vA1.VS 0 = vN, vA1.IS 0 = ns, vA1.N 1 = nN, vA1.I 0 = sp, vA1.N 2 = ts, vA1.R 0 = news, vA1.LS 0 = qz1, vA1.mean 0 = qz2, vA1.M 0 = qz3, vA1.M 1 = qz4, vA1.N 3 = qz5, vA1.N 4 = qz6, vA1.cn 0 = qz7, vA1.cs 0 = qz8, vA1.N 5 = aA13, vA1.V 0 = qz10, vA1.cl 0 = qz11, vA1.outer 0 = qz12, vA1.A 0 = qz13, vA1.H 0 = qz14, vA1.H 1 = qz15, vA1.N 6 = qz16, vA1.M 2 = qz17, vA1.s 0 = qz18, vA1.Q 0 = qz19, vA1.Q 1 = qz20, vA1.H 2 = g', vA1.N 7 = L', vA1.H 3 = h', vA1.N 8 = tk', vA1.O 0 = oC0, vA3.N 0 = aR, vA3.H 0 = qz36, vA3.H 1 = qz37, vA3.N 1 = D1, vA3.H 2 = qz38, vA3.N 2 = D2, vA3.H 3 = qz39, vA3.N 3 = D3, vA3.H 4 = qz40, vA3.N 4 = aP, vA3.H 5 = qz41, vA3.H 6 = qz42, vA3.O 0 = oC, vA3.R 0 = rest0, vA3.M 0 = u, vA3.H 7 = h, vA3.N 5 = tk, vA3.D 0 = d, vA3.VS 0 = rvs, vA3.VS 1 = pvs, vA3.N 6 = nR, vA3.N 7 = nP, vA3.R 1 = rest, vA5.N 0 = qz46, vA5.H 0 = qz47, vA5.VS 0 = ys, vA5.N 1 = D9, vA5.H 1 = qz49, vA5.N 2 = tk9, vA5.H 2 = h9, vA7.N 0 = aW, vA7.VS 0 = wW, vA7.H 0 = qz63, vA7.H 1 = qz67, vA7.N 1 = qz68, vA7.H 2 = qz69, vA7.N 2 = aV, vA7.VS 1 = wV, vA7.H 3 = qz71, vA7.H 4 = qz73, vA7.N 3 = aO, vA7.H 5 = qz74, vA7.H 6 = qz75, vA7.R 0 = B, vA7.M 0 = u, vA7.H 7 = h, vA7.N 4 = tk, vA7.IS 0 = acc, vA7.VS 2 = ovs, vA7.N 5 = oa, vA7.N 6 = nO, vA7.R 1 = B2, vA9.N 0 = D9, vA9.H 0 = qz79, vA9.N 1 = tk9, vA9.H 1 = h9, vA9.SL 0 = sl, vA9.AS 0 = ts', vA9.R 0 = Z, vA10.H 0 = qz82, vA10.N 0 = qz83, vA10.N 1 = qz84, vA10.N 2 = qz85, vA10.N 3 = qz86, vA10.R 0 = B3, vA10.N 4 = c, vA10.N 5 = tc, vA10.M 0 = u, vA10.H 1 = h, vA10.N 6 = tk, vA10.N 7 = I, vA10.O 0 = oI, vA10.SL 0 = sl at *
    k_steps
    rename Fr _ _ _ _ => F8
    rename News _ _ _ _ => N9
    rename IsRange _ _ _ _ _ _ _ _ => R8
    refine halt_out ?_
    refine range_inv (n := c) (st := [Str.ofString "b", Str.ofString "a", Str.ofString "one", Str.ofString "two", Str.ofString "three", Str.ofString "k"]) (fun b u nw => ∃ sl, nw = chunk sl ++ (I, oI) :: B3 ∧ SlotsAt w ts' (foldB sp ns d c (foldC sp ns d (List.replicate d.m.ring.length Ent.zero) c) b) sl ((I, oI) :: B3)) (by rfl) R8 (range_smallG (by lia) (by lia) (by lia)) ((range_sizeG (by lia)).trans (by lia)) F8 (news_mid N9) ⟨sl, rfl, hs.more fun p hp => hne p (List.mem_append_left _ hp)⟩ ?_ ?_
    · intro b tb u nw h tk I2 oI2 hb hJ911 hcl2 hne2 F9 N10
      refine hideG fun nG => ?_
      obtain ⟨sl, rfl, hs⟩ := hJ911
      (try clear F8)
      (try clear N9)
      (try clear R8)
      refine nG ?_
      (try clear nG)
      rename_i qz96 qz97 qz98 qz99 qz15 qz100 qz101 qz102 qz103 qz104
      revert hmN hiN hlN0 hlN hn0 hs0 hs1 qz23 qz25 qz27 qz28 hret B' X' T' l1 dC good len run' wcl hW hV hovs hRl htl mE mV mW mP mC prsB hc hb F9 hs hne2 N10
      exact hPA12 qz15 qz100 qz101 qz102 qz103 b tb u h tk I2 oI2 sl
    · intro u nw h tk hJ916 F9 N10
      refine hideG fun nG => ?_
      obtain ⟨sl, rfl, hs⟩ := hJ916
      (try clear F8)
      (try clear N9)
      (try clear R8)
      refine nG ?_
      (try clear nG)
      rename_i qz105 qz106 qz107 qz108 qz109 qz110 qz111 qz112 qz113
      revert hmN hiN hlN0 hlN hn0 hs0 hs1 qz23 qz25 qz27 qz28 hret B' X' T' l1 hne F9 hs N10
      exact hPA13 qz108 qz109 qz110 qz111 qz112 u h tk sl
noncomputable def pA12 (v : Vars) : Prop := ktA10.1.1 (v.H 0) (v.N 0) (v.N 1) (v.N 2) (v.N 3) (v.N 4) (v.N 5) (v.M 0) (v.H 1) (v.N 6) (v.N 7) (v.O 0) (v.SL 0)
@[irreducible] noncomputable def vA12 : Vars := hk pA12
noncomputable def ktA12 : {P : (yH→yN→yN→yN→yN→yN→yN→yM→yH→yN→yN→yO→ySL→yN→yN→yN→yN→yN→yN→yN→yN→yN→yN→yN→yN→yI→yI→yI→yI→yI→yI→yR→Prop) × (yH→yN→yN→yN→yN→yM→yH→yN→ySL→Prop) // (∀ x1 x2 x3 x4 x5 x6 x7 x8 x9 x10 x11 x12 x13 x14 x15 x16 x17 x18 x19 x20 x21 x22 x23 x24 x25 x26 x27 x28 x29 x30 x31 x32, P.1 x1 x2 x3 x4 x5 x6 x7 x8 x9 x10 x11 x12 x13 x14 x15 x16 x17 x18 x19 x20 x21 x22 x23 x24 x25 x26 x27 x28 x29 x30 x31 x32) → (∀ x1 x2 x3 x4 x5 x6 x7 x8 x9, P.2 x1 x2 x3 x4 x5 x6 x7 x8 x9) → pA12 vA12} := by
  refine' ⟨((_ : yW→yN→yVS→yIS→yN→yI→yN→yR→yLS→ymean→yM→yM→yN→yN→ycn→ycs→yN→yV→ycl→youter→yA→yH→yH→yN→yM→ys→yQ→yQ→yH→yN→yH→yN→yO→yN→yH→yH→yN→yH→yN→yH→yN→yH→yN→yH→yH→yO→yR→yM→yH→yN→yD→yVS→yVS→yN→yN→yR→yN→yH→yVS→yN→yH→yN→yH→yN→yVS→yH→yH→yN→yH→yN→yVS→yH→yH→yN→yH→yH→yR→yM→yH→yN→yIS→yVS→yN→yN→yR→yN→yH→yN→yH→ySL→yAS→yR→yH→yN→yN→yN→yN→yR→yN→yN→yM→yH→yN→yN→yO→ySL→yH→yN→yN→yN→yN→yN→yN→yM→yH→yN→yN→yO→ySL→yH→yN→yN→yN→yN→yN→yN→yM→yH→yN→yN→yO→ySL→yN→yN→yN→yN→yN→yN→yN→yN→yN→yN→yN→yN→yI→yI→yI→yI→yI→yI→yR→Prop) (vA1.W 0) (vA1.N 0) (vA1.VS 0) (vA1.IS 0) (vA1.N 1) (vA1.I 0) (vA1.N 2) (vA1.R 0) (vA1.LS 0) (vA1.mean 0) (vA1.M 0) (vA1.M 1) (vA1.N 3) (vA1.N 4) (vA1.cn 0) (vA1.cs 0) (vA1.N 5) (vA1.V 0) (vA1.cl 0) (vA1.outer 0) (vA1.A 0) (vA1.H 0) (vA1.H 1) (vA1.N 6) (vA1.M 2) (vA1.s 0) (vA1.Q 0) (vA1.Q 1) (vA1.H 2) (vA1.N 7) (vA1.H 3) (vA1.N 8) (vA1.O 0) (vA3.N 0) (vA3.H 0) (vA3.H 1) (vA3.N 1) (vA3.H 2) (vA3.N 2) (vA3.H 3) (vA3.N 3) (vA3.H 4) (vA3.N 4) (vA3.H 5) (vA3.H 6) (vA3.O 0) (vA3.R 0) (vA3.M 0) (vA3.H 7) (vA3.N 5) (vA3.D 0) (vA3.VS 0) (vA3.VS 1) (vA3.N 6) (vA3.N 7) (vA3.R 1) (vA5.N 0) (vA5.H 0) (vA5.VS 0) (vA5.N 1) (vA5.H 1) (vA5.N 2) (vA5.H 2) (vA7.N 0) (vA7.VS 0) (vA7.H 0) (vA7.H 1) (vA7.N 1) (vA7.H 2) (vA7.N 2) (vA7.VS 1) (vA7.H 3) (vA7.H 4) (vA7.N 3) (vA7.H 5) (vA7.H 6) (vA7.R 0) (vA7.M 0) (vA7.H 7) (vA7.N 4) (vA7.IS 0) (vA7.VS 2) (vA7.N 5) (vA7.N 6) (vA7.R 1) (vA9.N 0) (vA9.H 0) (vA9.N 1) (vA9.H 1) (vA9.SL 0) (vA9.AS 0) (vA9.R 0) (vA10.H 0) (vA10.N 0) (vA10.N 1) (vA10.N 2) (vA10.N 3) (vA10.R 0) (vA10.N 4) (vA10.N 5) (vA10.M 0) (vA10.H 1) (vA10.N 6) (vA10.N 7) (vA10.O 0) (vA10.SL 0) (vA12.H 0) (vA12.N 0) (vA12.N 1) (vA12.N 2) (vA12.N 3) (vA12.N 4) (vA12.N 5) (vA12.M 0) (vA12.H 1) (vA12.N 6) (vA12.N 7) (vA12.O 0) (vA12.SL 0), (_ : yW→yN→yVS→yIS→yN→yI→yN→yR→yLS→ymean→yM→yM→yN→yN→ycn→ycs→yN→yV→ycl→youter→yA→yH→yH→yN→yM→ys→yQ→yQ→yH→yN→yH→yN→yO→yN→yH→yH→yN→yH→yN→yH→yN→yH→yN→yH→yH→yO→yR→yM→yH→yN→yD→yVS→yVS→yN→yN→yR→yN→yH→yVS→yN→yH→yN→yH→yN→yVS→yH→yH→yN→yH→yN→yVS→yH→yH→yN→yH→yH→yR→yM→yH→yN→yIS→yVS→yN→yN→yR→yN→yH→yN→yH→ySL→yAS→yR→yH→yN→yN→yN→yN→yR→yN→yN→yM→yH→yN→yN→yO→ySL→yH→yN→yN→yN→yN→yN→yN→yM→yH→yN→yN→yO→ySL→yH→yN→yN→yN→yN→yM→yH→yN→ySL→Prop) (vA1.W 0) (vA1.N 0) (vA1.VS 0) (vA1.IS 0) (vA1.N 1) (vA1.I 0) (vA1.N 2) (vA1.R 0) (vA1.LS 0) (vA1.mean 0) (vA1.M 0) (vA1.M 1) (vA1.N 3) (vA1.N 4) (vA1.cn 0) (vA1.cs 0) (vA1.N 5) (vA1.V 0) (vA1.cl 0) (vA1.outer 0) (vA1.A 0) (vA1.H 0) (vA1.H 1) (vA1.N 6) (vA1.M 2) (vA1.s 0) (vA1.Q 0) (vA1.Q 1) (vA1.H 2) (vA1.N 7) (vA1.H 3) (vA1.N 8) (vA1.O 0) (vA3.N 0) (vA3.H 0) (vA3.H 1) (vA3.N 1) (vA3.H 2) (vA3.N 2) (vA3.H 3) (vA3.N 3) (vA3.H 4) (vA3.N 4) (vA3.H 5) (vA3.H 6) (vA3.O 0) (vA3.R 0) (vA3.M 0) (vA3.H 7) (vA3.N 5) (vA3.D 0) (vA3.VS 0) (vA3.VS 1) (vA3.N 6) (vA3.N 7) (vA3.R 1) (vA5.N 0) (vA5.H 0) (vA5.VS 0) (vA5.N 1) (vA5.H 1) (vA5.N 2) (vA5.H 2) (vA7.N 0) (vA7.VS 0) (vA7.H 0) (vA7.H 1) (vA7.N 1) (vA7.H 2) (vA7.N 2) (vA7.VS 1) (vA7.H 3) (vA7.H 4) (vA7.N 3) (vA7.H 5) (vA7.H 6) (vA7.R 0) (vA7.M 0) (vA7.H 7) (vA7.N 4) (vA7.IS 0) (vA7.VS 2) (vA7.N 5) (vA7.N 6) (vA7.R 1) (vA9.N 0) (vA9.H 0) (vA9.N 1) (vA9.H 1) (vA9.SL 0) (vA9.AS 0) (vA9.R 0) (vA10.H 0) (vA10.N 0) (vA10.N 1) (vA10.N 2) (vA10.N 3) (vA10.R 0) (vA10.N 4) (vA10.N 5) (vA10.M 0) (vA10.H 1) (vA10.N 6) (vA10.N 7) (vA10.O 0) (vA10.SL 0) (vA12.H 0) (vA12.N 0) (vA12.N 1) (vA12.N 2) (vA12.N 3) (vA12.N 4) (vA12.N 5) (vA12.M 0) (vA12.H 1) (vA12.N 6) (vA12.N 7) (vA12.O 0) (vA12.SL 0)), fun hPA14 hPA15 => ?main⟩
  case main =>
    intro hmN hiN hlN0 hlN hn0 hs0 hs1 qz23 qz25 qz27 qz28 hret B' X' T' l1 dC good len run' wcl hW hV hovs hRl htl mE mV mW mP mC prsB hc hb F9 hs hne2 N10
    generalize vA1.W 0 = w, vA1.N 0 = aN, vA1.VS 0 = vN, vA1.IS 0 = ns, vA1.N 1 = nN, vA1.I 0 = sp, vA1.N 2 = ts, vA1.R 0 = news, vA1.LS 0 = qz1, vA1.mean 0 = qz2, vA1.M 0 = qz3, vA1.M 1 = qz4, vA1.N 3 = qz5, vA1.N 4 = qz6, vA1.cn 0 = qz7, vA1.cs 0 = qz8, vA1.N 5 = aA13, vA1.V 0 = qz10, vA1.cl 0 = qz11, vA1.outer 0 = qz12, vA1.A 0 = qz13, vA1.H 0 = qz14, vA1.H 1 = qz15, vA1.N 6 = qz16, vA1.M 2 = qz17, vA1.s 0 = qz18, vA1.Q 0 = qz19, vA1.Q 1 = qz20, vA1.H 2 = g', vA1.N 7 = L', vA1.H 3 = h', vA1.N 8 = tk', vA1.O 0 = oC0, vA3.N 0 = aR, vA3.H 0 = qz36, vA3.H 1 = qz37, vA3.N 1 = D1, vA3.H 2 = qz38, vA3.N 2 = D2, vA3.H 3 = qz39, vA3.N 3 = D3, vA3.H 4 = qz40, vA3.N 4 = aP, vA3.H 5 = qz41, vA3.H 6 = qz42, vA3.O 0 = oC, vA3.R 0 = rest0, vA3.M 0 = u, vA3.H 7 = h, vA3.N 5 = tk, vA3.D 0 = d, vA3.VS 0 = rvs, vA3.VS 1 = pvs, vA3.N 6 = nR, vA3.N 7 = nP, vA3.R 1 = rest, vA5.N 0 = qz46, vA5.H 0 = qz47, vA5.VS 0 = ys, vA5.N 1 = D9, vA5.H 1 = qz49, vA5.N 2 = tk9, vA5.H 2 = h9, vA7.N 0 = aW, vA7.VS 0 = wW, vA7.H 0 = qz63, vA7.H 1 = qz67, vA7.N 1 = qz68, vA7.H 2 = qz69, vA7.N 2 = aV, vA7.VS 1 = wV, vA7.H 3 = qz71, vA7.H 4 = qz73, vA7.N 3 = aO, vA7.H 5 = qz74, vA7.H 6 = qz75, vA7.R 0 = B, vA7.M 0 = u, vA7.H 7 = h, vA7.N 4 = tk, vA7.IS 0 = acc, vA7.VS 2 = ovs, vA7.N 5 = oa, vA7.N 6 = nO, vA7.R 1 = B2, vA9.N 0 = D9, vA9.H 0 = qz79, vA9.N 1 = tk9, vA9.H 1 = h9, vA9.SL 0 = sl, vA9.AS 0 = ts', vA9.R 0 = Z, vA10.H 0 = qz82, vA10.N 0 = qz83, vA10.N 1 = qz84, vA10.N 2 = qz85, vA10.N 3 = qz86, vA10.R 0 = B3, vA10.N 4 = c, vA10.N 5 = tc, vA10.M 0 = u, vA10.H 1 = h, vA10.N 6 = tk, vA10.N 7 = I, vA10.O 0 = oI, vA10.SL 0 = sl, vA12.H 0 = qz15, vA12.N 0 = qz100, vA12.N 1 = qz101, vA12.N 2 = qz102, vA12.N 3 = qz103, vA12.N 4 = b, vA12.N 5 = tb, vA12.M 0 = u, vA12.H 1 = h, vA12.N 6 = tk, vA12.N 7 = I2, vA12.O 0 = oI2, vA12.SL 0 = sl at *
    k_steps
    rename Fr _ _ _ _ => F10
    rename News _ _ _ _ => N11
    rename IsRange _ _ _ _ _ _ _ _ => R10
    refine halt_out ?_
    refine range_inv (n := b) (st := [Str.ofString "a", Str.ofString "one", Str.ofString "two", Str.ofString "three", Str.ofString "k"]) (fun a u nw => ∃ sl, nw = chunk sl ++ (I2, oI2) :: (I, oI) :: B3 ∧ SlotsAt w ts' (foldA sp ns d c b (foldB sp ns d c (foldC sp ns d (List.replicate d.m.ring.length Ent.zero) c) b) a) sl ((I2, oI2) :: (I, oI) :: B3)) (by rfl) R10 (range_smallG (by lia) (by lia) (by lia)) ((range_sizeG (by lia)).trans (by lia)) F10 (news_mid N11) ⟨sl, rfl, hs.more fun p hp => hne2 p (List.mem_append_left _ hp)⟩ ?_ ?_
    · intro a ta u nw h tk I3 oI3 ha hJ912 hcl3 hne3 F11 N12
      refine hideG fun nG => ?_
      obtain ⟨sl, rfl, hs⟩ := hJ912
      (try clear F10)
      (try clear N11)
      (try clear R10)
      have pl := good.pl
      have p64 := pow_le64 (n := d.m.ring.length) (by lia)
      obtain ⟨ua, hua, Ta, na, qa1, qa2, rfl, hTa⟩ := prsB.at (i := 0 + (a : Int)) (by lia)
      obtain ⟨ub, hub, Tb, nb, qb1, qb2, rfl, hTb⟩ := prsB.at (i := 0 + (b : Int)) (by lia)
      obtain ⟨uc, huc, Tc, nc, qc1, qc2, rfl, hTc⟩ := prsB.at (i := 0 + (c : Int)) (by lia)
      have ba := good.pb _ (pAt_mem (ps := d.ps) (i := 0 + (a : Int)) (by lia))
      have bb := good.pb _ (pAt_mem (ps := d.ps) (i := 0 + (b : Int)) (by lia))
      have bc := good.pb _ (pAt_mem (ps := d.ps) (i := 0 + (c : Int)) (by lia))
      have a0 : 0 ≤ 0 + (a : Int) := by lia
      have a1 : 0 + (a : Int) < 2 ^ 20 := by lia
      have b0 : 0 ≤ 0 + (b : Int) := by lia
      have b1 : 0 + (b : Int) < 2 ^ 20 := by lia
      have c0 : 0 ≤ 0 + (c : Int) := by lia
      have c1 : 0 + (c : Int) < 2 ^ 20 := by lia
      obtain ⟨xa, hxa⟩ : ∃ x, x = (pAt d.ps (0 + (a : Int))).1 := ⟨_, rfl⟩
      obtain ⟨ya, hya⟩ : ∃ x, x = (pAt d.ps (0 + (a : Int))).2 := ⟨_, rfl⟩
      obtain ⟨xb, hxb⟩ : ∃ x, x = (pAt d.ps (0 + (b : Int))).1 := ⟨_, rfl⟩
      obtain ⟨yb, hyb⟩ : ∃ x, x = (pAt d.ps (0 + (b : Int))).2 := ⟨_, rfl⟩
      obtain ⟨xc, hxc⟩ : ∃ x, x = (pAt d.ps (0 + (c : Int))).1 := ⟨_, rfl⟩
      obtain ⟨yc, hyc⟩ : ∃ x, x = (pAt d.ps (0 + (c : Int))).2 := ⟨_, rfl⟩
      rw [← hxa, ← hya] at hTa ba
      rw [← hxb, ← hyb] at hTb bb
      rw [← hxc, ← hyc] at hTc bc
      have ba1 : xa.natAbs < 1000 := by lia
      have ba2 : ya.natAbs < 1000 := by lia
      have bb1 : xb.natAbs < 1000 := by lia
      have bb2 : yb.natAbs < 1000 := by lia
      have bc1 : xc.natAbs < 1000 := by lia
      have bc2 : yc.natAbs < 1000 := by lia
      (try clear ba)
      (try clear bb)
      (try clear bc)
      (try clear p64)
      obtain ⟨Z3, hZ3⟩ : ∃ Z3, Z3 = (I3, oI3) :: (chunk sl ++ (I2, oI2) :: (I, oI) :: B3) := ⟨_, rfl⟩
      rw [← hZ3] at N12
      have BZ : ∀ p ∈ B3, p ∈ Z3 := fun p hp => by rw [hZ3]; exact .tail _ (List.mem_append_right _ (.tail _ (.tail _ hp)))
      have hTa := BZ _ hTa
      have hTb := BZ _ hTb
      have hTc := BZ _ hTc
      have zP := BZ _ mP
      have zC := BZ _ mC
      have ea : pAt d.ps (a : Int) = (xa, ya) := by rw [hxa, hya, Int.zero_add]
      have eb : pAt d.ps (b : Int) = (xb, yb) := by rw [hxb, hyb, Int.zero_add]
      have ec : pAt d.ps (c : Int) = (xc, yc) := by rw [hxc, hyc, Int.zero_add]
      have f1 : entA (pAt d.ps (a : Int)) (pAt d.ps (b : Int)) = ((xa * yb - ya * xb).natAbs : Int) := by rw [ea, eb]; rfl
      have f2 : entA (pAt d.ps (b : Int)) (pAt d.ps (c : Int)) = ((xb * yc - yb * xc).natAbs : Int) := by rw [eb, ec]; rfl
      have f3 : entA (pAt d.ps (a : Int)) (pAt d.ps (c : Int)) = ((xa * yc - ya * xc).natAbs : Int) := by rw [ea, ec]; rfl
      (try clear hxa)
      (try clear hya)
      (try clear hxb)
      (try clear hyb)
      (try clear hxc)
      (try clear hyc)
      (try clear ea)
      (try clear eb)
      (try clear ec)
      refine nG ?_
      (try clear nG)
      rename_i qz114 qz115 qz116 qz117 qz118 qz119 qz120 qz121 qz122 qz123 qz124 qz125
      revert hmN hiN hlN0 hlN hn0 hs0 hs1 qz23 qz25 qz27 qz28 hret B' X' T' l1 dC len run' wcl hW hV hovs hRl htl mE mV mW hc hb ha F11 hs hne3 pl hua hub huc a0 a1 b0 b1 c0 c1 ba1 ba2 bb1 bb2 bc1 bc2 N12 hZ3 hTa hTb hTc zP zC f1 f2 f3
      exact hPA14 qz117 qz118 qz119 qz120 qz121 a ta u h tk I3 oI3 sl Ta na qa1 qa2 Tb nb qb1 qb2 Tc nc qc1 qc2 xa ya xb yb xc yc Z3
    · intro u nw h tk hJ915 F11 N12
      refine hideG fun nG => ?_
      obtain ⟨sl, rfl, hs⟩ := hJ915
      (try clear F10)
      (try clear N11)
      (try clear R10)
      refine nG ?_
      (try clear nG)
      rename_i qz126 qz127 qz128 qz129 qz130 qz131 qz132 qz133 qz134
      revert hmN hiN hlN0 hlN hn0 hs0 hs1 qz23 qz25 qz27 qz28 hret B' X' T' l1 hne2 F11 hs N12
      exact hPA15 qz129 qz130 qz131 qz132 qz133 u h tk sl
noncomputable def pA14 (v : Vars) : Prop := ktA12.1.1 (v.H 0) (v.N 0) (v.N 1) (v.N 2) (v.N 3) (v.N 4) (v.N 5) (v.M 0) (v.H 1) (v.N 6) (v.N 7) (v.O 0) (v.SL 0) (v.N 8) (v.N 9) (v.N 10) (v.N 11) (v.N 12) (v.N 13) (v.N 14) (v.N 15) (v.N 16) (v.N 17) (v.N 18) (v.N 19) (v.I 0) (v.I 1) (v.I 2) (v.I 3) (v.I 4) (v.I 5) (v.R 0)
@[irreducible] noncomputable def vA14 : Vars := hk pA14
noncomputable def ktA14 : {P : (yH→yN→yN→yH→yN→yN→yH→yN→yN→yN→yN→yH→yN→yH→yN→yH→yN→yH→yR→yVS→yM→yH→yN→yN→yO→yES→ySL→yT3→yN→yN→yN→yN→yN→yN→yN→yN→yN→yN→yO→yKV→yN→yN→yN→yN→yN→yE→yR→yIS→yIS→Prop) × (yH→yN→yN→yH→yN→yN→yH→yN→yN→yN→yN→yH→yN→yH→yN→yH→yN→yH→yR→yM→yH→yN→yES→ySL→Prop) // (∀ x1 x2 x3 x4 x5 x6 x7 x8 x9 x10 x11 x12 x13 x14 x15 x16 x17 x18 x19 x20 x21 x22 x23 x24 x25 x26 x27 x28 x29 x30 x31 x32 x33 x34 x35 x36 x37 x38 x39 x40 x41 x42 x43 x44 x45 x46 x47 x48 x49, P.1 x1 x2 x3 x4 x5 x6 x7 x8 x9 x10 x11 x12 x13 x14 x15 x16 x17 x18 x19 x20 x21 x22 x23 x24 x25 x26 x27 x28 x29 x30 x31 x32 x33 x34 x35 x36 x37 x38 x39 x40 x41 x42 x43 x44 x45 x46 x47 x48 x49) → (∀ x1 x2 x3 x4 x5 x6 x7 x8 x9 x10 x11 x12 x13 x14 x15 x16 x17 x18 x19 x20 x21 x22 x23 x24, P.2 x1 x2 x3 x4 x5 x6 x7 x8 x9 x10 x11 x12 x13 x14 x15 x16 x17 x18 x19 x20 x21 x22 x23 x24) → pA14 vA14} := by
  refine' ⟨((_ : yW→yN→yVS→yIS→yN→yI→yN→yR→yLS→ymean→yM→yM→yN→yN→ycn→ycs→yN→yV→ycl→youter→yA→yH→yH→yN→yM→ys→yQ→yQ→yH→yN→yH→yN→yO→yN→yH→yH→yN→yH→yN→yH→yN→yH→yN→yH→yH→yO→yR→yM→yH→yN→yD→yVS→yVS→yN→yN→yR→yN→yH→yVS→yN→yH→yN→yH→yN→yVS→yH→yH→yN→yH→yN→yVS→yH→yH→yN→yH→yH→yR→yM→yH→yN→yIS→yVS→yN→yN→yR→yN→yH→yN→yH→ySL→yAS→yR→yH→yN→yN→yN→yN→yR→yN→yN→yM→yH→yN→yN→yO→ySL→yH→yN→yN→yN→yN→yN→yN→yM→yH→yN→yN→yO→ySL→yH→yN→yN→yN→yN→yN→yN→yM→yH→yN→yN→yO→ySL→yN→yN→yN→yN→yN→yN→yN→yN→yN→yN→yN→yN→yI→yI→yI→yI→yI→yI→yR→yH→yN→yN→yH→yN→yN→yH→yN→yN→yN→yN→yH→yN→yH→yN→yH→yN→yH→yR→yVS→yM→yH→yN→yN→yO→yES→ySL→yT3→yN→yN→yN→yN→yN→yN→yN→yN→yN→yN→yO→yKV→yN→yN→yN→yN→yN→yE→yR→yIS→yIS→Prop) (vA1.W 0) (vA1.N 0) (vA1.VS 0) (vA1.IS 0) (vA1.N 1) (vA1.I 0) (vA1.N 2) (vA1.R 0) (vA1.LS 0) (vA1.mean 0) (vA1.M 0) (vA1.M 1) (vA1.N 3) (vA1.N 4) (vA1.cn 0) (vA1.cs 0) (vA1.N 5) (vA1.V 0) (vA1.cl 0) (vA1.outer 0) (vA1.A 0) (vA1.H 0) (vA1.H 1) (vA1.N 6) (vA1.M 2) (vA1.s 0) (vA1.Q 0) (vA1.Q 1) (vA1.H 2) (vA1.N 7) (vA1.H 3) (vA1.N 8) (vA1.O 0) (vA3.N 0) (vA3.H 0) (vA3.H 1) (vA3.N 1) (vA3.H 2) (vA3.N 2) (vA3.H 3) (vA3.N 3) (vA3.H 4) (vA3.N 4) (vA3.H 5) (vA3.H 6) (vA3.O 0) (vA3.R 0) (vA3.M 0) (vA3.H 7) (vA3.N 5) (vA3.D 0) (vA3.VS 0) (vA3.VS 1) (vA3.N 6) (vA3.N 7) (vA3.R 1) (vA5.N 0) (vA5.H 0) (vA5.VS 0) (vA5.N 1) (vA5.H 1) (vA5.N 2) (vA5.H 2) (vA7.N 0) (vA7.VS 0) (vA7.H 0) (vA7.H 1) (vA7.N 1) (vA7.H 2) (vA7.N 2) (vA7.VS 1) (vA7.H 3) (vA7.H 4) (vA7.N 3) (vA7.H 5) (vA7.H 6) (vA7.R 0) (vA7.M 0) (vA7.H 7) (vA7.N 4) (vA7.IS 0) (vA7.VS 2) (vA7.N 5) (vA7.N 6) (vA7.R 1) (vA9.N 0) (vA9.H 0) (vA9.N 1) (vA9.H 1) (vA9.SL 0) (vA9.AS 0) (vA9.R 0) (vA10.H 0) (vA10.N 0) (vA10.N 1) (vA10.N 2) (vA10.N 3) (vA10.R 0) (vA10.N 4) (vA10.N 5) (vA10.M 0) (vA10.H 1) (vA10.N 6) (vA10.N 7) (vA10.O 0) (vA10.SL 0) (vA12.H 0) (vA12.N 0) (vA12.N 1) (vA12.N 2) (vA12.N 3) (vA12.N 4) (vA12.N 5) (vA12.M 0) (vA12.H 1) (vA12.N 6) (vA12.N 7) (vA12.O 0) (vA12.SL 0) (vA14.H 0) (vA14.N 0) (vA14.N 1) (vA14.N 2) (vA14.N 3) (vA14.N 4) (vA14.N 5) (vA14.M 0) (vA14.H 1) (vA14.N 6) (vA14.N 7) (vA14.O 0) (vA14.SL 0) (vA14.N 8) (vA14.N 9) (vA14.N 10) (vA14.N 11) (vA14.N 12) (vA14.N 13) (vA14.N 14) (vA14.N 15) (vA14.N 16) (vA14.N 17) (vA14.N 18) (vA14.N 19) (vA14.I 0) (vA14.I 1) (vA14.I 2) (vA14.I 3) (vA14.I 4) (vA14.I 5) (vA14.R 0), (_ : yW→yN→yVS→yIS→yN→yI→yN→yR→yLS→ymean→yM→yM→yN→yN→ycn→ycs→yN→yV→ycl→youter→yA→yH→yH→yN→yM→ys→yQ→yQ→yH→yN→yH→yN→yO→yN→yH→yH→yN→yH→yN→yH→yN→yH→yN→yH→yH→yO→yR→yM→yH→yN→yD→yVS→yVS→yN→yN→yR→yN→yH→yVS→yN→yH→yN→yH→yN→yVS→yH→yH→yN→yH→yN→yVS→yH→yH→yN→yH→yH→yR→yM→yH→yN→yIS→yVS→yN→yN→yR→yN→yH→yN→yH→ySL→yAS→yR→yH→yN→yN→yN→yN→yR→yN→yN→yM→yH→yN→yN→yO→ySL→yH→yN→yN→yN→yN→yN→yN→yM→yH→yN→yN→yO→ySL→yH→yN→yN→yN→yN→yN→yN→yM→yH→yN→yN→yO→ySL→yN→yN→yN→yN→yN→yN→yN→yN→yN→yN→yN→yN→yI→yI→yI→yI→yI→yI→yR→yH→yN→yN→yH→yN→yN→yH→yN→yN→yN→yN→yH→yN→yH→yN→yH→yN→yH→yR→yM→yH→yN→yES→ySL→Prop) (vA1.W 0) (vA1.N 0) (vA1.VS 0) (vA1.IS 0) (vA1.N 1) (vA1.I 0) (vA1.N 2) (vA1.R 0) (vA1.LS 0) (vA1.mean 0) (vA1.M 0) (vA1.M 1) (vA1.N 3) (vA1.N 4) (vA1.cn 0) (vA1.cs 0) (vA1.N 5) (vA1.V 0) (vA1.cl 0) (vA1.outer 0) (vA1.A 0) (vA1.H 0) (vA1.H 1) (vA1.N 6) (vA1.M 2) (vA1.s 0) (vA1.Q 0) (vA1.Q 1) (vA1.H 2) (vA1.N 7) (vA1.H 3) (vA1.N 8) (vA1.O 0) (vA3.N 0) (vA3.H 0) (vA3.H 1) (vA3.N 1) (vA3.H 2) (vA3.N 2) (vA3.H 3) (vA3.N 3) (vA3.H 4) (vA3.N 4) (vA3.H 5) (vA3.H 6) (vA3.O 0) (vA3.R 0) (vA3.M 0) (vA3.H 7) (vA3.N 5) (vA3.D 0) (vA3.VS 0) (vA3.VS 1) (vA3.N 6) (vA3.N 7) (vA3.R 1) (vA5.N 0) (vA5.H 0) (vA5.VS 0) (vA5.N 1) (vA5.H 1) (vA5.N 2) (vA5.H 2) (vA7.N 0) (vA7.VS 0) (vA7.H 0) (vA7.H 1) (vA7.N 1) (vA7.H 2) (vA7.N 2) (vA7.VS 1) (vA7.H 3) (vA7.H 4) (vA7.N 3) (vA7.H 5) (vA7.H 6) (vA7.R 0) (vA7.M 0) (vA7.H 7) (vA7.N 4) (vA7.IS 0) (vA7.VS 2) (vA7.N 5) (vA7.N 6) (vA7.R 1) (vA9.N 0) (vA9.H 0) (vA9.N 1) (vA9.H 1) (vA9.SL 0) (vA9.AS 0) (vA9.R 0) (vA10.H 0) (vA10.N 0) (vA10.N 1) (vA10.N 2) (vA10.N 3) (vA10.R 0) (vA10.N 4) (vA10.N 5) (vA10.M 0) (vA10.H 1) (vA10.N 6) (vA10.N 7) (vA10.O 0) (vA10.SL 0) (vA12.H 0) (vA12.N 0) (vA12.N 1) (vA12.N 2) (vA12.N 3) (vA12.N 4) (vA12.N 5) (vA12.M 0) (vA12.H 1) (vA12.N 6) (vA12.N 7) (vA12.O 0) (vA12.SL 0) (vA14.H 0) (vA14.N 0) (vA14.N 1) (vA14.N 2) (vA14.N 3) (vA14.N 4) (vA14.N 5) (vA14.M 0) (vA14.H 1) (vA14.N 6) (vA14.N 7) (vA14.O 0) (vA14.SL 0) (vA14.N 8) (vA14.N 9) (vA14.N 10) (vA14.N 11) (vA14.N 12) (vA14.N 13) (vA14.N 14) (vA14.N 15) (vA14.N 16) (vA14.N 17) (vA14.N 18) (vA14.N 19) (vA14.I 0) (vA14.I 1) (vA14.I 2) (vA14.I 3) (vA14.I 4) (vA14.I 5) (vA14.R 0)), fun hPA16 hPA17 => ?main⟩
  case main =>
    intro hmN hiN hlN0 hlN hn0 hs0 hs1 qz23 qz25 qz27 qz28 hret B' X' T' l1 dC len run' wcl hW hV hovs hRl htl mE mV mW hc hb ha F11 hs hne3 pl hua hub huc a0 a1 b0 b1 c0 c1 ba1 ba2 bb1 bb2 bc1 bc2 N12 hZ3 hTa hTb hTc zP zC f1 f2 f3
    generalize vA1.W 0 = w, vA1.N 0 = aN, vA1.VS 0 = vN, vA1.IS 0 = ns, vA1.N 1 = nN, vA1.I 0 = sp, vA1.N 2 = ts, vA1.R 0 = news, vA1.LS 0 = qz1, vA1.mean 0 = qz2, vA1.M 0 = qz3, vA1.M 1 = qz4, vA1.N 3 = qz5, vA1.N 4 = qz6, vA1.cn 0 = qz7, vA1.cs 0 = qz8, vA1.N 5 = aA13, vA1.V 0 = qz10, vA1.cl 0 = qz11, vA1.outer 0 = qz12, vA1.A 0 = qz13, vA1.H 0 = qz14, vA1.H 1 = qz15, vA1.N 6 = qz16, vA1.M 2 = qz17, vA1.s 0 = qz18, vA1.Q 0 = qz19, vA1.Q 1 = qz20, vA1.H 2 = g', vA1.N 7 = L', vA1.H 3 = h', vA1.N 8 = tk', vA1.O 0 = oC0, vA3.N 0 = aR, vA3.H 0 = qz36, vA3.H 1 = qz37, vA3.N 1 = D1, vA3.H 2 = qz38, vA3.N 2 = D2, vA3.H 3 = qz39, vA3.N 3 = D3, vA3.H 4 = qz40, vA3.N 4 = aP, vA3.H 5 = qz41, vA3.H 6 = qz42, vA3.O 0 = oC, vA3.R 0 = rest0, vA3.M 0 = u, vA3.H 7 = h, vA3.N 5 = tk, vA3.D 0 = d, vA3.VS 0 = rvs, vA3.VS 1 = pvs, vA3.N 6 = nR, vA3.N 7 = nP, vA3.R 1 = rest, vA5.N 0 = qz46, vA5.H 0 = qz47, vA5.VS 0 = ys, vA5.N 1 = D9, vA5.H 1 = qz49, vA5.N 2 = tk9, vA5.H 2 = h9, vA7.N 0 = aW, vA7.VS 0 = wW, vA7.H 0 = qz63, vA7.H 1 = qz67, vA7.N 1 = qz68, vA7.H 2 = qz69, vA7.N 2 = aV, vA7.VS 1 = wV, vA7.H 3 = qz71, vA7.H 4 = qz73, vA7.N 3 = aO, vA7.H 5 = qz74, vA7.H 6 = qz75, vA7.R 0 = B, vA7.M 0 = u, vA7.H 7 = h, vA7.N 4 = tk, vA7.IS 0 = acc, vA7.VS 2 = ovs, vA7.N 5 = oa, vA7.N 6 = nO, vA7.R 1 = B2, vA9.N 0 = D9, vA9.H 0 = qz79, vA9.N 1 = tk9, vA9.H 1 = h9, vA9.SL 0 = sl, vA9.AS 0 = ts', vA9.R 0 = Z, vA10.H 0 = qz82, vA10.N 0 = qz83, vA10.N 1 = qz84, vA10.N 2 = qz85, vA10.N 3 = qz86, vA10.R 0 = B3, vA10.N 4 = c, vA10.N 5 = tc, vA10.M 0 = u, vA10.H 1 = h, vA10.N 6 = tk, vA10.N 7 = I, vA10.O 0 = oI, vA10.SL 0 = sl, vA12.H 0 = qz15, vA12.N 0 = qz100, vA12.N 1 = qz101, vA12.N 2 = qz102, vA12.N 3 = qz103, vA12.N 4 = b, vA12.N 5 = tb, vA12.M 0 = u, vA12.H 1 = h, vA12.N 6 = tk, vA12.N 7 = I2, vA12.O 0 = oI2, vA12.SL 0 = sl, vA14.H 0 = qz117, vA14.N 0 = qz118, vA14.N 1 = qz119, vA14.N 2 = qz120, vA14.N 3 = qz121, vA14.N 4 = a, vA14.N 5 = ta, vA14.M 0 = u, vA14.H 1 = h, vA14.N 6 = tk, vA14.N 7 = I3, vA14.O 0 = oI3, vA14.SL 0 = sl, vA14.N 8 = Ta, vA14.N 9 = na, vA14.N 10 = qa1, vA14.N 11 = qa2, vA14.N 12 = Tb, vA14.N 13 = nb, vA14.N 14 = qb1, vA14.N 15 = qb2, vA14.N 16 = Tc, vA14.N 17 = nc, vA14.N 18 = qc1, vA14.N 19 = qc2, vA14.I 0 = xa, vA14.I 1 = ya, vA14.I 2 = xb, vA14.I 3 = yb, vA14.I 4 = xc, vA14.I 5 = yc, vA14.R 0 = Z3 at *
    k_steps
    rotate_left
    ·
      have hno : triOK d a b c = false := by
        unfold triOK; rw [f1, f2, f3]; simp only [Bool.and_eq_false_iff, decide_eq_false_iff_not]
        (first | (right; assumption) | (left; right; assumption) | (left; left; assumption))
      exact TEnd.mk (by assumption) (by assumption) (chunk sl ++ (I2, oI2) :: (I, oI) :: B3) (by rw [hZ3]; exact fun p hp => hp) hne3 (by repeat (first | exact off_base | refine off_if rfl ?_)) ⟨sl, rfl, by rw [foldA_succ, stepA, if_neg (by rw [hno]; exact Bool.false_ne_true)]; exact hs⟩
    ·
      have hno : triOK d a b c = false := by
        unfold triOK; rw [f1, f2, f3]; simp only [Bool.and_eq_false_iff, decide_eq_false_iff_not]
        (first | (right; assumption) | (left; right; assumption) | (left; left; assumption))
      exact TEnd.mk (by assumption) (by assumption) (chunk sl ++ (I2, oI2) :: (I, oI) :: B3) (by rw [hZ3]; exact fun p hp => hp) hne3 (by repeat (first | exact off_base | refine off_if rfl ?_)) ⟨sl, rfl, by rw [foldA_succ, stepA, if_neg (by rw [hno]; exact Bool.false_ne_true)]; exact hs⟩
    ·
      have hno : triOK d a b c = false := by
        unfold triOK; rw [f1, f2, f3]; simp only [Bool.and_eq_false_iff, decide_eq_false_iff_not]
        (first | (right; assumption) | (left; right; assumption) | (left; left; assumption))
      exact TEnd.mk (by assumption) (by assumption) (chunk sl ++ (I2, oI2) :: (I, oI) :: B3) (by rw [hZ3]; exact fun p hp => hp) hne3 (by repeat (first | exact off_base | refine off_if rfl ?_)) ⟨sl, rfl, by rw [foldA_succ, stepA, if_neg (by rw [hno]; exact Bool.false_ne_true)]; exact hs⟩
    have hyes : triOK d a b c = true := by
      unfold triOK; rw [f1, f2, f3]; simp only [Bool.and_eq_true, decide_eq_true_eq]
      exact ⟨⟨by assumption, by assumption⟩, by assumption⟩
    (try clear f1)
    (try clear f2)
    (try clear f3)
    rename_i T1 _ lT1 T2 _ lT2 T3 _ lT3 aL _ F13 N13 lL
    (try clear N12)
    (try clear F11)
    rw [hZ3] at N13 lT1 lT2 lT3 lL
    obtain ⟨R4, hR4, N14, hs4⟩ := tri_setup N13 hs (fun p hp => Nat.ne_of_lt (all_of lL.2.2.2 p (.tail _ (List.mem_append_left _ hp)))) (fun p hp => Nat.ne_of_lt (all_of lT3.2.2 p (.tail _ (List.mem_append_left _ hp)))) (fun p hp => Nat.ne_of_lt (all_of lT2.2 p (.tail _ (List.mem_append_left _ hp)))) (fun p hp => Nat.ne_of_lt (lT1 p (.tail _ (List.mem_append_left _ hp)))) (fun p hp => hne3 p (List.mem_append_left _ hp))
    have mT3 := tri_m1 hR4
    have mT2 := tri_m2 hR4
    have mT1 := tri_m3 hR4
    have mL4 := tri_m0 hR4
    have R4B : ∀ p ∈ (I3, oI3) :: (I2, oI2) :: (I, oI) :: B3, p ∈ R4 := fun p hp => by rw [hR4]; exact .tail _ (.tail _ (.tail _ (.tail _ hp)))
    have I3off : ∀ p ∈ ((I2, oI2) :: (I, oI) :: B3 : List (Addr × Obj)), p.1 ≠ I3 := fun p hp => hne3 p (List.mem_append_right _ hp)
    (try clear N13)
    (try clear lT1)
    (try clear lT2)
    (try clear lT3)
    (try clear lL)
    refine halt_out ?_
    refine list_inv (vs := [Value.ref T1, Value.ref T2, Value.ref T3]) (st := [Str.ofString "one", Str.ofString "two", Str.ofString "three", Str.ofString "k"]) (TriJ w sp ns d ts' a b c R4) (by rfl) F13 N14 (List.mem_append_right _ mL4) rfl rfl ⟨triL a b c, _, sl, rfl, hs4, rfl, ⟨⟨T1, _, _, _, _, rfl, mT1⟩, ⟨T2, _, _, _, _, rfl, mT2⟩, ⟨T3, _, _, _, _, rfl, mT3⟩, trivial⟩, ?lt, fun e he => Nat.add_le_add (fold_bd (by lia) (by lia) (by lia) e he) (Nat.le_refl _)⟩ ?keep3 ?_ ?_
    case lt =>
      intro t ht
      simp only [triL, List.mem_cons, List.not_mem_nil, or_false] at ht
      rcases ht with rfl | rfl | rfl <;> (dsimp only; lia)
    case keep3 =>
      rintro r u nw ⟨trs, es, sl, rfl, _⟩
      exact List.mem_append_right _ mL4
    · rintro v r u nw h tk I4 oI4 ⟨trs, es, sl2, rfl, hs5, hf, htr, hlt, hbd⟩ hcl4 hne4 F15 N15
      (try clear F13)
      (try clear N14)
      cases trs with
      | nil => exact (show False from htr).elim
      | cons t trs =>
        obtain ⟨⟨T, nT, s1, s2, s3, rfl, mT⟩, htr2⟩ := htr
        obtain ⟨x, y, z⟩ := t
        have hx : x < d.m.ring.length := hlt _ (.head _)
        obtain ⟨⟨qt, qd, qo, qkvs, qn, q1, q2, q3, q4, qe⟩, R5, hq1, hq2, hok, htd, hin, hR, hoff5, hput⟩ := hs5.pick (i := x) (by rw [htl]; exact hx)
        dsimp only at hq1 hq2 htd hin hoff5 hput mT
        have dI4 : qd ≠ I4 := hne4 _ (hin _ (.tail _ (.head _)))
        have tI4 : qt ≠ I4 := hne4 _ (hin _ (.head _))
        have N16 : News _ _ _ ((qt, ({ cls := .type "list", data := .seq #[.int qe.cc q1, .int qe.nc q2, .int qe.tt q3, .int qe.ct q4, .ref qd] qn } : Obj)) :: (qd, qo) :: (I4, oI4) :: R5) := fun p hp => N15 p (by
          rcases List.mem_cons.mp hp with rfl | hp
          · exact .tail _ (hin _ (.head _))
          rcases List.mem_cons.mp hp with rfl | hp
          · exact .tail _ (hin _ (.tail _ (.head _)))
          rcases List.mem_cons.mp hp with rfl | hp
          · exact .head _
          · exact .tail _ (hin _ (.tail _ (.tail _ hp))))
        have offT5 : ∀ p ∈ R5, p.1 ≠ qt := fun p hp => (hoff5 p hp).1
        have offD5 : ∀ p ∈ R5, p.1 ≠ qd := fun p hp => (hoff5 p hp).2
        have I4t := tI4.symm
        have I4d := dI4.symm
        have htd' := htd.symm
        have m5 : ∀ p ∈ B3, p ∈ R5 := fun p hp => hR p (R4B p (.tail _ (.tail _ (.tail _ hp))))
        have m5E := m5 _ mE
        have m5W := m5 _ mW
        have m5V := m5 _ mV
        have m5T := hR _ mT
        have x0 : 0 ≤ 0 + (x : Int) := by lia
        have x1 : 0 + (x : Int) < 2 ^ 20 := by lia
        have xe : (ts'.map Value.ref)[(0 + (x : Int)).toNat]? = some (.ref qt) := by
          have : (0 + (x : Int)).toNat = x := by lia
          rw [this, List.getElem?_map, hq1]; rfl
        have hn3 : d.m.ring.length = 3 + ns.length := by rw [run', runD_m]; exact run_len sp ns
        obtain ⟨W, hWd⟩ : ∃ W, W = d.m.wc.map (·.1) := ⟨_, rfl⟩
        rw [← hWd] at hW
        have hWl : W.length = d.m.ring.length := by rw [hWd, List.length_map, wcl]
        obtain ⟨V, hVd⟩ : ∃ V, V = [1] ++ ns := ⟨_, rfl⟩
        rw [← hVd] at hV hf
        have hVl : V.length = 1 + ns.length := by rw [hVd, List.length_append]; rfl
        have odi := hok.di
        have ofl := hok.fl
        have olo := hok.lo
        dsimp only at odi ofl olo
        (try clear hR4)
        (try clear m5)
        (try clear R4B)
        (try clear N15)
        (try clear hne3)
        (try clear hne2)
        (try clear hne)
        (try clear hoff5)
        (try clear mT)
        (try clear mE)
        rename_i qz135 qz136 qz137 qz138 qz139 qz140 qz141 qz142 qz143 qz144 qz145 qz146 qz147 qz148 qz149 qz150 qz151
        revert hmN hiN hlN0 hlN hn0 hs0 hs1 qz23 qz25 qz27 qz28 hret B' X' T' l1 wcl hRl htl hc hb ha pl a0 a1 b0 b1 c0 c1 hne4 F15 htr2 hlt hbd hq2 hok htd hin hput dI4 tI4 N16 offT5 offD5 I4t I4d htd' m5E m5W m5V m5T x0 x1 xe hn3 hW hWd hWl hf hV hVd hVl odi ofl olo
        exact hPA16 qz135 qz136 qz137 qz138 qz139 qz140 qz142 qz143 qz144 qz147 T1 qz148 T2 qz149 T3 qz150 aL qz151 R4 r u h tk I4 oI4 es sl2 trs T nT s1 s2 s3 x y z qt qd qo qkvs qn q1 q2 q3 q4 qe R5 W V
    · rintro u nw h tk ⟨trs, es, sl2, rfl, hs5, hf, htr, hlt, hbd⟩ F15 N15
      (try clear F13)
      (try clear N14)
      cases trs with
      | cons t trs => exact (show False from htr).elim
      | nil =>
        rename_i qz152 qz153 qz154 qz155 qz156 qz157 qz158 qz159 qz160 qz161 qz162 qz163 qz164 qz165 qz166 qz167 qz168
        revert hmN hiN hlN0 hlN hn0 hs0 hs1 qz23 qz25 qz27 qz28 hret B' X' T' l1 hyes R4B I3off hs5 F15 N15 hf
        exact hPA17 qz152 qz153 qz154 qz155 qz156 qz157 qz159 qz160 qz161 qz164 T1 qz165 T2 qz166 T3 qz167 aL qz168 R4 u h tk es sl2
noncomputable def pA16 (v : Vars) : Prop := ktA14.1.1 (v.H 0) (v.N 0) (v.N 1) (v.H 1) (v.N 2) (v.N 3) (v.H 2) (v.N 4) (v.N 5) (v.N 6) (v.N 7) (v.H 3) (v.N 8) (v.H 4) (v.N 9) (v.H 5) (v.N 10) (v.H 6) (v.R 0) (v.VS 0) (v.M 0) (v.H 7) (v.N 11) (v.N 12) (v.O 0) (v.ES 0) (v.SL 0) (v.T3 0) (v.N 13) (v.N 14) (v.N 15) (v.N 16) (v.N 17) (v.N 18) (v.N 19) (v.N 20) (v.N 21) (v.N 22) (v.O 1) (v.KV 0) (v.N 23) (v.N 24) (v.N 25) (v.N 26) (v.N 27) (v.E 0) (v.R 1) (v.IS 0) (v.IS 1)
@[irreducible] noncomputable def vA16 : Vars := hk pA16
noncomputable def ktA16 : {P : (yH→yH→yH→yH→yN→yH→yH→yN→yH→yN→yN→yN→yH→yN→yH→yVS→yM→yH→yN→yN→yO→yKI→yO→yKV→yI→yN→yIS→Prop) × (yH→yH→yH→yH→yN→yH→yH→yN→yH→yN→yN→yN→yH→yN→yH→yM→yH→yN→yKI→yO→yKV→Prop) // (∀ x1 x2 x3 x4 x5 x6 x7 x8 x9 x10 x11 x12 x13 x14 x15 x16 x17 x18 x19 x20 x21 x22 x23 x24 x25 x26 x27, P.1 x1 x2 x3 x4 x5 x6 x7 x8 x9 x10 x11 x12 x13 x14 x15 x16 x17 x18 x19 x20 x21 x22 x23 x24 x25 x26 x27) → (∀ x1 x2 x3 x4 x5 x6 x7 x8 x9 x10 x11 x12 x13 x14 x15 x16 x17 x18 x19 x20 x21, P.2 x1 x2 x3 x4 x5 x6 x7 x8 x9 x10 x11 x12 x13 x14 x15 x16 x17 x18 x19 x20 x21) → pA16 vA16} := by
  refine' ⟨((_ : yW→yN→yVS→yIS→yN→yI→yN→yR→yLS→ymean→yM→yM→yN→yN→ycn→ycs→yN→yV→ycl→youter→yA→yH→yH→yN→yM→ys→yQ→yQ→yH→yN→yH→yN→yO→yN→yH→yH→yN→yH→yN→yH→yN→yH→yN→yH→yH→yO→yR→yM→yH→yN→yD→yVS→yVS→yN→yN→yR→yN→yH→yVS→yN→yH→yN→yH→yN→yVS→yH→yH→yN→yH→yN→yVS→yH→yH→yN→yH→yH→yR→yM→yH→yN→yIS→yVS→yN→yN→yR→yN→yH→yN→yH→ySL→yAS→yR→yH→yN→yN→yN→yN→yR→yN→yN→yM→yH→yN→yN→yO→ySL→yH→yN→yN→yN→yN→yN→yN→yM→yH→yN→yN→yO→ySL→yH→yN→yN→yN→yN→yN→yN→yM→yH→yN→yN→yO→ySL→yN→yN→yN→yN→yN→yN→yN→yN→yN→yN→yN→yN→yI→yI→yI→yI→yI→yI→yR→yH→yN→yN→yH→yN→yN→yH→yN→yN→yN→yN→yH→yN→yH→yN→yH→yN→yH→yR→yVS→yM→yH→yN→yN→yO→yES→ySL→yT3→yN→yN→yN→yN→yN→yN→yN→yN→yN→yN→yO→yKV→yN→yN→yN→yN→yN→yE→yR→yIS→yIS→yH→yH→yH→yH→yN→yH→yH→yN→yH→yN→yN→yN→yH→yN→yH→yVS→yM→yH→yN→yN→yO→yKI→yO→yKV→yI→yN→yIS→Prop) (vA1.W 0) (vA1.N 0) (vA1.VS 0) (vA1.IS 0) (vA1.N 1) (vA1.I 0) (vA1.N 2) (vA1.R 0) (vA1.LS 0) (vA1.mean 0) (vA1.M 0) (vA1.M 1) (vA1.N 3) (vA1.N 4) (vA1.cn 0) (vA1.cs 0) (vA1.N 5) (vA1.V 0) (vA1.cl 0) (vA1.outer 0) (vA1.A 0) (vA1.H 0) (vA1.H 1) (vA1.N 6) (vA1.M 2) (vA1.s 0) (vA1.Q 0) (vA1.Q 1) (vA1.H 2) (vA1.N 7) (vA1.H 3) (vA1.N 8) (vA1.O 0) (vA3.N 0) (vA3.H 0) (vA3.H 1) (vA3.N 1) (vA3.H 2) (vA3.N 2) (vA3.H 3) (vA3.N 3) (vA3.H 4) (vA3.N 4) (vA3.H 5) (vA3.H 6) (vA3.O 0) (vA3.R 0) (vA3.M 0) (vA3.H 7) (vA3.N 5) (vA3.D 0) (vA3.VS 0) (vA3.VS 1) (vA3.N 6) (vA3.N 7) (vA3.R 1) (vA5.N 0) (vA5.H 0) (vA5.VS 0) (vA5.N 1) (vA5.H 1) (vA5.N 2) (vA5.H 2) (vA7.N 0) (vA7.VS 0) (vA7.H 0) (vA7.H 1) (vA7.N 1) (vA7.H 2) (vA7.N 2) (vA7.VS 1) (vA7.H 3) (vA7.H 4) (vA7.N 3) (vA7.H 5) (vA7.H 6) (vA7.R 0) (vA7.M 0) (vA7.H 7) (vA7.N 4) (vA7.IS 0) (vA7.VS 2) (vA7.N 5) (vA7.N 6) (vA7.R 1) (vA9.N 0) (vA9.H 0) (vA9.N 1) (vA9.H 1) (vA9.SL 0) (vA9.AS 0) (vA9.R 0) (vA10.H 0) (vA10.N 0) (vA10.N 1) (vA10.N 2) (vA10.N 3) (vA10.R 0) (vA10.N 4) (vA10.N 5) (vA10.M 0) (vA10.H 1) (vA10.N 6) (vA10.N 7) (vA10.O 0) (vA10.SL 0) (vA12.H 0) (vA12.N 0) (vA12.N 1) (vA12.N 2) (vA12.N 3) (vA12.N 4) (vA12.N 5) (vA12.M 0) (vA12.H 1) (vA12.N 6) (vA12.N 7) (vA12.O 0) (vA12.SL 0) (vA14.H 0) (vA14.N 0) (vA14.N 1) (vA14.N 2) (vA14.N 3) (vA14.N 4) (vA14.N 5) (vA14.M 0) (vA14.H 1) (vA14.N 6) (vA14.N 7) (vA14.O 0) (vA14.SL 0) (vA14.N 8) (vA14.N 9) (vA14.N 10) (vA14.N 11) (vA14.N 12) (vA14.N 13) (vA14.N 14) (vA14.N 15) (vA14.N 16) (vA14.N 17) (vA14.N 18) (vA14.N 19) (vA14.I 0) (vA14.I 1) (vA14.I 2) (vA14.I 3) (vA14.I 4) (vA14.I 5) (vA14.R 0) (vA16.H 0) (vA16.N 0) (vA16.N 1) (vA16.H 1) (vA16.N 2) (vA16.N 3) (vA16.H 2) (vA16.N 4) (vA16.N 5) (vA16.N 6) (vA16.N 7) (vA16.H 3) (vA16.N 8) (vA16.H 4) (vA16.N 9) (vA16.H 5) (vA16.N 10) (vA16.H 6) (vA16.R 0) (vA16.VS 0) (vA16.M 0) (vA16.H 7) (vA16.N 11) (vA16.N 12) (vA16.O 0) (vA16.ES 0) (vA16.SL 0) (vA16.T3 0) (vA16.N 13) (vA16.N 14) (vA16.N 15) (vA16.N 16) (vA16.N 17) (vA16.N 18) (vA16.N 19) (vA16.N 20) (vA16.N 21) (vA16.N 22) (vA16.O 1) (vA16.KV 0) (vA16.N 23) (vA16.N 24) (vA16.N 25) (vA16.N 26) (vA16.N 27) (vA16.E 0) (vA16.R 1) (vA16.IS 0) (vA16.IS 1), (_ : yW→yN→yVS→yIS→yN→yI→yN→yR→yLS→ymean→yM→yM→yN→yN→ycn→ycs→yN→yV→ycl→youter→yA→yH→yH→yN→yM→ys→yQ→yQ→yH→yN→yH→yN→yO→yN→yH→yH→yN→yH→yN→yH→yN→yH→yN→yH→yH→yO→yR→yM→yH→yN→yD→yVS→yVS→yN→yN→yR→yN→yH→yVS→yN→yH→yN→yH→yN→yVS→yH→yH→yN→yH→yN→yVS→yH→yH→yN→yH→yH→yR→yM→yH→yN→yIS→yVS→yN→yN→yR→yN→yH→yN→yH→ySL→yAS→yR→yH→yN→yN→yN→yN→yR→yN→yN→yM→yH→yN→yN→yO→ySL→yH→yN→yN→yN→yN→yN→yN→yM→yH→yN→yN→yO→ySL→yH→yN→yN→yN→yN→yN→yN→yM→yH→yN→yN→yO→ySL→yN→yN→yN→yN→yN→yN→yN→yN→yN→yN→yN→yN→yI→yI→yI→yI→yI→yI→yR→yH→yN→yN→yH→yN→yN→yH→yN→yN→yN→yN→yH→yN→yH→yN→yH→yN→yH→yR→yVS→yM→yH→yN→yN→yO→yES→ySL→yT3→yN→yN→yN→yN→yN→yN→yN→yN→yN→yN→yO→yKV→yN→yN→yN→yN→yN→yE→yR→yIS→yIS→yH→yH→yH→yH→yN→yH→yH→yN→yH→yN→yN→yN→yH→yN→yH→yM→yH→yN→yKI→yO→yKV→Prop) (vA1.W 0) (vA1.N 0) (vA1.VS 0) (vA1.IS 0) (vA1.N 1) (vA1.I 0) (vA1.N 2) (vA1.R 0) (vA1.LS 0) (vA1.mean 0) (vA1.M 0) (vA1.M 1) (vA1.N 3) (vA1.N 4) (vA1.cn 0) (vA1.cs 0) (vA1.N 5) (vA1.V 0) (vA1.cl 0) (vA1.outer 0) (vA1.A 0) (vA1.H 0) (vA1.H 1) (vA1.N 6) (vA1.M 2) (vA1.s 0) (vA1.Q 0) (vA1.Q 1) (vA1.H 2) (vA1.N 7) (vA1.H 3) (vA1.N 8) (vA1.O 0) (vA3.N 0) (vA3.H 0) (vA3.H 1) (vA3.N 1) (vA3.H 2) (vA3.N 2) (vA3.H 3) (vA3.N 3) (vA3.H 4) (vA3.N 4) (vA3.H 5) (vA3.H 6) (vA3.O 0) (vA3.R 0) (vA3.M 0) (vA3.H 7) (vA3.N 5) (vA3.D 0) (vA3.VS 0) (vA3.VS 1) (vA3.N 6) (vA3.N 7) (vA3.R 1) (vA5.N 0) (vA5.H 0) (vA5.VS 0) (vA5.N 1) (vA5.H 1) (vA5.N 2) (vA5.H 2) (vA7.N 0) (vA7.VS 0) (vA7.H 0) (vA7.H 1) (vA7.N 1) (vA7.H 2) (vA7.N 2) (vA7.VS 1) (vA7.H 3) (vA7.H 4) (vA7.N 3) (vA7.H 5) (vA7.H 6) (vA7.R 0) (vA7.M 0) (vA7.H 7) (vA7.N 4) (vA7.IS 0) (vA7.VS 2) (vA7.N 5) (vA7.N 6) (vA7.R 1) (vA9.N 0) (vA9.H 0) (vA9.N 1) (vA9.H 1) (vA9.SL 0) (vA9.AS 0) (vA9.R 0) (vA10.H 0) (vA10.N 0) (vA10.N 1) (vA10.N 2) (vA10.N 3) (vA10.R 0) (vA10.N 4) (vA10.N 5) (vA10.M 0) (vA10.H 1) (vA10.N 6) (vA10.N 7) (vA10.O 0) (vA10.SL 0) (vA12.H 0) (vA12.N 0) (vA12.N 1) (vA12.N 2) (vA12.N 3) (vA12.N 4) (vA12.N 5) (vA12.M 0) (vA12.H 1) (vA12.N 6) (vA12.N 7) (vA12.O 0) (vA12.SL 0) (vA14.H 0) (vA14.N 0) (vA14.N 1) (vA14.N 2) (vA14.N 3) (vA14.N 4) (vA14.N 5) (vA14.M 0) (vA14.H 1) (vA14.N 6) (vA14.N 7) (vA14.O 0) (vA14.SL 0) (vA14.N 8) (vA14.N 9) (vA14.N 10) (vA14.N 11) (vA14.N 12) (vA14.N 13) (vA14.N 14) (vA14.N 15) (vA14.N 16) (vA14.N 17) (vA14.N 18) (vA14.N 19) (vA14.I 0) (vA14.I 1) (vA14.I 2) (vA14.I 3) (vA14.I 4) (vA14.I 5) (vA14.R 0) (vA16.H 0) (vA16.N 0) (vA16.N 1) (vA16.H 1) (vA16.N 2) (vA16.N 3) (vA16.H 2) (vA16.N 4) (vA16.N 5) (vA16.N 6) (vA16.N 7) (vA16.H 3) (vA16.N 8) (vA16.H 4) (vA16.N 9) (vA16.H 5) (vA16.N 10) (vA16.H 6) (vA16.R 0) (vA16.VS 0) (vA16.M 0) (vA16.H 7) (vA16.N 11) (vA16.N 12) (vA16.O 0) (vA16.ES 0) (vA16.SL 0) (vA16.T3 0) (vA16.N 13) (vA16.N 14) (vA16.N 15) (vA16.N 16) (vA16.N 17) (vA16.N 18) (vA16.N 19) (vA16.N 20) (vA16.N 21) (vA16.N 22) (vA16.O 1) (vA16.KV 0) (vA16.N 23) (vA16.N 24) (vA16.N 25) (vA16.N 26) (vA16.N 27) (vA16.E 0) (vA16.R 1) (vA16.IS 0) (vA16.IS 1)), fun hPA18 hPA19 => ?main⟩
  case main =>
    intro hmN hiN hlN0 hlN hn0 hs0 hs1 qz23 qz25 qz27 qz28 hret B' X' T' l1 wcl hRl htl hc hb ha pl a0 a1 b0 b1 c0 c1 hne4 F15 htr2 hlt hbd hq2 hok htd hin hput dI4 tI4 N16 offT5 offD5 I4t I4d htd' m5E m5W m5V m5T x0 x1 xe hn3 hW hWd hWl hf hV hVd hVl odi ofl olo
    generalize vA1.W 0 = w, vA1.N 0 = aN, vA1.VS 0 = vN, vA1.IS 0 = ns, vA1.N 1 = nN, vA1.I 0 = sp, vA1.N 2 = ts, vA1.R 0 = news, vA1.LS 0 = qz1, vA1.mean 0 = qz2, vA1.M 0 = qz3, vA1.M 1 = qz4, vA1.N 3 = qz5, vA1.N 4 = qz6, vA1.cn 0 = qz7, vA1.cs 0 = qz8, vA1.N 5 = aA13, vA1.V 0 = qz10, vA1.cl 0 = qz11, vA1.outer 0 = qz12, vA1.A 0 = qz13, vA1.H 0 = qz14, vA1.H 1 = qz15, vA1.N 6 = qz16, vA1.M 2 = qz17, vA1.s 0 = qz18, vA1.Q 0 = qz19, vA1.Q 1 = qz20, vA1.H 2 = g', vA1.N 7 = L', vA1.H 3 = h', vA1.N 8 = tk', vA1.O 0 = oC0, vA3.N 0 = aR, vA3.H 0 = qz36, vA3.H 1 = qz37, vA3.N 1 = D1, vA3.H 2 = qz38, vA3.N 2 = D2, vA3.H 3 = qz39, vA3.N 3 = D3, vA3.H 4 = qz40, vA3.N 4 = aP, vA3.H 5 = qz41, vA3.H 6 = qz42, vA3.O 0 = oC, vA3.R 0 = rest0, vA3.M 0 = u, vA3.H 7 = h, vA3.N 5 = tk, vA3.D 0 = d, vA3.VS 0 = rvs, vA3.VS 1 = pvs, vA3.N 6 = nR, vA3.N 7 = nP, vA3.R 1 = rest, vA5.N 0 = qz46, vA5.H 0 = qz47, vA5.VS 0 = ys, vA5.N 1 = D9, vA5.H 1 = qz49, vA5.N 2 = tk9, vA5.H 2 = h9, vA7.N 0 = aW, vA7.VS 0 = wW, vA7.H 0 = qz63, vA7.H 1 = qz67, vA7.N 1 = qz68, vA7.H 2 = qz69, vA7.N 2 = aV, vA7.VS 1 = wV, vA7.H 3 = qz71, vA7.H 4 = qz73, vA7.N 3 = aO, vA7.H 5 = qz74, vA7.H 6 = qz75, vA7.R 0 = B, vA7.M 0 = u, vA7.H 7 = h, vA7.N 4 = tk, vA7.IS 0 = acc, vA7.VS 2 = ovs, vA7.N 5 = oa, vA7.N 6 = nO, vA7.R 1 = B2, vA9.N 0 = D9, vA9.H 0 = qz79, vA9.N 1 = tk9, vA9.H 1 = h9, vA9.SL 0 = sl, vA9.AS 0 = ts', vA9.R 0 = Z, vA10.H 0 = qz82, vA10.N 0 = qz83, vA10.N 1 = qz84, vA10.N 2 = qz85, vA10.N 3 = qz86, vA10.R 0 = B3, vA10.N 4 = c, vA10.N 5 = tc, vA10.M 0 = u, vA10.H 1 = h, vA10.N 6 = tk, vA10.N 7 = I, vA10.O 0 = oI, vA10.SL 0 = sl, vA12.H 0 = qz15, vA12.N 0 = qz100, vA12.N 1 = qz101, vA12.N 2 = qz102, vA12.N 3 = qz103, vA12.N 4 = b, vA12.N 5 = tb, vA12.M 0 = u, vA12.H 1 = h, vA12.N 6 = tk, vA12.N 7 = I2, vA12.O 0 = oI2, vA12.SL 0 = sl, vA14.H 0 = qz117, vA14.N 0 = qz118, vA14.N 1 = qz119, vA14.N 2 = qz120, vA14.N 3 = qz121, vA14.N 4 = a, vA14.N 5 = ta, vA14.M 0 = u, vA14.H 1 = h, vA14.N 6 = tk, vA14.N 7 = I3, vA14.O 0 = oI3, vA14.SL 0 = sl, vA14.N 8 = Ta, vA14.N 9 = na, vA14.N 10 = qa1, vA14.N 11 = qa2, vA14.N 12 = Tb, vA14.N 13 = nb, vA14.N 14 = qb1, vA14.N 15 = qb2, vA14.N 16 = Tc, vA14.N 17 = nc, vA14.N 18 = qc1, vA14.N 19 = qc2, vA14.I 0 = xa, vA14.I 1 = ya, vA14.I 2 = xb, vA14.I 3 = yb, vA14.I 4 = xc, vA14.I 5 = yc, vA14.R 0 = Z3, vA16.H 0 = qz135, vA16.N 0 = qz136, vA16.N 1 = qz137, vA16.H 1 = qz138, vA16.N 2 = qz139, vA16.N 3 = qz140, vA16.H 2 = qz142, vA16.N 4 = qz143, vA16.N 5 = qz144, vA16.N 6 = qz147, vA16.N 7 = T1, vA16.H 3 = qz148, vA16.N 8 = T2, vA16.H 4 = qz149, vA16.N 9 = T3, vA16.H 5 = qz150, vA16.N 10 = aL, vA16.H 6 = qz151, vA16.R 0 = R4, vA16.VS 0 = r, vA16.M 0 = u, vA16.H 7 = h, vA16.N 11 = tk, vA16.N 12 = I4, vA16.O 0 = oI4, vA16.ES 0 = es, vA16.SL 0 = sl2, vA16.T3 0 = trs, vA16.N 13 = T, vA16.N 14 = nT, vA16.N 15 = s1, vA16.N 16 = s2, vA16.N 17 = s3, vA16.N 18 = x, vA16.N 19 = y, vA16.N 20 = z, vA16.N 21 = qt, vA16.N 22 = qd, vA16.O 1 = qo, vA16.KV 0 = qkvs, vA16.N 23 = qn, vA16.N 24 = q1, vA16.N 25 = q2, vA16.N 26 = q3, vA16.N 27 = q4, vA16.E 0 = qe, vA16.R 1 = R5, vA16.IS 0 = W, vA16.IS 1 = V at *
    k_steps
    rename_i aK _ F16 N17 lK
    refine halt_out ?_
    have nd0 := hok.nd
    dsimp only at nd0
    have bd0 : qe.c.length + 2 ≤ 20000 := by
      have q := hbd _ (List.mem_of_getElem? hq2)
      lia
    refine list_inv (vs := [Value.int (0 + (y : Int)) s2, Value.int (0 + (z : Int)) s3]) (st := [Str.ofString "k"]) (KeyJ w qe y z aK qt qd I4 oI4 R5 _ _) (by rfl) F16 N17 (.head _) rfl rfl ⟨[0 + (y : Int), 0 + (z : Int)], qe.c, qo, qkvs, .cons _ _ (.cons _ _ .nil), by rw [Int.zero_add, Int.zero_add]; rfl, rfl, odi, ofl, nd0, bd0⟩ ?keep4 ?_ ?_
    case keep4 =>
      rintro r u nw ⟨ks, cc, o, kvs, _, _, rfl, _⟩
      exact .head _
    · intro v r u nw h tk I5 oI5 hJ913 hcl5 hne5 F17 N18
      refine hideG fun nG => ?_
      obtain ⟨ks, cc, o, kvs, hks, hfk, rfl, odi2, ofl2, nd2, bd2⟩ := hJ913
      obtain ⟨k, tkk, ks2, rfl, rfl, hks2⟩ := ints_cons hks
      (try clear F16)
      (try clear N17)
      have tI5 : qt ≠ I5 := hne5 _ (.tail _ (.head _))
      have dI5 : qd ≠ I5 := hne5 _ (.tail _ (.tail _ (.head _)))
      have I5t := tI5.symm
      have I5d := dI5.symm
      refine nG ?_
      (try clear nG)
      rename_i qz169 qz170 qz171 qz172 qz173 qz174 qz175 qz176 qz177 qz178 qz179 qz180 qz181 qz182 qz183 qz184
      revert hmN hiN hlN0 hlN hn0 hs0 hs1 qz23 qz25 qz27 qz28 hret B' X' T' l1 htd offD5 I4d m5E x0 x1 xe olo lK F17 odi2 ofl2 nd2 hne5 N18 hks2 hfk bd2 tI5 dI5 I5d
      exact hPA18 qz169 qz172 qz173 qz174 qz175 qz176 qz177 qz178 qz179 qz180 qz181 qz182 qz183 aK qz184 r u h tk I5 oI5 cc o kvs k tkk ks2
    · intro u nw h tk hJ914 F17 N18
      refine hideG fun nG => ?_
      obtain ⟨ks, cc, o, kvs, hks, hfk, rfl, odi2, ofl2, nd2, bd2⟩ := hJ914
      cases hks
      have hfk' : cc = addTo qe.c [((y : Int), 1), ((z : Int), 1)] := hfk
      (try clear F16)
      (try clear N17)
      refine nG ?_
      (try clear nG)
      rename_i qz185 qz186 qz187 qz188 qz189 qz190 qz191 qz192 qz193 qz194 qz195 qz196 qz197 qz198 qz199 qz200
      revert hmN hiN hlN0 hlN hn0 hs0 hs1 qz23 qz25 qz27 qz28 hret B' X' T' l1 hb ha hne4 htr2 hlt hbd hq2 hin hput dI4 tI4 hWd hf hVd olo F17 odi2 ofl2 nd2 N18 hfk'
      exact hPA19 qz185 qz188 qz189 qz190 qz191 qz192 qz193 qz194 qz195 qz196 qz197 qz198 qz199 aK qz200 u h tk cc o kvs
noncomputable def pA18 (v : Vars) : Prop := ktA16.1.1 (v.H 0) (v.H 1) (v.H 2) (v.H 3) (v.N 0) (v.H 4) (v.H 5) (v.N 1) (v.H 6) (v.N 2) (v.N 3) (v.N 4) (v.H 7) (v.N 5) (v.H 8) (v.VS 0) (v.M 0) (v.H 9) (v.N 6) (v.N 7) (v.O 0) (v.KI 0) (v.O 1) (v.KV 0) (v.I 0) (v.N 8) (v.IS 0)
@[irreducible] noncomputable def vA18 : Vars := hk pA18
theorem tA18 : pA18 vA18 := by
  intro hmN hiN hlN0 hlN hn0 hs0 hs1 qz23 qz25 qz27 qz28 hret B' X' T' l1 htd offD5 I4d m5E x0 x1 xe olo lK F17 odi2 ofl2 nd2 hne5 N18 hks2 hfk bd2 tI5 dI5 I5d
  generalize vA1.W 0 = w, vA1.N 0 = aN, vA1.VS 0 = vN, vA1.IS 0 = ns, vA1.N 1 = nN, vA1.I 0 = sp, vA1.N 2 = ts, vA1.R 0 = news, vA1.LS 0 = qz1, vA1.mean 0 = qz2, vA1.M 0 = qz3, vA1.M 1 = qz4, vA1.N 3 = qz5, vA1.N 4 = qz6, vA1.cn 0 = qz7, vA1.cs 0 = qz8, vA1.N 5 = aA13, vA1.V 0 = qz10, vA1.cl 0 = qz11, vA1.outer 0 = qz12, vA1.A 0 = qz13, vA1.H 0 = qz14, vA1.H 1 = qz15, vA1.N 6 = qz16, vA1.M 2 = qz17, vA1.s 0 = qz18, vA1.Q 0 = qz19, vA1.Q 1 = qz20, vA1.H 2 = g', vA1.N 7 = L', vA1.H 3 = h', vA1.N 8 = tk', vA1.O 0 = oC0, vA3.N 0 = aR, vA3.H 0 = qz36, vA3.H 1 = qz37, vA3.N 1 = D1, vA3.H 2 = qz38, vA3.N 2 = D2, vA3.H 3 = qz39, vA3.N 3 = D3, vA3.H 4 = qz40, vA3.N 4 = aP, vA3.H 5 = qz41, vA3.H 6 = qz42, vA3.O 0 = oC, vA3.R 0 = rest0, vA3.M 0 = u, vA3.H 7 = h, vA3.N 5 = tk, vA3.D 0 = d, vA3.VS 0 = rvs, vA3.VS 1 = pvs, vA3.N 6 = nR, vA3.N 7 = nP, vA3.R 1 = rest, vA5.N 0 = qz46, vA5.H 0 = qz47, vA5.VS 0 = ys, vA5.N 1 = D9, vA5.H 1 = qz49, vA5.N 2 = tk9, vA5.H 2 = h9, vA7.N 0 = aW, vA7.VS 0 = wW, vA7.H 0 = qz63, vA7.H 1 = qz67, vA7.N 1 = qz68, vA7.H 2 = qz69, vA7.N 2 = aV, vA7.VS 1 = wV, vA7.H 3 = qz71, vA7.H 4 = qz73, vA7.N 3 = aO, vA7.H 5 = qz74, vA7.H 6 = qz75, vA7.R 0 = B, vA7.M 0 = u, vA7.H 7 = h, vA7.N 4 = tk, vA7.IS 0 = acc, vA7.VS 2 = ovs, vA7.N 5 = oa, vA7.N 6 = nO, vA7.R 1 = B2, vA9.N 0 = D9, vA9.H 0 = qz79, vA9.N 1 = tk9, vA9.H 1 = h9, vA9.SL 0 = sl, vA9.AS 0 = ts', vA9.R 0 = Z, vA10.H 0 = qz82, vA10.N 0 = qz83, vA10.N 1 = qz84, vA10.N 2 = qz85, vA10.N 3 = qz86, vA10.R 0 = B3, vA10.N 4 = c, vA10.N 5 = tc, vA10.M 0 = u, vA10.H 1 = h, vA10.N 6 = tk, vA10.N 7 = I, vA10.O 0 = oI, vA10.SL 0 = sl, vA12.H 0 = qz15, vA12.N 0 = qz100, vA12.N 1 = qz101, vA12.N 2 = qz102, vA12.N 3 = qz103, vA12.N 4 = b, vA12.N 5 = tb, vA12.M 0 = u, vA12.H 1 = h, vA12.N 6 = tk, vA12.N 7 = I2, vA12.O 0 = oI2, vA12.SL 0 = sl, vA14.H 0 = qz117, vA14.N 0 = qz118, vA14.N 1 = qz119, vA14.N 2 = qz120, vA14.N 3 = qz121, vA14.N 4 = a, vA14.N 5 = ta, vA14.M 0 = u, vA14.H 1 = h, vA14.N 6 = tk, vA14.N 7 = I3, vA14.O 0 = oI3, vA14.SL 0 = sl, vA14.N 8 = Ta, vA14.N 9 = na, vA14.N 10 = qa1, vA14.N 11 = qa2, vA14.N 12 = Tb, vA14.N 13 = nb, vA14.N 14 = qb1, vA14.N 15 = qb2, vA14.N 16 = Tc, vA14.N 17 = nc, vA14.N 18 = qc1, vA14.N 19 = qc2, vA14.I 0 = xa, vA14.I 1 = ya, vA14.I 2 = xb, vA14.I 3 = yb, vA14.I 4 = xc, vA14.I 5 = yc, vA14.R 0 = Z3, vA16.H 0 = qz135, vA16.N 0 = qz136, vA16.N 1 = qz137, vA16.H 1 = qz138, vA16.N 2 = qz139, vA16.N 3 = qz140, vA16.H 2 = qz142, vA16.N 4 = qz143, vA16.N 5 = qz144, vA16.N 6 = qz147, vA16.N 7 = T1, vA16.H 3 = qz148, vA16.N 8 = T2, vA16.H 4 = qz149, vA16.N 9 = T3, vA16.H 5 = qz150, vA16.N 10 = aL, vA16.H 6 = qz151, vA16.R 0 = R4, vA16.VS 0 = r, vA16.M 0 = u, vA16.H 7 = h, vA16.N 11 = tk, vA16.N 12 = I4, vA16.O 0 = oI4, vA16.ES 0 = es, vA16.SL 0 = sl2, vA16.T3 0 = trs, vA16.N 13 = T, vA16.N 14 = nT, vA16.N 15 = s1, vA16.N 16 = s2, vA16.N 17 = s3, vA16.N 18 = x, vA16.N 19 = y, vA16.N 20 = z, vA16.N 21 = qt, vA16.N 22 = qd, vA16.O 1 = qo, vA16.KV 0 = qkvs, vA16.N 23 = qn, vA16.N 24 = q1, vA16.N 25 = q2, vA16.N 26 = q3, vA16.N 27 = q4, vA16.E 0 = qe, vA16.R 1 = R5, vA16.IS 0 = W, vA16.IS 1 = V, vA18.H 0 = qz169, vA18.H 1 = qz172, vA18.H 2 = qz173, vA18.H 3 = qz174, vA18.N 0 = qz175, vA18.H 4 = qz176, vA18.H 5 = qz177, vA18.N 1 = qz178, vA18.H 6 = qz179, vA18.N 2 = qz180, vA18.N 3 = qz181, vA18.N 4 = qz182, vA18.H 7 = qz183, vA18.N 5 = aK, vA18.H 8 = qz184, vA18.VS 0 = r, vA18.M 0 = u, vA18.H 9 = h, vA18.N 6 = tk, vA18.N 7 = I5, vA18.O 0 = oI5, vA18.KI 0 = cc, vA18.O 1 = o, vA18.KV 0 = kvs, vA18.I 0 = k, vA18.N 8 = tkk, vA18.IS 0 = ks2 at *
  k_steps
  rename_i vg hvg
  rw [kdfD_getD] at hvg
  obtain ⟨tg, rfl⟩ := PyProof.V.Flat.int_inv hvg
  (try clear hvg)
  have hcl : cc.length ≤ 16777216 := by lia
  k_steps
  have bd3 := kdfPut_len cc k (kdfLook cc k 0 + 1)
  exact TEnd.mk (by assumption) (by assumption) _ (fun p hp => hp) (off_cons (hne5 _ (.head _)) (off_cons tI5 (off_cons dI5 fun p hp => hne5 p (.tail _ (.tail _ (.tail _ hp)))))) (by repeat (first | exact off_base | refine off_if rfl ?_))
    ⟨ks2, _, _, _, hks2, hfk, rfl, by assumption, by assumption, kdfPut_nodup _ _ nd2, by rw [List.length_cons] at bd2; exact Nat.le_trans (Nat.add_le_add_right bd3 _) (by lia)⟩
theorem aA18 : ∀ v, pA18 v := hkv tA18 (by unfold vA18; rfl)
noncomputable def pA19 (v : Vars) : Prop := ktA16.1.2 (v.H 0) (v.H 1) (v.H 2) (v.H 3) (v.N 0) (v.H 4) (v.H 5) (v.N 1) (v.H 6) (v.N 2) (v.N 3) (v.N 4) (v.H 7) (v.N 5) (v.H 8) (v.M 0) (v.H 9) (v.N 6) (v.KI 0) (v.O 0) (v.KV 0)
@[irreducible] noncomputable def vA19 : Vars := hk pA19
theorem tA19 : pA19 vA19 := by
  intro hmN hiN hlN0 hlN hn0 hs0 hs1 qz23 qz25 qz27 qz28 hret B' X' T' l1 hb ha hne4 htr2 hlt hbd hq2 hin hput dI4 tI4 hWd hf hVd olo F17 odi2 ofl2 nd2 N18 hfk'
  generalize vA1.W 0 = w, vA1.N 0 = aN, vA1.VS 0 = vN, vA1.IS 0 = ns, vA1.N 1 = nN, vA1.I 0 = sp, vA1.N 2 = ts, vA1.R 0 = news, vA1.LS 0 = qz1, vA1.mean 0 = qz2, vA1.M 0 = qz3, vA1.M 1 = qz4, vA1.N 3 = qz5, vA1.N 4 = qz6, vA1.cn 0 = qz7, vA1.cs 0 = qz8, vA1.N 5 = aA13, vA1.V 0 = qz10, vA1.cl 0 = qz11, vA1.outer 0 = qz12, vA1.A 0 = qz13, vA1.H 0 = qz14, vA1.H 1 = qz15, vA1.N 6 = qz16, vA1.M 2 = qz17, vA1.s 0 = qz18, vA1.Q 0 = qz19, vA1.Q 1 = qz20, vA1.H 2 = g', vA1.N 7 = L', vA1.H 3 = h', vA1.N 8 = tk', vA1.O 0 = oC0, vA3.N 0 = aR, vA3.H 0 = qz36, vA3.H 1 = qz37, vA3.N 1 = D1, vA3.H 2 = qz38, vA3.N 2 = D2, vA3.H 3 = qz39, vA3.N 3 = D3, vA3.H 4 = qz40, vA3.N 4 = aP, vA3.H 5 = qz41, vA3.H 6 = qz42, vA3.O 0 = oC, vA3.R 0 = rest0, vA3.M 0 = u, vA3.H 7 = h, vA3.N 5 = tk, vA3.D 0 = d, vA3.VS 0 = rvs, vA3.VS 1 = pvs, vA3.N 6 = nR, vA3.N 7 = nP, vA3.R 1 = rest, vA5.N 0 = qz46, vA5.H 0 = qz47, vA5.VS 0 = ys, vA5.N 1 = D9, vA5.H 1 = qz49, vA5.N 2 = tk9, vA5.H 2 = h9, vA7.N 0 = aW, vA7.VS 0 = wW, vA7.H 0 = qz63, vA7.H 1 = qz67, vA7.N 1 = qz68, vA7.H 2 = qz69, vA7.N 2 = aV, vA7.VS 1 = wV, vA7.H 3 = qz71, vA7.H 4 = qz73, vA7.N 3 = aO, vA7.H 5 = qz74, vA7.H 6 = qz75, vA7.R 0 = B, vA7.M 0 = u, vA7.H 7 = h, vA7.N 4 = tk, vA7.IS 0 = acc, vA7.VS 2 = ovs, vA7.N 5 = oa, vA7.N 6 = nO, vA7.R 1 = B2, vA9.N 0 = D9, vA9.H 0 = qz79, vA9.N 1 = tk9, vA9.H 1 = h9, vA9.SL 0 = sl, vA9.AS 0 = ts', vA9.R 0 = Z, vA10.H 0 = qz82, vA10.N 0 = qz83, vA10.N 1 = qz84, vA10.N 2 = qz85, vA10.N 3 = qz86, vA10.R 0 = B3, vA10.N 4 = c, vA10.N 5 = tc, vA10.M 0 = u, vA10.H 1 = h, vA10.N 6 = tk, vA10.N 7 = I, vA10.O 0 = oI, vA10.SL 0 = sl, vA12.H 0 = qz15, vA12.N 0 = qz100, vA12.N 1 = qz101, vA12.N 2 = qz102, vA12.N 3 = qz103, vA12.N 4 = b, vA12.N 5 = tb, vA12.M 0 = u, vA12.H 1 = h, vA12.N 6 = tk, vA12.N 7 = I2, vA12.O 0 = oI2, vA12.SL 0 = sl, vA14.H 0 = qz117, vA14.N 0 = qz118, vA14.N 1 = qz119, vA14.N 2 = qz120, vA14.N 3 = qz121, vA14.N 4 = a, vA14.N 5 = ta, vA14.M 0 = u, vA14.H 1 = h, vA14.N 6 = tk, vA14.N 7 = I3, vA14.O 0 = oI3, vA14.SL 0 = sl, vA14.N 8 = Ta, vA14.N 9 = na, vA14.N 10 = qa1, vA14.N 11 = qa2, vA14.N 12 = Tb, vA14.N 13 = nb, vA14.N 14 = qb1, vA14.N 15 = qb2, vA14.N 16 = Tc, vA14.N 17 = nc, vA14.N 18 = qc1, vA14.N 19 = qc2, vA14.I 0 = xa, vA14.I 1 = ya, vA14.I 2 = xb, vA14.I 3 = yb, vA14.I 4 = xc, vA14.I 5 = yc, vA14.R 0 = Z3, vA16.H 0 = qz135, vA16.N 0 = qz136, vA16.N 1 = qz137, vA16.H 1 = qz138, vA16.N 2 = qz139, vA16.N 3 = qz140, vA16.H 2 = qz142, vA16.N 4 = qz143, vA16.N 5 = qz144, vA16.N 6 = qz147, vA16.N 7 = T1, vA16.H 3 = qz148, vA16.N 8 = T2, vA16.H 4 = qz149, vA16.N 9 = T3, vA16.H 5 = qz150, vA16.N 10 = aL, vA16.H 6 = qz151, vA16.R 0 = R4, vA16.VS 0 = r, vA16.M 0 = u, vA16.H 7 = h, vA16.N 11 = tk, vA16.N 12 = I4, vA16.O 0 = oI4, vA16.ES 0 = es, vA16.SL 0 = sl2, vA16.T3 0 = trs, vA16.N 13 = T, vA16.N 14 = nT, vA16.N 15 = s1, vA16.N 16 = s2, vA16.N 17 = s3, vA16.N 18 = x, vA16.N 19 = y, vA16.N 20 = z, vA16.N 21 = qt, vA16.N 22 = qd, vA16.O 1 = qo, vA16.KV 0 = qkvs, vA16.N 23 = qn, vA16.N 24 = q1, vA16.N 25 = q2, vA16.N 26 = q3, vA16.N 27 = q4, vA16.E 0 = qe, vA16.R 1 = R5, vA16.IS 0 = W, vA16.IS 1 = V, vA19.H 0 = qz185, vA19.H 1 = qz188, vA19.H 2 = qz189, vA19.H 3 = qz190, vA19.N 0 = qz191, vA19.H 4 = qz192, vA19.H 5 = qz193, vA19.N 1 = qz194, vA19.H 6 = qz195, vA19.N 2 = qz196, vA19.N 3 = qz197, vA19.N 4 = qz198, vA19.H 7 = qz199, vA19.N 5 = aK, vA19.H 8 = qz200, vA19.M 0 = u, vA19.H 9 = h, vA19.N 6 = tk, vA19.KI 0 = cc, vA19.O 0 = o, vA19.KV 0 = kvs at *
  k_steps
  rename Fr _ _ _ _ => F19
  have N19 : News _ _ _ ((qt, _) :: (qd, o) :: (I4, oI4) :: R5) := fun p hp => N18 p (.tail _ hp)
  obtain ⟨x', e1, e2, e3, e4, e5, N20⟩ := slot_upd kvs qe y z _ _ N19
  have hcu : ∀ wv ov : Int, (qe.upd y z wv ov).c = cc := fun _ _ => hfk'.symm
  obtain ⟨sl', hs6, hsub⟩ := hput x' e1 e2 ⟨by rw [e2]; exact olo, by rw [e3, e4]; exact odi2, by rw [e4, e5, hcu]; exact ofl2, by rw [e5, hcu]; exact nd2⟩
  have ew : V.getD (0 + (c : Int) - 2).toNat 0 = V.getD (c - 2) 0 := by
    have : (0 + (c : Int) - 2).toNat = c - 2 := by lia
    rw [this]
  have eo : 3 * (W.getD (0 + (a : Int)).toNat 0 + W.getD (0 + (b : Int)).toNat 0 + W.getD (0 + (c : Int)).toNat 0 + sp) = octT sp d a b c := by
    rw [hWd, getD_map1, getD_map1, getD_map1, Int.zero_add, Int.zero_add, Int.zero_add]; rfl
  refine TEnd.mk F19 N20 (chunk sl' ++ R4) (fun p hp => ?_) (fun p hp => ?_) (off_in (fun z hz => by (simp only [List.contains_cons, Bool.or_eq_false_iff] at hz ⊢; simp only [hz, and_self])) (by repeat (first | exact off_base | refine off_if rfl ?_))) ⟨trs, _, sl', rfl, hs6, ?_, htr2, fun t ht => hlt t (.tail _ ht), ?_⟩
  · rcases List.mem_cons.mp hp with rfl | hp
    · exact .tail _ (.tail _ (.head _))
    · have q := hsub p hp
      rcases List.mem_cons.mp q with rfl | q
      · exact .head _
      rcases List.mem_cons.mp q with rfl | q
      · exact .tail _ (.head _)
      · exact .tail _ (.tail _ (.tail _ q))
  · have q := hsub p hp
    rcases List.mem_cons.mp q with rfl | q
    · rw [show x'.tO.1 = qt from e1]; exact tI4
    rcases List.mem_cons.mp q with rfl | q
    · rw [show x'.dO.1 = qd from e2]; exact dI4
    · exact hne4 p (hin p (.tail _ (.tail _ q)))
  · rw [List.foldl_cons] at hf
    rw [← hVd, ← hf, updOne, modify_set hq2, e5, ew, eo]
  · intro e he
    rcases List.mem_or_eq_of_mem_set he with he | rfl
    · have q := hbd e he
      rw [List.length_cons] at q; lia
    · have q := hbd _ (List.mem_of_getElem? hq2)
      rw [List.length_cons] at q
      rw [e5]
      have q2 := addTo2_len qe.c y z
      (show (addTo qe.c [((y : Int), 1), ((z : Int), 1)]).length + _ ≤ _)
      lia
theorem aA19 : ∀ v, pA19 v := hkv tA19 (by unfold vA19; rfl)
theorem tA16 : pA16 vA16 := ktA16.2 (fun x1 x2 x3 x4 x5 x6 x7 x8 x9 x10 x11 x12 x13 x14 x15 x16 x17 x18 x19 x20 x21 x22 x23 x24 x25 x26 x27 => aA18 {d0v with H := sl x1 [x2, x3, x4, x6, x7, x9, x13, x15, x18], N := sl x5 [x8, x10, x11, x12, x14, x19, x20, x26], O := sl x21 [x23], VS := sl x16 [], I := sl x25 [], IS := sl x27 [], M := sl x17 [], KV := sl x24 [], KI := sl x22 []}) (fun x1 x2 x3 x4 x5 x6 x7 x8 x9 x10 x11 x12 x13 x14 x15 x16 x17 x18 x19 x20 x21 => aA19 {d0v with H := sl x1 [x2, x3, x4, x6, x7, x9, x13, x15, x17], N := sl x5 [x8, x10, x11, x12, x14, x18], O := sl x20 [], M := sl x16 [], KV := sl x21 [], KI := sl x19 []})
theorem aA16 : ∀ v, pA16 v := hkv tA16 (by unfold vA16; rfl)
noncomputable def pA17 (v : Vars) : Prop := ktA14.1.2 (v.H 0) (v.N 0) (v.N 1) (v.H 1) (v.N 2) (v.N 3) (v.H 2) (v.N 4) (v.N 5) (v.N 6) (v.N 7) (v.H 3) (v.N 8) (v.H 4) (v.N 9) (v.H 5) (v.N 10) (v.H 6) (v.R 0) (v.M 0) (v.H 7) (v.N 11) (v.ES 0) (v.SL 0)
@[irreducible] noncomputable def vA17 : Vars := hk pA17
theorem tA17 : pA17 vA17 := by
  intro hmN hiN hlN0 hlN hn0 hs0 hs1 qz23 qz25 qz27 qz28 hret B' X' T' l1 hyes R4B I3off hs5 F15 N15 hf
  generalize vA1.W 0 = w, vA1.N 0 = aN, vA1.VS 0 = vN, vA1.IS 0 = ns, vA1.N 1 = nN, vA1.I 0 = sp, vA1.N 2 = ts, vA1.R 0 = news, vA1.LS 0 = qz1, vA1.mean 0 = qz2, vA1.M 0 = qz3, vA1.M 1 = qz4, vA1.N 3 = qz5, vA1.N 4 = qz6, vA1.cn 0 = qz7, vA1.cs 0 = qz8, vA1.N 5 = aA13, vA1.V 0 = qz10, vA1.cl 0 = qz11, vA1.outer 0 = qz12, vA1.A 0 = qz13, vA1.H 0 = qz14, vA1.H 1 = qz15, vA1.N 6 = qz16, vA1.M 2 = qz17, vA1.s 0 = qz18, vA1.Q 0 = qz19, vA1.Q 1 = qz20, vA1.H 2 = g', vA1.N 7 = L', vA1.H 3 = h', vA1.N 8 = tk', vA1.O 0 = oC0, vA3.N 0 = aR, vA3.H 0 = qz36, vA3.H 1 = qz37, vA3.N 1 = D1, vA3.H 2 = qz38, vA3.N 2 = D2, vA3.H 3 = qz39, vA3.N 3 = D3, vA3.H 4 = qz40, vA3.N 4 = aP, vA3.H 5 = qz41, vA3.H 6 = qz42, vA3.O 0 = oC, vA3.R 0 = rest0, vA3.M 0 = u, vA3.H 7 = h, vA3.N 5 = tk, vA3.D 0 = d, vA3.VS 0 = rvs, vA3.VS 1 = pvs, vA3.N 6 = nR, vA3.N 7 = nP, vA3.R 1 = rest, vA5.N 0 = qz46, vA5.H 0 = qz47, vA5.VS 0 = ys, vA5.N 1 = D9, vA5.H 1 = qz49, vA5.N 2 = tk9, vA5.H 2 = h9, vA7.N 0 = aW, vA7.VS 0 = wW, vA7.H 0 = qz63, vA7.H 1 = qz67, vA7.N 1 = qz68, vA7.H 2 = qz69, vA7.N 2 = aV, vA7.VS 1 = wV, vA7.H 3 = qz71, vA7.H 4 = qz73, vA7.N 3 = aO, vA7.H 5 = qz74, vA7.H 6 = qz75, vA7.R 0 = B, vA7.M 0 = u, vA7.H 7 = h, vA7.N 4 = tk, vA7.IS 0 = acc, vA7.VS 2 = ovs, vA7.N 5 = oa, vA7.N 6 = nO, vA7.R 1 = B2, vA9.N 0 = D9, vA9.H 0 = qz79, vA9.N 1 = tk9, vA9.H 1 = h9, vA9.SL 0 = sl, vA9.AS 0 = ts', vA9.R 0 = Z, vA10.H 0 = qz82, vA10.N 0 = qz83, vA10.N 1 = qz84, vA10.N 2 = qz85, vA10.N 3 = qz86, vA10.R 0 = B3, vA10.N 4 = c, vA10.N 5 = tc, vA10.M 0 = u, vA10.H 1 = h, vA10.N 6 = tk, vA10.N 7 = I, vA10.O 0 = oI, vA10.SL 0 = sl, vA12.H 0 = qz15, vA12.N 0 = qz100, vA12.N 1 = qz101, vA12.N 2 = qz102, vA12.N 3 = qz103, vA12.N 4 = b, vA12.N 5 = tb, vA12.M 0 = u, vA12.H 1 = h, vA12.N 6 = tk, vA12.N 7 = I2, vA12.O 0 = oI2, vA12.SL 0 = sl, vA14.H 0 = qz117, vA14.N 0 = qz118, vA14.N 1 = qz119, vA14.N 2 = qz120, vA14.N 3 = qz121, vA14.N 4 = a, vA14.N 5 = ta, vA14.M 0 = u, vA14.H 1 = h, vA14.N 6 = tk, vA14.N 7 = I3, vA14.O 0 = oI3, vA14.SL 0 = sl, vA14.N 8 = Ta, vA14.N 9 = na, vA14.N 10 = qa1, vA14.N 11 = qa2, vA14.N 12 = Tb, vA14.N 13 = nb, vA14.N 14 = qb1, vA14.N 15 = qb2, vA14.N 16 = Tc, vA14.N 17 = nc, vA14.N 18 = qc1, vA14.N 19 = qc2, vA14.I 0 = xa, vA14.I 1 = ya, vA14.I 2 = xb, vA14.I 3 = yb, vA14.I 4 = xc, vA14.I 5 = yc, vA14.R 0 = Z3, vA17.H 0 = qz152, vA17.N 0 = qz153, vA17.N 1 = qz154, vA17.H 1 = qz155, vA17.N 2 = qz156, vA17.N 3 = qz157, vA17.H 2 = qz159, vA17.N 4 = qz160, vA17.N 5 = qz161, vA17.N 6 = qz164, vA17.N 7 = T1, vA17.H 3 = qz165, vA17.N 8 = T2, vA17.H 4 = qz166, vA17.N 9 = T3, vA17.H 5 = qz167, vA17.N 10 = aL, vA17.H 6 = qz168, vA17.R 0 = R4, vA17.M 0 = u, vA17.H 7 = h, vA17.N 11 = tk, vA17.ES 0 = es, vA17.SL 0 = sl2 at *
  k_steps
  exact TEnd.mk (by assumption) (by assumption) (chunk sl2 ++ (I2, oI2) :: (I, oI) :: B3) (tri_out (fun p hp => R4B p hp)) (off_app (fun p hp => hs5.off p hp _ (R4B _ (.head _))) I3off) (off_in (fun z hz => by (simp only [List.contains_cons, Bool.or_eq_false_iff] at hz ⊢; simp only [hz, and_self])) (by repeat (first | exact off_base | refine off_if rfl ?_))) ⟨sl2, rfl, by
    rw [foldA_succ, stepA, if_pos hyes, ← hf]
    exact hs5.sub fun p hp => R4B p (.tail _ hp)⟩
theorem aA17 : ∀ v, pA17 v := hkv tA17 (by unfold vA17; rfl)
theorem tA14 : pA14 vA14 := ktA14.2 (fun x1 x2 x3 x4 x5 x6 x7 x8 x9 x10 x11 x12 x13 x14 x15 x16 x17 x18 x19 x20 x21 x22 x23 x24 x25 x26 x27 x28 x29 x30 x31 x32 x33 x34 x35 x36 x37 x38 x39 x40 x41 x42 x43 x44 x45 x46 x47 x48 x49 => aA16 {d0v with H := sl x1 [x4, x7, x12, x14, x16, x18, x22], N := sl x2 [x3, x5, x6, x8, x9, x10, x11, x13, x15, x17, x23, x24, x29, x30, x31, x32, x33, x34, x35, x36, x37, x38, x41, x42, x43, x44, x45], O := sl x25 [x39], VS := sl x20 [], IS := sl x48 [x49], M := sl x21 [], KV := sl x40 [], E := sl x46 [], ES := sl x26 [], R := sl x19 [x47], T3 := sl x28 [], SL := sl x27 []}) (fun x1 x2 x3 x4 x5 x6 x7 x8 x9 x10 x11 x12 x13 x14 x15 x16 x17 x18 x19 x20 x21 x22 x23 x24 => aA17 {d0v with H := sl x1 [x4, x7, x12, x14, x16, x18, x21], N := sl x2 [x3, x5, x6, x8, x9, x10, x11, x13, x15, x17, x22], M := sl x20 [], ES := sl x23 [], R := sl x19 [], SL := sl x24 []})
theorem aA14 : ∀ v, pA14 v := hkv tA14 (by unfold vA14; rfl)
noncomputable def pA15 (v : Vars) : Prop := ktA12.1.2 (v.H 0) (v.N 0) (v.N 1) (v.N 2) (v.N 3) (v.M 0) (v.H 1) (v.N 4) (v.SL 0)
@[irreducible] noncomputable def vA15 : Vars := hk pA15
theorem tA15 : pA15 vA15 := by
  intro hmN hiN hlN0 hlN hn0 hs0 hs1 qz23 qz25 qz27 qz28 hret B' X' T' l1 hne2 F11 hs N12
  generalize vA1.W 0 = w, vA1.N 0 = aN, vA1.VS 0 = vN, vA1.IS 0 = ns, vA1.N 1 = nN, vA1.I 0 = sp, vA1.N 2 = ts, vA1.R 0 = news, vA1.LS 0 = qz1, vA1.mean 0 = qz2, vA1.M 0 = qz3, vA1.M 1 = qz4, vA1.N 3 = qz5, vA1.N 4 = qz6, vA1.cn 0 = qz7, vA1.cs 0 = qz8, vA1.N 5 = aA13, vA1.V 0 = qz10, vA1.cl 0 = qz11, vA1.outer 0 = qz12, vA1.A 0 = qz13, vA1.H 0 = qz14, vA1.H 1 = qz15, vA1.N 6 = qz16, vA1.M 2 = qz17, vA1.s 0 = qz18, vA1.Q 0 = qz19, vA1.Q 1 = qz20, vA1.H 2 = g', vA1.N 7 = L', vA1.H 3 = h', vA1.N 8 = tk', vA1.O 0 = oC0, vA3.N 0 = aR, vA3.H 0 = qz36, vA3.H 1 = qz37, vA3.N 1 = D1, vA3.H 2 = qz38, vA3.N 2 = D2, vA3.H 3 = qz39, vA3.N 3 = D3, vA3.H 4 = qz40, vA3.N 4 = aP, vA3.H 5 = qz41, vA3.H 6 = qz42, vA3.O 0 = oC, vA3.R 0 = rest0, vA3.M 0 = u, vA3.H 7 = h, vA3.N 5 = tk, vA3.D 0 = d, vA3.VS 0 = rvs, vA3.VS 1 = pvs, vA3.N 6 = nR, vA3.N 7 = nP, vA3.R 1 = rest, vA5.N 0 = qz46, vA5.H 0 = qz47, vA5.VS 0 = ys, vA5.N 1 = D9, vA5.H 1 = qz49, vA5.N 2 = tk9, vA5.H 2 = h9, vA7.N 0 = aW, vA7.VS 0 = wW, vA7.H 0 = qz63, vA7.H 1 = qz67, vA7.N 1 = qz68, vA7.H 2 = qz69, vA7.N 2 = aV, vA7.VS 1 = wV, vA7.H 3 = qz71, vA7.H 4 = qz73, vA7.N 3 = aO, vA7.H 5 = qz74, vA7.H 6 = qz75, vA7.R 0 = B, vA7.M 0 = u, vA7.H 7 = h, vA7.N 4 = tk, vA7.IS 0 = acc, vA7.VS 2 = ovs, vA7.N 5 = oa, vA7.N 6 = nO, vA7.R 1 = B2, vA9.N 0 = D9, vA9.H 0 = qz79, vA9.N 1 = tk9, vA9.H 1 = h9, vA9.SL 0 = sl, vA9.AS 0 = ts', vA9.R 0 = Z, vA10.H 0 = qz82, vA10.N 0 = qz83, vA10.N 1 = qz84, vA10.N 2 = qz85, vA10.N 3 = qz86, vA10.R 0 = B3, vA10.N 4 = c, vA10.N 5 = tc, vA10.M 0 = u, vA10.H 1 = h, vA10.N 6 = tk, vA10.N 7 = I, vA10.O 0 = oI, vA10.SL 0 = sl, vA12.H 0 = qz15, vA12.N 0 = qz100, vA12.N 1 = qz101, vA12.N 2 = qz102, vA12.N 3 = qz103, vA12.N 4 = b, vA12.N 5 = tb, vA12.M 0 = u, vA12.H 1 = h, vA12.N 6 = tk, vA12.N 7 = I2, vA12.O 0 = oI2, vA12.SL 0 = sl, vA15.H 0 = qz129, vA15.N 0 = qz130, vA15.N 1 = qz131, vA15.N 2 = qz132, vA15.N 3 = qz133, vA15.M 0 = u, vA15.H 1 = h, vA15.N 4 = tk, vA15.SL 0 = sl at *
  k_steps
  rename Fr _ _ _ _ => F12
  exact TEnd.mk F12 N12 (chunk sl ++ (I, oI) :: B3) mid_mem (off_app (fun p hp => hs.off p hp _ (.head _)) (fun p hp => hne2 p (List.mem_append_right _ hp))) (off_in (fun z hz => by (simp only [List.contains_cons, Bool.or_eq_false_iff] at hz ⊢; simp only [hz, and_self])) (by repeat (first | exact off_base | refine off_if rfl ?_))) ⟨sl, rfl, by rw [foldB_succ]; exact hs.sub fun p hp => .tail _ hp⟩
theorem aA15 : ∀ v, pA15 v := hkv tA15 (by unfold vA15; rfl)
theorem tA12 : pA12 vA12 := ktA12.2 (fun x1 x2 x3 x4 x5 x6 x7 x8 x9 x10 x11 x12 x13 x14 x15 x16 x17 x18 x19 x20 x21 x22 x23 x24 x25 x26 x27 x28 x29 x30 x31 x32 => aA14 {d0v with H := sl x1 [x9], N := sl x2 [x3, x4, x5, x6, x7, x10, x11, x14, x15, x16, x17, x18, x19, x20, x21, x22, x23, x24, x25], O := sl x12 [], I := sl x26 [x27, x28, x29, x30, x31], M := sl x8 [], R := sl x32 [], SL := sl x13 []}) (fun x1 x2 x3 x4 x5 x6 x7 x8 x9 => aA15 {d0v with H := sl x1 [x7], N := sl x2 [x3, x4, x5, x8], M := sl x6 [], SL := sl x9 []})
theorem aA12 : ∀ v, pA12 v := hkv tA12 (by unfold vA12; rfl)
noncomputable def pA13 (v : Vars) : Prop := ktA10.1.2 (v.H 0) (v.N 0) (v.N 1) (v.N 2) (v.N 3) (v.M 0) (v.H 1) (v.N 4) (v.SL 0)
@[irreducible] noncomputable def vA13 : Vars := hk pA13
theorem tA13 : pA13 vA13 := by
  intro hmN hiN hlN0 hlN hn0 hs0 hs1 qz23 qz25 qz27 qz28 hret B' X' T' l1 hne F9 hs N10
  generalize vA1.W 0 = w, vA1.N 0 = aN, vA1.VS 0 = vN, vA1.IS 0 = ns, vA1.N 1 = nN, vA1.I 0 = sp, vA1.N 2 = ts, vA1.R 0 = news, vA1.LS 0 = qz1, vA1.mean 0 = qz2, vA1.M 0 = qz3, vA1.M 1 = qz4, vA1.N 3 = qz5, vA1.N 4 = qz6, vA1.cn 0 = qz7, vA1.cs 0 = qz8, vA1.N 5 = aA13, vA1.V 0 = qz10, vA1.cl 0 = qz11, vA1.outer 0 = qz12, vA1.A 0 = qz13, vA1.H 0 = qz14, vA1.H 1 = qz15, vA1.N 6 = qz16, vA1.M 2 = qz17, vA1.s 0 = qz18, vA1.Q 0 = qz19, vA1.Q 1 = qz20, vA1.H 2 = g', vA1.N 7 = L', vA1.H 3 = h', vA1.N 8 = tk', vA1.O 0 = oC0, vA3.N 0 = aR, vA3.H 0 = qz36, vA3.H 1 = qz37, vA3.N 1 = D1, vA3.H 2 = qz38, vA3.N 2 = D2, vA3.H 3 = qz39, vA3.N 3 = D3, vA3.H 4 = qz40, vA3.N 4 = aP, vA3.H 5 = qz41, vA3.H 6 = qz42, vA3.O 0 = oC, vA3.R 0 = rest0, vA3.M 0 = u, vA3.H 7 = h, vA3.N 5 = tk, vA3.D 0 = d, vA3.VS 0 = rvs, vA3.VS 1 = pvs, vA3.N 6 = nR, vA3.N 7 = nP, vA3.R 1 = rest, vA5.N 0 = qz46, vA5.H 0 = qz47, vA5.VS 0 = ys, vA5.N 1 = D9, vA5.H 1 = qz49, vA5.N 2 = tk9, vA5.H 2 = h9, vA7.N 0 = aW, vA7.VS 0 = wW, vA7.H 0 = qz63, vA7.H 1 = qz67, vA7.N 1 = qz68, vA7.H 2 = qz69, vA7.N 2 = aV, vA7.VS 1 = wV, vA7.H 3 = qz71, vA7.H 4 = qz73, vA7.N 3 = aO, vA7.H 5 = qz74, vA7.H 6 = qz75, vA7.R 0 = B, vA7.M 0 = u, vA7.H 7 = h, vA7.N 4 = tk, vA7.IS 0 = acc, vA7.VS 2 = ovs, vA7.N 5 = oa, vA7.N 6 = nO, vA7.R 1 = B2, vA9.N 0 = D9, vA9.H 0 = qz79, vA9.N 1 = tk9, vA9.H 1 = h9, vA9.SL 0 = sl, vA9.AS 0 = ts', vA9.R 0 = Z, vA10.H 0 = qz82, vA10.N 0 = qz83, vA10.N 1 = qz84, vA10.N 2 = qz85, vA10.N 3 = qz86, vA10.R 0 = B3, vA10.N 4 = c, vA10.N 5 = tc, vA10.M 0 = u, vA10.H 1 = h, vA10.N 6 = tk, vA10.N 7 = I, vA10.O 0 = oI, vA10.SL 0 = sl, vA13.H 0 = qz108, vA13.N 0 = qz109, vA13.N 1 = qz110, vA13.N 2 = qz111, vA13.N 3 = qz112, vA13.M 0 = u, vA13.H 1 = h, vA13.N 4 = tk, vA13.SL 0 = sl at *
  k_steps
  rename Fr _ _ _ _ => F12
  exact TEnd.mk F12 N10 (chunk sl ++ B3) mid_mem (off_app (fun p hp => hs.off p hp _ (.head _)) (fun p hp => hne p (List.mem_append_right _ hp))) (off_in (fun z hz => by (simp only [List.contains_cons, Bool.or_eq_false_iff] at hz ⊢; simp only [hz, and_self])) (by repeat (first | exact off_base | refine off_if rfl ?_))) ⟨sl, rfl, by rw [foldC_succ]; exact hs.sub fun p hp => .tail _ hp⟩
theorem aA13 : ∀ v, pA13 v := hkv tA13 (by unfold vA13; rfl)
theorem tA10 : pA10 vA10 := ktA10.2 (fun x1 x2 x3 x4 x5 x6 x7 x8 x9 x10 x11 x12 x13 => aA12 {d0v with H := sl x1 [x9], N := sl x2 [x3, x4, x5, x6, x7, x10, x11], O := sl x12 [], M := sl x8 [], SL := sl x13 []}) (fun x1 x2 x3 x4 x5 x6 x7 x8 x9 => aA13 {d0v with H := sl x1 [x7], N := sl x2 [x3, x4, x5, x8], M := sl x6 [], SL := sl x9 []})
theorem aA10 : ∀ v, pA10 v := hkv tA10 (by unfold vA10; rfl)
noncomputable def pA11 (v : Vars) : Prop := ktA9.1.2 (v.H 0) (v.N 0) (v.N 1) (v.N 2) (v.N 3) (v.R 0) (v.M 0) (v.H 1) (v.N 4) (v.SL 0) (v.R 1)
@[irreducible] noncomputable def vA11 : Vars := hk pA11
noncomputable def ktA11 : {P : (yN→yH→yH→yN→yVS→yH→yN→yVS→yN→yO→yN→yM→yH→yN→yR→yAS→yQ→yI→yN→yN→yN→yN→yN→Prop) × (yN→yH→yH→yN→yVS→yH→yVS→yN→yH→yN→yH→Prop) // (∀ x1 x2 x3 x4 x5 x6 x7 x8 x9 x10 x11 x12 x13 x14 x15 x16 x17 x18 x19 x20 x21 x22 x23, P.1 x1 x2 x3 x4 x5 x6 x7 x8 x9 x10 x11 x12 x13 x14 x15 x16 x17 x18 x19 x20 x21 x22 x23) → (∀ x1 x2 x3 x4 x5 x6 x7 x8 x9 x10 x11, P.2 x1 x2 x3 x4 x5 x6 x7 x8 x9 x10 x11) → pA11 vA11} := by
  refine' ⟨((_ : yW→yN→yVS→yIS→yN→yI→yN→yR→yLS→ymean→yM→yM→yN→yN→ycn→ycs→yN→yV→ycl→youter→yA→yH→yH→yN→yM→ys→yQ→yQ→yH→yN→yH→yN→yO→yN→yH→yH→yN→yH→yN→yH→yN→yH→yN→yH→yH→yO→yR→yM→yH→yN→yD→yVS→yVS→yN→yN→yR→yN→yH→yVS→yN→yH→yN→yH→yN→yVS→yH→yH→yN→yH→yN→yVS→yH→yH→yN→yH→yH→yR→yM→yH→yN→yIS→yVS→yN→yN→yR→yN→yH→yN→yH→ySL→yAS→yR→yH→yN→yN→yN→yN→yR→yM→yH→yN→ySL→yR→yN→yH→yH→yN→yVS→yH→yN→yVS→yN→yO→yN→yM→yH→yN→yR→yAS→yQ→yI→yN→yN→yN→yN→yN→Prop) (vA1.W 0) (vA1.N 0) (vA1.VS 0) (vA1.IS 0) (vA1.N 1) (vA1.I 0) (vA1.N 2) (vA1.R 0) (vA1.LS 0) (vA1.mean 0) (vA1.M 0) (vA1.M 1) (vA1.N 3) (vA1.N 4) (vA1.cn 0) (vA1.cs 0) (vA1.N 5) (vA1.V 0) (vA1.cl 0) (vA1.outer 0) (vA1.A 0) (vA1.H 0) (vA1.H 1) (vA1.N 6) (vA1.M 2) (vA1.s 0) (vA1.Q 0) (vA1.Q 1) (vA1.H 2) (vA1.N 7) (vA1.H 3) (vA1.N 8) (vA1.O 0) (vA3.N 0) (vA3.H 0) (vA3.H 1) (vA3.N 1) (vA3.H 2) (vA3.N 2) (vA3.H 3) (vA3.N 3) (vA3.H 4) (vA3.N 4) (vA3.H 5) (vA3.H 6) (vA3.O 0) (vA3.R 0) (vA3.M 0) (vA3.H 7) (vA3.N 5) (vA3.D 0) (vA3.VS 0) (vA3.VS 1) (vA3.N 6) (vA3.N 7) (vA3.R 1) (vA5.N 0) (vA5.H 0) (vA5.VS 0) (vA5.N 1) (vA5.H 1) (vA5.N 2) (vA5.H 2) (vA7.N 0) (vA7.VS 0) (vA7.H 0) (vA7.H 1) (vA7.N 1) (vA7.H 2) (vA7.N 2) (vA7.VS 1) (vA7.H 3) (vA7.H 4) (vA7.N 3) (vA7.H 5) (vA7.H 6) (vA7.R 0) (vA7.M 0) (vA7.H 7) (vA7.N 4) (vA7.IS 0) (vA7.VS 2) (vA7.N 5) (vA7.N 6) (vA7.R 1) (vA9.N 0) (vA9.H 0) (vA9.N 1) (vA9.H 1) (vA9.SL 0) (vA9.AS 0) (vA9.R 0) (vA11.H 0) (vA11.N 0) (vA11.N 1) (vA11.N 2) (vA11.N 3) (vA11.R 0) (vA11.M 0) (vA11.H 1) (vA11.N 4) (vA11.SL 0) (vA11.R 1), (_ : yW→yN→yVS→yIS→yN→yI→yN→yR→yLS→ymean→yM→yM→yN→yN→ycn→ycs→yN→yV→ycl→youter→yA→yH→yH→yN→yM→ys→yQ→yQ→yH→yN→yH→yN→yO→yN→yH→yH→yN→yH→yN→yH→yN→yH→yN→yH→yH→yO→yR→yM→yH→yN→yD→yVS→yVS→yN→yN→yR→yN→yH→yVS→yN→yH→yN→yH→yN→yVS→yH→yH→yN→yH→yN→yVS→yH→yH→yN→yH→yH→yR→yM→yH→yN→yIS→yVS→yN→yN→yR→yN→yH→yN→yH→ySL→yAS→yR→yH→yN→yN→yN→yN→yR→yM→yH→yN→ySL→yR→yN→yH→yH→yN→yVS→yH→yVS→yN→yH→yN→yH→Prop) (vA1.W 0) (vA1.N 0) (vA1.VS 0) (vA1.IS 0) (vA1.N 1) (vA1.I 0) (vA1.N 2) (vA1.R 0) (vA1.LS 0) (vA1.mean 0) (vA1.M 0) (vA1.M 1) (vA1.N 3) (vA1.N 4) (vA1.cn 0) (vA1.cs 0) (vA1.N 5) (vA1.V 0) (vA1.cl 0) (vA1.outer 0) (vA1.A 0) (vA1.H 0) (vA1.H 1) (vA1.N 6) (vA1.M 2) (vA1.s 0) (vA1.Q 0) (vA1.Q 1) (vA1.H 2) (vA1.N 7) (vA1.H 3) (vA1.N 8) (vA1.O 0) (vA3.N 0) (vA3.H 0) (vA3.H 1) (vA3.N 1) (vA3.H 2) (vA3.N 2) (vA3.H 3) (vA3.N 3) (vA3.H 4) (vA3.N 4) (vA3.H 5) (vA3.H 6) (vA3.O 0) (vA3.R 0) (vA3.M 0) (vA3.H 7) (vA3.N 5) (vA3.D 0) (vA3.VS 0) (vA3.VS 1) (vA3.N 6) (vA3.N 7) (vA3.R 1) (vA5.N 0) (vA5.H 0) (vA5.VS 0) (vA5.N 1) (vA5.H 1) (vA5.N 2) (vA5.H 2) (vA7.N 0) (vA7.VS 0) (vA7.H 0) (vA7.H 1) (vA7.N 1) (vA7.H 2) (vA7.N 2) (vA7.VS 1) (vA7.H 3) (vA7.H 4) (vA7.N 3) (vA7.H 5) (vA7.H 6) (vA7.R 0) (vA7.M 0) (vA7.H 7) (vA7.N 4) (vA7.IS 0) (vA7.VS 2) (vA7.N 5) (vA7.N 6) (vA7.R 1) (vA9.N 0) (vA9.H 0) (vA9.N 1) (vA9.H 1) (vA9.SL 0) (vA9.AS 0) (vA9.R 0) (vA11.H 0) (vA11.N 0) (vA11.N 1) (vA11.N 2) (vA11.N 3) (vA11.R 0) (vA11.M 0) (vA11.H 1) (vA11.N 4) (vA11.SL 0) (vA11.R 1)), fun hPA20 hPA21 => ?main⟩
  case main =>
    intro hmN hiN hlN0 hlN hn0 hs0 hs1 qz23 qz25 qz27 qz28 hret B' X' T' l1 dC good ring prs len run' wcl hW wh n9 hb hovs hacc hal hRl htl prsB oldB F7 hs N8 hZ4 BZ zE zO zP zR zC
    generalize vA1.W 0 = w, vA1.N 0 = aN, vA1.VS 0 = vN, vA1.IS 0 = ns, vA1.N 1 = nN, vA1.I 0 = sp, vA1.N 2 = ts, vA1.R 0 = news, vA1.LS 0 = qz1, vA1.mean 0 = qz2, vA1.M 0 = qz3, vA1.M 1 = qz4, vA1.N 3 = qz5, vA1.N 4 = qz6, vA1.cn 0 = qz7, vA1.cs 0 = qz8, vA1.N 5 = aA13, vA1.V 0 = qz10, vA1.cl 0 = qz11, vA1.outer 0 = qz12, vA1.A 0 = qz13, vA1.H 0 = qz14, vA1.H 1 = qz15, vA1.N 6 = qz16, vA1.M 2 = qz17, vA1.s 0 = qz18, vA1.Q 0 = qz19, vA1.Q 1 = qz20, vA1.H 2 = g', vA1.N 7 = L', vA1.H 3 = h', vA1.N 8 = tk', vA1.O 0 = oC0, vA3.N 0 = aR, vA3.H 0 = qz36, vA3.H 1 = qz37, vA3.N 1 = D1, vA3.H 2 = qz38, vA3.N 2 = D2, vA3.H 3 = qz39, vA3.N 3 = D3, vA3.H 4 = qz40, vA3.N 4 = aP, vA3.H 5 = qz41, vA3.H 6 = qz42, vA3.O 0 = oC, vA3.R 0 = rest0, vA3.M 0 = u, vA3.H 7 = h, vA3.N 5 = tk, vA3.D 0 = d, vA3.VS 0 = rvs, vA3.VS 1 = pvs, vA3.N 6 = nR, vA3.N 7 = nP, vA3.R 1 = rest, vA5.N 0 = qz46, vA5.H 0 = qz47, vA5.VS 0 = ys, vA5.N 1 = D9, vA5.H 1 = qz49, vA5.N 2 = tk9, vA5.H 2 = h9, vA7.N 0 = aW, vA7.VS 0 = wW, vA7.H 0 = qz63, vA7.H 1 = qz67, vA7.N 1 = qz68, vA7.H 2 = qz69, vA7.N 2 = aV, vA7.VS 1 = wV, vA7.H 3 = qz71, vA7.H 4 = qz73, vA7.N 3 = aO, vA7.H 5 = qz74, vA7.H 6 = qz75, vA7.R 0 = B, vA7.M 0 = u, vA7.H 7 = h, vA7.N 4 = tk, vA7.IS 0 = acc, vA7.VS 2 = ovs, vA7.N 5 = oa, vA7.N 6 = nO, vA7.R 1 = B2, vA9.N 0 = D9, vA9.H 0 = qz79, vA9.N 1 = tk9, vA9.H 1 = h9, vA9.SL 0 = sl, vA9.AS 0 = ts', vA9.R 0 = Z, vA11.H 0 = qz90, vA11.N 0 = qz91, vA11.N 1 = qz92, vA11.N 2 = qz93, vA11.N 3 = qz94, vA11.R 0 = B3, vA11.M 0 = u, vA11.H 1 = h, vA11.N 4 = tk, vA11.SL 0 = sl, vA11.R 1 = Z4 at *
    k_steps
    rename_i aRw _ _ _ lRw _ aRv wR _ F20 N20 hWR _ lRv
    refine halt_out ?_
    have hRr : ∀ k ∈ d.m.ring.reverse, k ∈ d.m.ring := fun k hk => List.mem_reverse.mp hk
    have prsZ := prsB.mono BZ
    k_dflt (refine comp_list (vs := wR) (by rfl) (by rfl) (by rfl) F20 N20 (.head _) (by rw [PySem.sizeLine_eq, ints_len hWR, List.length_reverse]; lia) (fun (ys : List Value) nw => nw = _ ∧ ∀ j v, ys[j]? = some v → PairAt Z4 v (pAt d.ps (d.m.ring.reverse.getD j 0))) ⟨rfl, fun j v e => by simp at e⟩ ?_ ?_)
    · intro i v₁ ys nw hv1 hyl C oC3 D cm h tk own wr E' hJ hC hcm off hCD hwo hown F' N'
      obtain ⟨hJ1, hJ2⟩ := hJ
      obtain ⟨k, tk1, hki, rfl⟩ := ints_at hWR hv1
      have hk0 := good.good.rng _ (hRr _ (List.mem_of_getElem? hki))
      have pl := good.pl
      obtain ⟨u1, hu1, T1, n1, q11, q12, rfl, hT1⟩ := prsZ.at (i := k) (by lia)
      have k0 : 0 ≤ k := hk0.1
      have k1 : k < 2 ^ 20 := by lia
      subst hJ1
      have mm : ∀ p ∈ Z4, p ∈ (C, oC3) :: (D, LCg.lst ys) :: (own ++ (aRv, W.listOf wR.toArray 0) :: (aRw, W.listOf #[] 0) :: Z4) := fun p hp => List.Mem.tail _ (List.Mem.tail _ (List.mem_append_right own (.tail _ (.tail _ hp))))
      have mmP := mm _ zP
      have mmC := mm _ zC
      rename_i qz201 qz202 qz203 qz204 qz205 qz206 qz207
      revert hmN hiN hlN0 hlN hn0 hs0 hs1 qz23 qz25 qz27 qz28 hret B' X' T' l1 dC hyl hC F' hJ2 hki hcm hT1 hu1 k0 k1 off N' mmP mmC
      exact hPA20 aRw qz202 qz205 aRv wR qz206 i ys C oC3 D cm h tk own wr E' k tk1 T1 n1 q11 q12
    · intro s₂ ys nw hJ918 hyl hJ919 D9b h9 tk9 F9 N9 o9
      refine hideG fun nG => ?_
      obtain ⟨h9, rfl⟩ := hJ918
      obtain ⟨rfl, hys⟩ := hJ919
      (try clear F20)
      (try clear N20)
      have o9' := off1_mem o9
      have hyn : ys.length = d.m.ring.length := by rw [hyl, ints_len hWR, List.length_reverse]
      have hy9 : ys.length ≤ 1000 := by lia
      refine nG ?_
      (try clear nG)
      rename_i qz208 qz209 qz210 qz211 qz212 qz213 qz214 qz215
      revert hmN hiN hlN0 hlN hn0 hs0 hs1 qz23 qz25 qz27 qz28 hret B' X' T' l1 good ring prs len run' wcl hW wh n9 hb hovs hacc hal hRl htl prsB oldB hs hZ4 zE zO lRw hWR qz214 lRv hRr prsZ F9 hys N9 o9' hyn hy9
      exact hPA21 aRw qz209 qz212 aRv wR qz213 ys D9b qz215 tk9 h9
noncomputable def pA20 (v : Vars) : Prop := ktA11.1.1 (v.N 0) (v.H 0) (v.H 1) (v.N 1) (v.VS 0) (v.H 2) (v.N 2) (v.VS 1) (v.N 3) (v.O 0) (v.N 4) (v.M 0) (v.H 3) (v.N 5) (v.R 0) (v.AS 0) (v.Q 0) (v.I 0) (v.N 6) (v.N 7) (v.N 8) (v.N 9) (v.N 10)
@[irreducible] noncomputable def vA20 : Vars := hk pA20
theorem tA20 : pA20 vA20 := by
  intro hmN hiN hlN0 hlN hn0 hs0 hs1 qz23 qz25 qz27 qz28 hret B' X' T' l1 dC hyl hC F' hJ2 hki hcm hT1 hu1 k0 k1 off N' mmP mmC
  generalize vA1.W 0 = w, vA1.N 0 = aN, vA1.VS 0 = vN, vA1.IS 0 = ns, vA1.N 1 = nN, vA1.I 0 = sp, vA1.N 2 = ts, vA1.R 0 = news, vA1.LS 0 = qz1, vA1.mean 0 = qz2, vA1.M 0 = qz3, vA1.M 1 = qz4, vA1.N 3 = qz5, vA1.N 4 = qz6, vA1.cn 0 = qz7, vA1.cs 0 = qz8, vA1.N 5 = aA13, vA1.V 0 = qz10, vA1.cl 0 = qz11, vA1.outer 0 = qz12, vA1.A 0 = qz13, vA1.H 0 = qz14, vA1.H 1 = qz15, vA1.N 6 = qz16, vA1.M 2 = qz17, vA1.s 0 = qz18, vA1.Q 0 = qz19, vA1.Q 1 = qz20, vA1.H 2 = g', vA1.N 7 = L', vA1.H 3 = h', vA1.N 8 = tk', vA1.O 0 = oC0, vA3.N 0 = aR, vA3.H 0 = qz36, vA3.H 1 = qz37, vA3.N 1 = D1, vA3.H 2 = qz38, vA3.N 2 = D2, vA3.H 3 = qz39, vA3.N 3 = D3, vA3.H 4 = qz40, vA3.N 4 = aP, vA3.H 5 = qz41, vA3.H 6 = qz42, vA3.O 0 = oC, vA3.R 0 = rest0, vA3.M 0 = u, vA3.H 7 = h, vA3.N 5 = tk, vA3.D 0 = d, vA3.VS 0 = rvs, vA3.VS 1 = pvs, vA3.N 6 = nR, vA3.N 7 = nP, vA3.R 1 = rest, vA5.N 0 = qz46, vA5.H 0 = qz47, vA5.VS 0 = ys, vA5.N 1 = D9, vA5.H 1 = qz49, vA5.N 2 = tk9, vA5.H 2 = h9, vA7.N 0 = aW, vA7.VS 0 = wW, vA7.H 0 = qz63, vA7.H 1 = qz67, vA7.N 1 = qz68, vA7.H 2 = qz69, vA7.N 2 = aV, vA7.VS 1 = wV, vA7.H 3 = qz71, vA7.H 4 = qz73, vA7.N 3 = aO, vA7.H 5 = qz74, vA7.H 6 = qz75, vA7.R 0 = B, vA7.M 0 = u, vA7.H 7 = h, vA7.N 4 = tk, vA7.IS 0 = acc, vA7.VS 2 = ovs, vA7.N 5 = oa, vA7.N 6 = nO, vA7.R 1 = B2, vA9.N 0 = D9, vA9.H 0 = qz79, vA9.N 1 = tk9, vA9.H 1 = h9, vA9.SL 0 = sl, vA9.AS 0 = ts', vA9.R 0 = Z, vA11.H 0 = qz90, vA11.N 0 = qz91, vA11.N 1 = qz92, vA11.N 2 = qz93, vA11.N 3 = qz94, vA11.R 0 = B3, vA11.M 0 = u, vA11.H 1 = h, vA11.N 4 = tk, vA11.SL 0 = sl, vA11.R 1 = Z4, vA20.N 0 = aRw, vA20.H 0 = qz202, vA20.H 1 = qz205, vA20.N 1 = aRv, vA20.VS 0 = wR, vA20.H 2 = qz206, vA20.N 2 = i, vA20.VS 1 = ys, vA20.N 3 = C, vA20.O 0 = oC3, vA20.N 4 = D, vA20.M 0 = cm, vA20.H 3 = h, vA20.N 5 = tk, vA20.R 0 = own, vA20.AS 0 = wr, vA20.Q 0 = E', vA20.I 0 = k, vA20.N 6 = tk1, vA20.N 7 = T1, vA20.N 8 = n1, vA20.N 9 = q11, vA20.N 10 = q12 at *
  k_steps
  rename Fr _ _ _ _ => F9
  rename News _ _ _ _ => N9
  exact ⟨_, _, _, rfl, F9, N9, off, rfl, snoc_get hJ2 ⟨T1, n1, q11, q12, rfl, by rw [hyl, List.getD_eq_getElem?_getD, hki]; exact hT1⟩⟩
theorem aA20 : ∀ v, pA20 v := hkv tA20 (by unfold vA20; rfl)
noncomputable def pA21 (v : Vars) : Prop := ktA11.1.2 (v.N 0) (v.H 0) (v.H 1) (v.N 1) (v.VS 0) (v.H 2) (v.VS 1) (v.N 2) (v.H 3) (v.N 3) (v.H 4)
@[irreducible] noncomputable def vA21 : Vars := hk pA21
noncomputable def ktA21 : {P : (yH→yN→yN→yN→yN→yR→yN→yN→yM→yH→yN→yN→yO→yVS→yN→yR→Prop) × (yH→yN→yN→yN→yN→yR→yM→yH→yN→yVS→yN→yR→Prop) // (∀ x1 x2 x3 x4 x5 x6 x7 x8 x9 x10 x11 x12 x13 x14 x15 x16, P.1 x1 x2 x3 x4 x5 x6 x7 x8 x9 x10 x11 x12 x13 x14 x15 x16) → (∀ x1 x2 x3 x4 x5 x6 x7 x8 x9 x10 x11 x12, P.2 x1 x2 x3 x4 x5 x6 x7 x8 x9 x10 x11 x12) → pA21 vA21} := by
  refine' ⟨((_ : yW→yN→yVS→yIS→yN→yI→yN→yR→yLS→ymean→yM→yM→yN→yN→ycn→ycs→yN→yV→ycl→youter→yA→yH→yH→yN→yM→ys→yQ→yQ→yH→yN→yH→yN→yO→yN→yH→yH→yN→yH→yN→yH→yN→yH→yN→yH→yH→yO→yR→yM→yH→yN→yD→yVS→yVS→yN→yN→yR→yN→yH→yVS→yN→yH→yN→yH→yN→yVS→yH→yH→yN→yH→yN→yVS→yH→yH→yN→yH→yH→yR→yM→yH→yN→yIS→yVS→yN→yN→yR→yN→yH→yN→yH→ySL→yAS→yR→yH→yN→yN→yN→yN→yR→yM→yH→yN→ySL→yR→yN→yH→yH→yN→yVS→yH→yVS→yN→yH→yN→yH→yH→yN→yN→yN→yN→yR→yN→yN→yM→yH→yN→yN→yO→yVS→yN→yR→Prop) (vA1.W 0) (vA1.N 0) (vA1.VS 0) (vA1.IS 0) (vA1.N 1) (vA1.I 0) (vA1.N 2) (vA1.R 0) (vA1.LS 0) (vA1.mean 0) (vA1.M 0) (vA1.M 1) (vA1.N 3) (vA1.N 4) (vA1.cn 0) (vA1.cs 0) (vA1.N 5) (vA1.V 0) (vA1.cl 0) (vA1.outer 0) (vA1.A 0) (vA1.H 0) (vA1.H 1) (vA1.N 6) (vA1.M 2) (vA1.s 0) (vA1.Q 0) (vA1.Q 1) (vA1.H 2) (vA1.N 7) (vA1.H 3) (vA1.N 8) (vA1.O 0) (vA3.N 0) (vA3.H 0) (vA3.H 1) (vA3.N 1) (vA3.H 2) (vA3.N 2) (vA3.H 3) (vA3.N 3) (vA3.H 4) (vA3.N 4) (vA3.H 5) (vA3.H 6) (vA3.O 0) (vA3.R 0) (vA3.M 0) (vA3.H 7) (vA3.N 5) (vA3.D 0) (vA3.VS 0) (vA3.VS 1) (vA3.N 6) (vA3.N 7) (vA3.R 1) (vA5.N 0) (vA5.H 0) (vA5.VS 0) (vA5.N 1) (vA5.H 1) (vA5.N 2) (vA5.H 2) (vA7.N 0) (vA7.VS 0) (vA7.H 0) (vA7.H 1) (vA7.N 1) (vA7.H 2) (vA7.N 2) (vA7.VS 1) (vA7.H 3) (vA7.H 4) (vA7.N 3) (vA7.H 5) (vA7.H 6) (vA7.R 0) (vA7.M 0) (vA7.H 7) (vA7.N 4) (vA7.IS 0) (vA7.VS 2) (vA7.N 5) (vA7.N 6) (vA7.R 1) (vA9.N 0) (vA9.H 0) (vA9.N 1) (vA9.H 1) (vA9.SL 0) (vA9.AS 0) (vA9.R 0) (vA11.H 0) (vA11.N 0) (vA11.N 1) (vA11.N 2) (vA11.N 3) (vA11.R 0) (vA11.M 0) (vA11.H 1) (vA11.N 4) (vA11.SL 0) (vA11.R 1) (vA21.N 0) (vA21.H 0) (vA21.H 1) (vA21.N 1) (vA21.VS 0) (vA21.H 2) (vA21.VS 1) (vA21.N 2) (vA21.H 3) (vA21.N 3) (vA21.H 4), (_ : yW→yN→yVS→yIS→yN→yI→yN→yR→yLS→ymean→yM→yM→yN→yN→ycn→ycs→yN→yV→ycl→youter→yA→yH→yH→yN→yM→ys→yQ→yQ→yH→yN→yH→yN→yO→yN→yH→yH→yN→yH→yN→yH→yN→yH→yN→yH→yH→yO→yR→yM→yH→yN→yD→yVS→yVS→yN→yN→yR→yN→yH→yVS→yN→yH→yN→yH→yN→yVS→yH→yH→yN→yH→yN→yVS→yH→yH→yN→yH→yH→yR→yM→yH→yN→yIS→yVS→yN→yN→yR→yN→yH→yN→yH→ySL→yAS→yR→yH→yN→yN→yN→yN→yR→yM→yH→yN→ySL→yR→yN→yH→yH→yN→yVS→yH→yVS→yN→yH→yN→yH→yH→yN→yN→yN→yN→yR→yM→yH→yN→yVS→yN→yR→Prop) (vA1.W 0) (vA1.N 0) (vA1.VS 0) (vA1.IS 0) (vA1.N 1) (vA1.I 0) (vA1.N 2) (vA1.R 0) (vA1.LS 0) (vA1.mean 0) (vA1.M 0) (vA1.M 1) (vA1.N 3) (vA1.N 4) (vA1.cn 0) (vA1.cs 0) (vA1.N 5) (vA1.V 0) (vA1.cl 0) (vA1.outer 0) (vA1.A 0) (vA1.H 0) (vA1.H 1) (vA1.N 6) (vA1.M 2) (vA1.s 0) (vA1.Q 0) (vA1.Q 1) (vA1.H 2) (vA1.N 7) (vA1.H 3) (vA1.N 8) (vA1.O 0) (vA3.N 0) (vA3.H 0) (vA3.H 1) (vA3.N 1) (vA3.H 2) (vA3.N 2) (vA3.H 3) (vA3.N 3) (vA3.H 4) (vA3.N 4) (vA3.H 5) (vA3.H 6) (vA3.O 0) (vA3.R 0) (vA3.M 0) (vA3.H 7) (vA3.N 5) (vA3.D 0) (vA3.VS 0) (vA3.VS 1) (vA3.N 6) (vA3.N 7) (vA3.R 1) (vA5.N 0) (vA5.H 0) (vA5.VS 0) (vA5.N 1) (vA5.H 1) (vA5.N 2) (vA5.H 2) (vA7.N 0) (vA7.VS 0) (vA7.H 0) (vA7.H 1) (vA7.N 1) (vA7.H 2) (vA7.N 2) (vA7.VS 1) (vA7.H 3) (vA7.H 4) (vA7.N 3) (vA7.H 5) (vA7.H 6) (vA7.R 0) (vA7.M 0) (vA7.H 7) (vA7.N 4) (vA7.IS 0) (vA7.VS 2) (vA7.N 5) (vA7.N 6) (vA7.R 1) (vA9.N 0) (vA9.H 0) (vA9.N 1) (vA9.H 1) (vA9.SL 0) (vA9.AS 0) (vA9.R 0) (vA11.H 0) (vA11.N 0) (vA11.N 1) (vA11.N 2) (vA11.N 3) (vA11.R 0) (vA11.M 0) (vA11.H 1) (vA11.N 4) (vA11.SL 0) (vA11.R 1) (vA21.N 0) (vA21.H 0) (vA21.H 1) (vA21.N 1) (vA21.VS 0) (vA21.H 2) (vA21.VS 1) (vA21.N 2) (vA21.H 3) (vA21.N 3) (vA21.H 4)), fun hPA22 hPA23 => ?main⟩
  case main =>
    intro hmN hiN hlN0 hlN hn0 hs0 hs1 qz23 qz25 qz27 qz28 hret B' X' T' l1 good ring prs len run' wcl hW wh n9 hb hovs hacc hal hRl htl prsB oldB hs hZ4 zE zO lRw hWR qz214 lRv hRr prsZ F9 hys N9 o9' hyn hy9
    generalize vA1.W 0 = w, vA1.N 0 = aN, vA1.VS 0 = vN, vA1.IS 0 = ns, vA1.N 1 = nN, vA1.I 0 = sp, vA1.N 2 = ts, vA1.R 0 = news, vA1.LS 0 = qz1, vA1.mean 0 = qz2, vA1.M 0 = qz3, vA1.M 1 = qz4, vA1.N 3 = qz5, vA1.N 4 = qz6, vA1.cn 0 = qz7, vA1.cs 0 = qz8, vA1.N 5 = aA13, vA1.V 0 = qz10, vA1.cl 0 = qz11, vA1.outer 0 = qz12, vA1.A 0 = qz13, vA1.H 0 = qz14, vA1.H 1 = qz15, vA1.N 6 = qz16, vA1.M 2 = qz17, vA1.s 0 = qz18, vA1.Q 0 = qz19, vA1.Q 1 = qz20, vA1.H 2 = g', vA1.N 7 = L', vA1.H 3 = h', vA1.N 8 = tk', vA1.O 0 = oC0, vA3.N 0 = aR, vA3.H 0 = qz36, vA3.H 1 = qz37, vA3.N 1 = D1, vA3.H 2 = qz38, vA3.N 2 = D2, vA3.H 3 = qz39, vA3.N 3 = D3, vA3.H 4 = qz40, vA3.N 4 = aP, vA3.H 5 = qz41, vA3.H 6 = qz42, vA3.O 0 = oC, vA3.R 0 = rest0, vA3.M 0 = u, vA3.H 7 = h, vA3.N 5 = tk, vA3.D 0 = d, vA3.VS 0 = rvs, vA3.VS 1 = pvs, vA3.N 6 = nR, vA3.N 7 = nP, vA3.R 1 = rest, vA5.N 0 = qz46, vA5.H 0 = qz47, vA5.VS 0 = ys, vA5.N 1 = D9, vA5.H 1 = qz49, vA5.N 2 = tk9, vA5.H 2 = h9, vA7.N 0 = aW, vA7.VS 0 = wW, vA7.H 0 = qz63, vA7.H 1 = qz67, vA7.N 1 = qz68, vA7.H 2 = qz69, vA7.N 2 = aV, vA7.VS 1 = wV, vA7.H 3 = qz71, vA7.H 4 = qz73, vA7.N 3 = aO, vA7.H 5 = qz74, vA7.H 6 = qz75, vA7.R 0 = B, vA7.M 0 = u, vA7.H 7 = h, vA7.N 4 = tk, vA7.IS 0 = acc, vA7.VS 2 = ovs, vA7.N 5 = oa, vA7.N 6 = nO, vA7.R 1 = B2, vA9.N 0 = D9, vA9.H 0 = qz79, vA9.N 1 = tk9, vA9.H 1 = h9, vA9.SL 0 = sl, vA9.AS 0 = ts', vA9.R 0 = Z, vA11.H 0 = qz90, vA11.N 0 = qz91, vA11.N 1 = qz92, vA11.N 2 = qz93, vA11.N 3 = qz94, vA11.R 0 = B3, vA11.M 0 = u, vA11.H 1 = h, vA11.N 4 = tk, vA11.SL 0 = sl, vA11.R 1 = Z4, vA21.N 0 = aRw, vA21.H 0 = qz209, vA21.H 1 = qz212, vA21.N 1 = aRv, vA21.VS 0 = wR, vA21.H 2 = qz213, vA21.VS 1 = ys, vA21.N 2 = D9b, vA21.H 3 = qz215, vA21.N 3 = tk9, vA21.H 4 = h9 at *
    k_steps
    rename Fr _ _ _ _ => F6
    rename News _ _ _ _ => N6
    rename IsRange _ _ _ _ _ _ _ _ => R6
    obtain ⟨S0, hS0⟩ : ∃ S0, S0 = (D9b, LCg.lst ys) :: (aRv, W.listOf wR.toArray 0) :: Z4 := ⟨_, rfl⟩
    have mY : (D9b, ({ cls := .type "list", data := .seq ys.toArray ys.length } : Obj)) ∈ S0 := by rw [hS0]; exact .head _
    have ZS : ∀ p ∈ Z4, p ∈ S0 := fun p hp => by rw [hS0]; exact .tail _ (.tail _ hp)
    have oS0 : ∀ p ∈ S0, p.1 ≠ aRw := by
      rw [hS0]
      exact off_cons (fun e => o9' _ (.tail _ (.head _)) e.symm) (off_cons (Nat.ne_of_gt lRv.1) fun p hp => Nat.ne_of_lt (lRw p hp))
    have N7 : News _ _ _ ((aRw, ({ cls := .type "list", data := .seq ([] : List Value).toArray 0 } : Obj)) :: S0) := fun p hp => N6 p (by
      rw [hS0] at hp
      simp only [List.mem_cons] at hp ⊢
      rcases hp with h | h | h | h
      · exact .inr (.inr (.inl h))
      · exact .inl h
      · exact .inr (.inl h)
      · exact .inr (.inr (.inr h)))
    have hYs : ∀ (j : Nat) (v : Value), ys[j]? = some v → PairAt S0 v (pAt d.ps (d.m.ring.reverse.getD j 0)) := fun j v e => (hys j v e).mono ZS
    have hrr : ∀ j, j < d.m.ring.length → d.m.ring.reverse.getD j 0 ∈ d.m.ring := fun j hj => List.mem_reverse.mp (by
      have h' : j < d.m.ring.reverse.length := by rw [List.length_reverse]; exact hj
      rw [List.getD_eq_getElem?_getD, List.getElem?_eq_getElem h']; exact List.getElem_mem h')
    (try clear N6)
    (try clear hS0)
    (try clear hys)
    refine halt_out ?_
    refine range_inv (n := d.m.ring.length) (st := [Str.ofString "i", Str.ofString "other", Str.ofString "entry"]) (RowJ d aRw S0) (by rfl) R6 (range_smallG (by lia) (by lia) (by lia)) ((range_sizeG (by lia)).trans (by lia)) F6 N7 ⟨[], 0, S0, rfl, RowsAt.nil, oS0, fun _ h => h⟩ ?_ ?_
    · intro i t u nw h tk I oI hi hJ920 hcl hne F3 N3
      refine hideG fun nG => ?_
      obtain ⟨rvs2, nR2, S, rfl, hrows, hoff, hold⟩ := hJ920
      (try clear F6)
      (try clear N7)
      (try clear R6)
      have mY2 := hold _ mY
      refine nG ?_
      (try clear nG)
      rename_i qz216 qz217 qz218 qz219 qz220 qz221 qz222 qz223 qz224 qz225
      revert hmN hiN hlN0 hlN hn0 hs0 hs1 qz23 qz25 qz27 qz28 hret B' X' T' l1 good len n9 qz216 hyn hy9 mY hYs hrr hi F3 hrows hoff hold hne N3 mY2
      exact hPA22 qz220 qz221 qz222 qz223 qz224 S0 i t u h tk I oI rvs2 nR2 S
    · intro u nw h tk hJ922 F3 N3
      refine hideG fun nG => ?_
      obtain ⟨rvs2, nR2, S, rfl, hrows, hoff, hold⟩ := hJ922
      (try clear F6)
      (try clear N7)
      (try clear R6)
      refine nG ?_
      (try clear nG)
      rename_i qz226 qz227 qz228 qz229 qz230 qz231 qz232 qz233 qz234 qz235
      revert hmN hiN hlN0 hlN hn0 hs0 hs1 qz23 qz25 qz27 qz28 hret B' X' T' l1 good ring prs len run' wcl hW wh n9 hb hovs hacc hal hRl htl prsB oldB hs hZ4 zE zO qz226 qz214 hRr prsZ hyn qz229 ZS hYs hrr F3 hrows hold N3
      exact hPA23 qz230 qz231 qz232 qz233 qz234 S0 u h tk rvs2 nR2 S
noncomputable def pA22 (v : Vars) : Prop := ktA21.1.1 (v.H 0) (v.N 0) (v.N 1) (v.N 2) (v.N 3) (v.R 0) (v.N 4) (v.N 5) (v.M 0) (v.H 1) (v.N 6) (v.N 7) (v.O 0) (v.VS 0) (v.N 8) (v.R 1)
@[irreducible] noncomputable def vA22 : Vars := hk pA22
noncomputable def ktA22 : {P : (yN→yH→yM→yH→yN→yN→yO→yN→yVS→yN→yR→yN→yN→yN→yN→yN→yN→yN→yN→yI→yI→yI→yI→Prop) × (yN→yH→yM→yH→yN→yVS→yN→yR→Prop) // (∀ x1 x2 x3 x4 x5 x6 x7 x8 x9 x10 x11 x12 x13 x14 x15 x16 x17 x18 x19 x20 x21 x22 x23, P.1 x1 x2 x3 x4 x5 x6 x7 x8 x9 x10 x11 x12 x13 x14 x15 x16 x17 x18 x19 x20 x21 x22 x23) → (∀ x1 x2 x3 x4 x5 x6 x7 x8, P.2 x1 x2 x3 x4 x5 x6 x7 x8) → pA22 vA22} := by
  refine' ⟨((_ : yW→yN→yVS→yIS→yN→yI→yN→yR→yLS→ymean→yM→yM→yN→yN→ycn→ycs→yN→yV→ycl→youter→yA→yH→yH→yN→yM→ys→yQ→yQ→yH→yN→yH→yN→yO→yN→yH→yH→yN→yH→yN→yH→yN→yH→yN→yH→yH→yO→yR→yM→yH→yN→yD→yVS→yVS→yN→yN→yR→yN→yH→yVS→yN→yH→yN→yH→yN→yVS→yH→yH→yN→yH→yN→yVS→yH→yH→yN→yH→yH→yR→yM→yH→yN→yIS→yVS→yN→yN→yR→yN→yH→yN→yH→ySL→yAS→yR→yH→yN→yN→yN→yN→yR→yM→yH→yN→ySL→yR→yN→yH→yH→yN→yVS→yH→yVS→yN→yH→yN→yH→yH→yN→yN→yN→yN→yR→yN→yN→yM→yH→yN→yN→yO→yVS→yN→yR→yN→yH→yM→yH→yN→yN→yO→yN→yVS→yN→yR→yN→yN→yN→yN→yN→yN→yN→yN→yI→yI→yI→yI→Prop) (vA1.W 0) (vA1.N 0) (vA1.VS 0) (vA1.IS 0) (vA1.N 1) (vA1.I 0) (vA1.N 2) (vA1.R 0) (vA1.LS 0) (vA1.mean 0) (vA1.M 0) (vA1.M 1) (vA1.N 3) (vA1.N 4) (vA1.cn 0) (vA1.cs 0) (vA1.N 5) (vA1.V 0) (vA1.cl 0) (vA1.outer 0) (vA1.A 0) (vA1.H 0) (vA1.H 1) (vA1.N 6) (vA1.M 2) (vA1.s 0) (vA1.Q 0) (vA1.Q 1) (vA1.H 2) (vA1.N 7) (vA1.H 3) (vA1.N 8) (vA1.O 0) (vA3.N 0) (vA3.H 0) (vA3.H 1) (vA3.N 1) (vA3.H 2) (vA3.N 2) (vA3.H 3) (vA3.N 3) (vA3.H 4) (vA3.N 4) (vA3.H 5) (vA3.H 6) (vA3.O 0) (vA3.R 0) (vA3.M 0) (vA3.H 7) (vA3.N 5) (vA3.D 0) (vA3.VS 0) (vA3.VS 1) (vA3.N 6) (vA3.N 7) (vA3.R 1) (vA5.N 0) (vA5.H 0) (vA5.VS 0) (vA5.N 1) (vA5.H 1) (vA5.N 2) (vA5.H 2) (vA7.N 0) (vA7.VS 0) (vA7.H 0) (vA7.H 1) (vA7.N 1) (vA7.H 2) (vA7.N 2) (vA7.VS 1) (vA7.H 3) (vA7.H 4) (vA7.N 3) (vA7.H 5) (vA7.H 6) (vA7.R 0) (vA7.M 0) (vA7.H 7) (vA7.N 4) (vA7.IS 0) (vA7.VS 2) (vA7.N 5) (vA7.N 6) (vA7.R 1) (vA9.N 0) (vA9.H 0) (vA9.N 1) (vA9.H 1) (vA9.SL 0) (vA9.AS 0) (vA9.R 0) (vA11.H 0) (vA11.N 0) (vA11.N 1) (vA11.N 2) (vA11.N 3) (vA11.R 0) (vA11.M 0) (vA11.H 1) (vA11.N 4) (vA11.SL 0) (vA11.R 1) (vA21.N 0) (vA21.H 0) (vA21.H 1) (vA21.N 1) (vA21.VS 0) (vA21.H 2) (vA21.VS 1) (vA21.N 2) (vA21.H 3) (vA21.N 3) (vA21.H 4) (vA22.H 0) (vA22.N 0) (vA22.N 1) (vA22.N 2) (vA22.N 3) (vA22.R 0) (vA22.N 4) (vA22.N 5) (vA22.M 0) (vA22.H 1) (vA22.N 6) (vA22.N 7) (vA22.O 0) (vA22.VS 0) (vA22.N 8) (vA22.R 1), (_ : yW→yN→yVS→yIS→yN→yI→yN→yR→yLS→ymean→yM→yM→yN→yN→ycn→ycs→yN→yV→ycl→youter→yA→yH→yH→yN→yM→ys→yQ→yQ→yH→yN→yH→yN→yO→yN→yH→yH→yN→yH→yN→yH→yN→yH→yN→yH→yH→yO→yR→yM→yH→yN→yD→yVS→yVS→yN→yN→yR→yN→yH→yVS→yN→yH→yN→yH→yN→yVS→yH→yH→yN→yH→yN→yVS→yH→yH→yN→yH→yH→yR→yM→yH→yN→yIS→yVS→yN→yN→yR→yN→yH→yN→yH→ySL→yAS→yR→yH→yN→yN→yN→yN→yR→yM→yH→yN→ySL→yR→yN→yH→yH→yN→yVS→yH→yVS→yN→yH→yN→yH→yH→yN→yN→yN→yN→yR→yN→yN→yM→yH→yN→yN→yO→yVS→yN→yR→yN→yH→yM→yH→yN→yVS→yN→yR→Prop) (vA1.W 0) (vA1.N 0) (vA1.VS 0) (vA1.IS 0) (vA1.N 1) (vA1.I 0) (vA1.N 2) (vA1.R 0) (vA1.LS 0) (vA1.mean 0) (vA1.M 0) (vA1.M 1) (vA1.N 3) (vA1.N 4) (vA1.cn 0) (vA1.cs 0) (vA1.N 5) (vA1.V 0) (vA1.cl 0) (vA1.outer 0) (vA1.A 0) (vA1.H 0) (vA1.H 1) (vA1.N 6) (vA1.M 2) (vA1.s 0) (vA1.Q 0) (vA1.Q 1) (vA1.H 2) (vA1.N 7) (vA1.H 3) (vA1.N 8) (vA1.O 0) (vA3.N 0) (vA3.H 0) (vA3.H 1) (vA3.N 1) (vA3.H 2) (vA3.N 2) (vA3.H 3) (vA3.N 3) (vA3.H 4) (vA3.N 4) (vA3.H 5) (vA3.H 6) (vA3.O 0) (vA3.R 0) (vA3.M 0) (vA3.H 7) (vA3.N 5) (vA3.D 0) (vA3.VS 0) (vA3.VS 1) (vA3.N 6) (vA3.N 7) (vA3.R 1) (vA5.N 0) (vA5.H 0) (vA5.VS 0) (vA5.N 1) (vA5.H 1) (vA5.N 2) (vA5.H 2) (vA7.N 0) (vA7.VS 0) (vA7.H 0) (vA7.H 1) (vA7.N 1) (vA7.H 2) (vA7.N 2) (vA7.VS 1) (vA7.H 3) (vA7.H 4) (vA7.N 3) (vA7.H 5) (vA7.H 6) (vA7.R 0) (vA7.M 0) (vA7.H 7) (vA7.N 4) (vA7.IS 0) (vA7.VS 2) (vA7.N 5) (vA7.N 6) (vA7.R 1) (vA9.N 0) (vA9.H 0) (vA9.N 1) (vA9.H 1) (vA9.SL 0) (vA9.AS 0) (vA9.R 0) (vA11.H 0) (vA11.N 0) (vA11.N 1) (vA11.N 2) (vA11.N 3) (vA11.R 0) (vA11.M 0) (vA11.H 1) (vA11.N 4) (vA11.SL 0) (vA11.R 1) (vA21.N 0) (vA21.H 0) (vA21.H 1) (vA21.N 1) (vA21.VS 0) (vA21.H 2) (vA21.VS 1) (vA21.N 2) (vA21.H 3) (vA21.N 3) (vA21.H 4) (vA22.H 0) (vA22.N 0) (vA22.N 1) (vA22.N 2) (vA22.N 3) (vA22.R 0) (vA22.N 4) (vA22.N 5) (vA22.M 0) (vA22.H 1) (vA22.N 6) (vA22.N 7) (vA22.O 0) (vA22.VS 0) (vA22.N 8) (vA22.R 1)), fun hPA25 hPA24 => ?main⟩
  case main =>
    intro hmN hiN hlN0 hlN hn0 hs0 hs1 qz23 qz25 qz27 qz28 hret B' X' T' l1 good len n9 qz216 hyn hy9 mY hYs hrr hi F3 hrows hoff hold hne N3 mY2
    generalize vA1.W 0 = w, vA1.N 0 = aN, vA1.VS 0 = vN, vA1.IS 0 = ns, vA1.N 1 = nN, vA1.I 0 = sp, vA1.N 2 = ts, vA1.R 0 = news, vA1.LS 0 = qz1, vA1.mean 0 = qz2, vA1.M 0 = qz3, vA1.M 1 = qz4, vA1.N 3 = qz5, vA1.N 4 = qz6, vA1.cn 0 = qz7, vA1.cs 0 = qz8, vA1.N 5 = aA13, vA1.V 0 = qz10, vA1.cl 0 = qz11, vA1.outer 0 = qz12, vA1.A 0 = qz13, vA1.H 0 = qz14, vA1.H 1 = qz15, vA1.N 6 = qz16, vA1.M 2 = qz17, vA1.s 0 = qz18, vA1.Q 0 = qz19, vA1.Q 1 = qz20, vA1.H 2 = g', vA1.N 7 = L', vA1.H 3 = h', vA1.N 8 = tk', vA1.O 0 = oC0, vA3.N 0 = aR, vA3.H 0 = qz36, vA3.H 1 = qz37, vA3.N 1 = D1, vA3.H 2 = qz38, vA3.N 2 = D2, vA3.H 3 = qz39, vA3.N 3 = D3, vA3.H 4 = qz40, vA3.N 4 = aP, vA3.H 5 = qz41, vA3.H 6 = qz42, vA3.O 0 = oC, vA3.R 0 = rest0, vA3.M 0 = u, vA3.H 7 = h, vA3.N 5 = tk, vA3.D 0 = d, vA3.VS 0 = rvs, vA3.VS 1 = pvs, vA3.N 6 = nR, vA3.N 7 = nP, vA3.R 1 = rest, vA5.N 0 = qz46, vA5.H 0 = qz47, vA5.VS 0 = ys, vA5.N 1 = D9, vA5.H 1 = qz49, vA5.N 2 = tk9, vA5.H 2 = h9, vA7.N 0 = aW, vA7.VS 0 = wW, vA7.H 0 = qz63, vA7.H 1 = qz67, vA7.N 1 = qz68, vA7.H 2 = qz69, vA7.N 2 = aV, vA7.VS 1 = wV, vA7.H 3 = qz71, vA7.H 4 = qz73, vA7.N 3 = aO, vA7.H 5 = qz74, vA7.H 6 = qz75, vA7.R 0 = B, vA7.M 0 = u, vA7.H 7 = h, vA7.N 4 = tk, vA7.IS 0 = acc, vA7.VS 2 = ovs, vA7.N 5 = oa, vA7.N 6 = nO, vA7.R 1 = B2, vA9.N 0 = D9, vA9.H 0 = qz79, vA9.N 1 = tk9, vA9.H 1 = h9, vA9.SL 0 = sl, vA9.AS 0 = ts', vA9.R 0 = Z, vA11.H 0 = qz90, vA11.N 0 = qz91, vA11.N 1 = qz92, vA11.N 2 = qz93, vA11.N 3 = qz94, vA11.R 0 = B3, vA11.M 0 = u, vA11.H 1 = h, vA11.N 4 = tk, vA11.SL 0 = sl, vA11.R 1 = Z4, vA21.N 0 = aRw, vA21.H 0 = qz209, vA21.H 1 = qz212, vA21.N 1 = aRv, vA21.VS 0 = wR, vA21.H 2 = qz213, vA21.VS 1 = ys, vA21.N 2 = D9b, vA21.H 3 = qz215, vA21.N 3 = tk9, vA21.H 4 = h9, vA22.H 0 = qz220, vA22.N 0 = qz221, vA22.N 1 = qz222, vA22.N 2 = qz223, vA22.N 3 = qz224, vA22.R 0 = S0, vA22.N 4 = i, vA22.N 5 = t, vA22.M 0 = u, vA22.H 1 = h, vA22.N 6 = tk, vA22.N 7 = I, vA22.O 0 = oI, vA22.VS 0 = rvs2, vA22.N 8 = nR2, vA22.R 1 = S at *
    k_steps
    rename Fr _ _ _ _ => F4
    rename News _ _ _ _ => N4
    with_unfolding_all refine slice_from_at (s := ⟨_, _, _, _, _⟩) (i := i + 1) F4 N4 (.tail _ (.tail _ mY2)) (by lia) (by lia) hy9 ?_
    intro aS h4 F5 N5 lS
    (try clear F4)
    (try clear N4)
    have IRw : I ≠ aRw := fun e => hne _ (.head _) e.symm
    have SRw : aS ≠ aRw := Nat.ne_of_gt (lS _ (.tail _ (.head _)))
    have SI : aS ≠ I := Nat.ne_of_gt (lS _ (.head _))
    have SS : ∀ p ∈ S, p.1 ≠ aS := fun p hp => Nat.ne_of_lt (lS p (.tail _ (.tail _ hp)))
    k_steps
    rename Fr _ _ _ _ => F6
    rename News _ _ _ _ => N6
    have N7 : News _ _ _ ((aRw, ({ cls := .type "list", data := .seq rvs2.toArray nR2 } : Obj)) :: (aS, ({ cls := .type "list", data := .seq (ys.drop (i + 1)).toArray } : Obj)) :: (I, oI) :: S) := fun p hp => N6 p (by
      simp only [List.mem_cons] at hp ⊢
      rcases hp with h | h | h | h
      · exact .inr (.inr (.inl h))
      · exact .inl h
      · exact .inr (.inl h)
      · exact .inr (.inr (.inr h)))
    refine halt_out ?_
    refine list_inv (vs := ys.drop (i + 1)) (st := [Str.ofString "other", Str.ofString "entry"]) (RowJ2 d ys i aRw aS I oI S0) (by rfl) F6 N7 (.tail _ (.head _)) rfl rfl ⟨0, rvs2, nR2, S, rfl, rfl, hi, (List.append_nil _).symm ▸ hrows, hoff, fun p hp => hne p (.tail _ hp), SS, hold⟩ ?keep9 ?_ ?_
    case keep9 =>
      rintro r u nw ⟨k, rvs2, nR2, S, rfl, _⟩
      exact .tail _ (.head _)
    · rintro v r u nw h tk I2 oI2 ⟨k, rvs2, nR2, S, rfl, er, hk, hrows, hoff, hoffI, hoffS, hold⟩ hcl2 hne2 F8 N8
      (try clear F6)
      (try clear N7)
      have hj : i + 1 + k < d.m.ring.length := by
        have q := congrArg List.length er
        rw [List.length_cons, List.length_drop] at q; lia
      have hjy : i + 1 + k < ys.length := by lia
      rw [List.drop_eq_getElem_cons hjy] at er
      obtain ⟨rfl, rfl⟩ := List.cons.inj er
      obtain ⟨Tj, nj, qj1, qj2, evj, hTj⟩ := hYs (i + 1 + k) _ (List.getElem?_eq_getElem hjy)
      have hiy9 : i < ys.length := by lia
      obtain ⟨Ti, ni, qi1, qi2, evi, hTi⟩ := hYs i _ (List.getElem?_eq_getElem hiy9)
      rw [evj] at *
      have i0 : 0 ≤ 0 + (i : Int) := by lia
      have i1 : 0 + (i : Int) < 2 ^ 20 := by lia
      have i2 : ys[(0 + (i : Int)).toNat]? = some (.ref Ti) := by
        have : (0 + (i : Int)).toNat = i := by lia
        rw [this, List.getElem?_eq_getElem (by lia), evi]
      (try clear evi)
      (try clear evj)
      (try clear er)
      have mY3 : (D9b, ({ cls := .type "list", data := .seq ys.toArray ys.length } : Obj)) ∈ S := hold _ mY
      have hTi := hold _ hTi
      have hTj := hold _ hTj
      have pl := good.pl
      have p64 := pow_le64 (n := d.m.ring.length) (by lia)
      have ri := good.good.rng _ (hrr i (by lia))
      have rj := good.good.rng _ (hrr (i + 1 + k) hj)
      have bi := good.pb _ (pAt_mem (ps := d.ps) (i := d.m.ring.reverse.getD i 0) (by lia))
      have bj := good.pb _ (pAt_mem (ps := d.ps) (i := d.m.ring.reverse.getD (i + 1 + k) 0) (by lia))
      obtain ⟨xi, hxi⟩ : ∃ x, x = (pAt d.ps (d.m.ring.reverse.getD i 0)).1 := ⟨_, rfl⟩
      obtain ⟨yi, hyi⟩ : ∃ x, x = (pAt d.ps (d.m.ring.reverse.getD i 0)).2 := ⟨_, rfl⟩
      obtain ⟨xj, hxj⟩ : ∃ x, x = (pAt d.ps (d.m.ring.reverse.getD (i + 1 + k) 0)).1 := ⟨_, rfl⟩
      obtain ⟨yj, hyj⟩ : ∃ x, x = (pAt d.ps (d.m.ring.reverse.getD (i + 1 + k) 0)).2 := ⟨_, rfl⟩
      rw [← hxi, ← hyi] at hTi bi
      rw [← hxj, ← hyj] at hTj bj
      have ba1 : xi.natAbs < 1000 := by lia
      have ba2 : yi.natAbs < 1000 := by lia
      have bb1 : xj.natAbs < 1000 := by lia
      have bb2 : yj.natAbs < 1000 := by lia
      have eE : entA (pAt d.ps (d.m.ring.reverse.getD i 0)) (pAt d.ps (d.m.ring.reverse.getD (i + 1 + k) 0)) = ((xi * yj - yi * xj).natAbs : Int) := by rw [hxi, hyi, hxj, hyj]; rfl
      (try clear bi)
      (try clear bj)
      (try clear p64)
      (try clear ri)
      (try clear rj)
      (try clear hxi)
      (try clear hyi)
      (try clear hxj)
      (try clear hyj)
      have qI : I2 ≠ aRw := fun e => hne2 _ (.head _) e.symm
      have szR : rvs2.toArray.size ≤ sizeLine := by
        have l1 := gRows_len (fun i j => entA (pAt d.ps (d.m.ring.reverse.getD i 0)) (pAt d.ps (d.m.ring.reverse.getD j 0))) d.m.ring.length i
        have l2 : i * d.m.ring.length ≤ 9 * 9 := Nat.mul_le_mul (by lia) n9
        rw [List.size_toArray, PySem.sizeLine_eq, hrows.1, List.length_append, gRow_len]
        lia
      rename_i qz239 qz240 qz241 qz242 qz243
      revert hmN hiN hlN0 hlN hn0 hs0 hs1 qz23 qz25 qz27 qz28 hret B' X' T' l1 qz216 IRw SRw hk hrows hoff hoffI hoffS hold hne2 F8 N8 hj hjy hiy9 i0 i1 i2 mY3 hTi hTj ba1 ba2 bb1 bb2 eE qI szR
      exact hPA25 aS h4 u h tk I2 oI2 k rvs2 nR2 S Tj nj qj1 qj2 Ti ni qi1 qi2 xi yi xj yj
    · intro u nw h tk hJ921 F8 N8
      refine hideG fun nG => ?_
      obtain ⟨k, rvs2, nR2, S, rfl, er, hk, hrows, hoff, hoffI, hoffS, hold⟩ := hJ921
      (try clear F6)
      (try clear N7)
      have hkn : k = d.m.ring.length - (i + 1) := by
        have q := congrArg List.length er
        rw [List.length_nil, List.length_drop] at q; lia
      subst hkn
      refine nG ?_
      (try clear nG)
      rename_i qz236 qz237 qz238
      revert hmN hiN hlN0 hlN hn0 hs0 hs1 qz23 qz25 qz27 qz28 hret B' X' T' l1 IRw SRw SI F8 hoff hoffI hold N8 hrows
      exact hPA24 aS h4 u h tk rvs2 nR2 S
noncomputable def pA25 (v : Vars) : Prop := ktA22.1.1 (v.N 0) (v.H 0) (v.M 0) (v.H 1) (v.N 1) (v.N 2) (v.O 0) (v.N 3) (v.VS 0) (v.N 4) (v.R 0) (v.N 5) (v.N 6) (v.N 7) (v.N 8) (v.N 9) (v.N 10) (v.N 11) (v.N 12) (v.I 0) (v.I 1) (v.I 2) (v.I 3)
@[irreducible] noncomputable def vA25 : Vars := hk pA25
theorem tA25 : pA25 vA25 := by
  intro hmN hiN hlN0 hlN hn0 hs0 hs1 qz23 qz25 qz27 qz28 hret B' X' T' l1 qz216 IRw SRw hk hrows hoff hoffI hoffS hold hne2 F8 N8 hj hjy hiy9 i0 i1 i2 mY3 hTi hTj ba1 ba2 bb1 bb2 eE qI szR
  generalize vA1.W 0 = w, vA1.N 0 = aN, vA1.VS 0 = vN, vA1.IS 0 = ns, vA1.N 1 = nN, vA1.I 0 = sp, vA1.N 2 = ts, vA1.R 0 = news, vA1.LS 0 = qz1, vA1.mean 0 = qz2, vA1.M 0 = qz3, vA1.M 1 = qz4, vA1.N 3 = qz5, vA1.N 4 = qz6, vA1.cn 0 = qz7, vA1.cs 0 = qz8, vA1.N 5 = aA13, vA1.V 0 = qz10, vA1.cl 0 = qz11, vA1.outer 0 = qz12, vA1.A 0 = qz13, vA1.H 0 = qz14, vA1.H 1 = qz15, vA1.N 6 = qz16, vA1.M 2 = qz17, vA1.s 0 = qz18, vA1.Q 0 = qz19, vA1.Q 1 = qz20, vA1.H 2 = g', vA1.N 7 = L', vA1.H 3 = h', vA1.N 8 = tk', vA1.O 0 = oC0, vA3.N 0 = aR, vA3.H 0 = qz36, vA3.H 1 = qz37, vA3.N 1 = D1, vA3.H 2 = qz38, vA3.N 2 = D2, vA3.H 3 = qz39, vA3.N 3 = D3, vA3.H 4 = qz40, vA3.N 4 = aP, vA3.H 5 = qz41, vA3.H 6 = qz42, vA3.O 0 = oC, vA3.R 0 = rest0, vA3.M 0 = u, vA3.H 7 = h, vA3.N 5 = tk, vA3.D 0 = d, vA3.VS 0 = rvs, vA3.VS 1 = pvs, vA3.N 6 = nR, vA3.N 7 = nP, vA3.R 1 = rest, vA5.N 0 = qz46, vA5.H 0 = qz47, vA5.VS 0 = ys, vA5.N 1 = D9, vA5.H 1 = qz49, vA5.N 2 = tk9, vA5.H 2 = h9, vA7.N 0 = aW, vA7.VS 0 = wW, vA7.H 0 = qz63, vA7.H 1 = qz67, vA7.N 1 = qz68, vA7.H 2 = qz69, vA7.N 2 = aV, vA7.VS 1 = wV, vA7.H 3 = qz71, vA7.H 4 = qz73, vA7.N 3 = aO, vA7.H 5 = qz74, vA7.H 6 = qz75, vA7.R 0 = B, vA7.M 0 = u, vA7.H 7 = h, vA7.N 4 = tk, vA7.IS 0 = acc, vA7.VS 2 = ovs, vA7.N 5 = oa, vA7.N 6 = nO, vA7.R 1 = B2, vA9.N 0 = D9, vA9.H 0 = qz79, vA9.N 1 = tk9, vA9.H 1 = h9, vA9.SL 0 = sl, vA9.AS 0 = ts', vA9.R 0 = Z, vA11.H 0 = qz90, vA11.N 0 = qz91, vA11.N 1 = qz92, vA11.N 2 = qz93, vA11.N 3 = qz94, vA11.R 0 = B3, vA11.M 0 = u, vA11.H 1 = h, vA11.N 4 = tk, vA11.SL 0 = sl, vA11.R 1 = Z4, vA21.N 0 = aRw, vA21.H 0 = qz209, vA21.H 1 = qz212, vA21.N 1 = aRv, vA21.VS 0 = wR, vA21.H 2 = qz213, vA21.VS 1 = ys, vA21.N 2 = D9b, vA21.H 3 = qz215, vA21.N 3 = tk9, vA21.H 4 = h9, vA22.H 0 = qz220, vA22.N 0 = qz221, vA22.N 1 = qz222, vA22.N 2 = qz223, vA22.N 3 = qz224, vA22.R 0 = S0, vA22.N 4 = i, vA22.N 5 = t, vA22.M 0 = u, vA22.H 1 = h, vA22.N 6 = tk, vA22.N 7 = I, vA22.O 0 = oI, vA22.VS 0 = rvs2, vA22.N 8 = nR2, vA22.R 1 = S, vA25.N 0 = aS, vA25.H 0 = h4, vA25.M 0 = u, vA25.H 1 = h, vA25.N 1 = tk, vA25.N 2 = I2, vA25.O 0 = oI2, vA25.N 3 = k, vA25.VS 0 = rvs2, vA25.N 4 = nR2, vA25.R 0 = S, vA25.N 5 = Tj, vA25.N 6 = nj, vA25.N 7 = qj1, vA25.N 8 = qj2, vA25.N 9 = Ti, vA25.N 10 = ni, vA25.N 11 = qi1, vA25.N 12 = qi2, vA25.I 0 = xi, vA25.I 1 = yi, vA25.I 2 = xj, vA25.I 3 = yj at *
  k_steps
  all_goals ((try simp only [List.cons_append, List.nil_append]); k_steps)
  rename Fr _ _ _ _ => F9
  rename News _ _ _ _ => N9
  have eb : (((xi * yj - yi * xj).natAbs : Int).fmod 2 == 0) = decide (((xi * yj - yi * xj).natAbs : Int) % 2 = 0) := by rw [Int.fmod_eq_emod_of_nonneg _ (by decide)]; rfl
  rw [eb, ← eE] at N9
  refine TEnd.mk F9 N9 _ sub6 ?off ?hm ⟨k + 1, _, _, _, rfl, rfl, by lia, ?rows, ?o2, ?o3, ?o4, fun p hp => .tail _ (hold p hp)⟩
  case off => exact off_cons (hne2 _ (.head _)) (off_cons (hne2 _ (.tail _ (.head _))) (off_cons (hne2 _ (.tail _ (.tail _ (.head _)))) (off_cons (by refine neN ?_; lia) fun p hp => hne2 p (.tail _ (.tail _ (.tail _ hp))))))
  case hm => repeat (first | exact off_base | refine off_if rfl ?_)
  case rows =>
    rw [gRow_succ, ← List.append_assoc, List.concat_eq_append]
    refine (hrows.mono fun p hp => .tail _ hp).snoc ?_
    exact ⟨_, _, _, rfl, .head _⟩
  case o2 => exact off_cons (by refine neN ?_; lia) hoff
  case o3 => exact off_cons (by refine neN ?_; lia) hoffI
  case o4 => exact off_cons (by refine neN ?_; lia) hoffS
theorem aA25 : ∀ v, pA25 v := hkv tA25 (by unfold vA25; rfl)
noncomputable def pA24 (v : Vars) : Prop := ktA22.1.2 (v.N 0) (v.H 0) (v.M 0) (v.H 1) (v.N 1) (v.VS 0) (v.N 2) (v.R 0)
@[irreducible] noncomputable def vA24 : Vars := hk pA24
theorem tA24 : pA24 vA24 := by
  intro hmN hiN hlN0 hlN hn0 hs0 hs1 qz23 qz25 qz27 qz28 hret B' X' T' l1 IRw SRw SI F8 hoff hoffI hold N8 hrows
  generalize vA1.W 0 = w, vA1.N 0 = aN, vA1.VS 0 = vN, vA1.IS 0 = ns, vA1.N 1 = nN, vA1.I 0 = sp, vA1.N 2 = ts, vA1.R 0 = news, vA1.LS 0 = qz1, vA1.mean 0 = qz2, vA1.M 0 = qz3, vA1.M 1 = qz4, vA1.N 3 = qz5, vA1.N 4 = qz6, vA1.cn 0 = qz7, vA1.cs 0 = qz8, vA1.N 5 = aA13, vA1.V 0 = qz10, vA1.cl 0 = qz11, vA1.outer 0 = qz12, vA1.A 0 = qz13, vA1.H 0 = qz14, vA1.H 1 = qz15, vA1.N 6 = qz16, vA1.M 2 = qz17, vA1.s 0 = qz18, vA1.Q 0 = qz19, vA1.Q 1 = qz20, vA1.H 2 = g', vA1.N 7 = L', vA1.H 3 = h', vA1.N 8 = tk', vA1.O 0 = oC0, vA3.N 0 = aR, vA3.H 0 = qz36, vA3.H 1 = qz37, vA3.N 1 = D1, vA3.H 2 = qz38, vA3.N 2 = D2, vA3.H 3 = qz39, vA3.N 3 = D3, vA3.H 4 = qz40, vA3.N 4 = aP, vA3.H 5 = qz41, vA3.H 6 = qz42, vA3.O 0 = oC, vA3.R 0 = rest0, vA3.M 0 = u, vA3.H 7 = h, vA3.N 5 = tk, vA3.D 0 = d, vA3.VS 0 = rvs, vA3.VS 1 = pvs, vA3.N 6 = nR, vA3.N 7 = nP, vA3.R 1 = rest, vA5.N 0 = qz46, vA5.H 0 = qz47, vA5.VS 0 = ys, vA5.N 1 = D9, vA5.H 1 = qz49, vA5.N 2 = tk9, vA5.H 2 = h9, vA7.N 0 = aW, vA7.VS 0 = wW, vA7.H 0 = qz63, vA7.H 1 = qz67, vA7.N 1 = qz68, vA7.H 2 = qz69, vA7.N 2 = aV, vA7.VS 1 = wV, vA7.H 3 = qz71, vA7.H 4 = qz73, vA7.N 3 = aO, vA7.H 5 = qz74, vA7.H 6 = qz75, vA7.R 0 = B, vA7.M 0 = u, vA7.H 7 = h, vA7.N 4 = tk, vA7.IS 0 = acc, vA7.VS 2 = ovs, vA7.N 5 = oa, vA7.N 6 = nO, vA7.R 1 = B2, vA9.N 0 = D9, vA9.H 0 = qz79, vA9.N 1 = tk9, vA9.H 1 = h9, vA9.SL 0 = sl, vA9.AS 0 = ts', vA9.R 0 = Z, vA11.H 0 = qz90, vA11.N 0 = qz91, vA11.N 1 = qz92, vA11.N 2 = qz93, vA11.N 3 = qz94, vA11.R 0 = B3, vA11.M 0 = u, vA11.H 1 = h, vA11.N 4 = tk, vA11.SL 0 = sl, vA11.R 1 = Z4, vA21.N 0 = aRw, vA21.H 0 = qz209, vA21.H 1 = qz212, vA21.N 1 = aRv, vA21.VS 0 = wR, vA21.H 2 = qz213, vA21.VS 1 = ys, vA21.N 2 = D9b, vA21.H 3 = qz215, vA21.N 3 = tk9, vA21.H 4 = h9, vA22.H 0 = qz220, vA22.N 0 = qz221, vA22.N 1 = qz222, vA22.N 2 = qz223, vA22.N 3 = qz224, vA22.R 0 = S0, vA22.N 4 = i, vA22.N 5 = t, vA22.M 0 = u, vA22.H 1 = h, vA22.N 6 = tk, vA22.N 7 = I, vA22.O 0 = oI, vA22.VS 0 = rvs2, vA22.N 8 = nR2, vA22.R 1 = S, vA24.N 0 = aS, vA24.H 0 = h4, vA24.M 0 = u, vA24.H 1 = h, vA24.N 1 = tk, vA24.VS 0 = rvs2, vA24.N 2 = nR2, vA24.R 0 = S at *
  k_steps
  refine TEnd.mk (by assumption) (by assumption) ((aRw, ({ cls := .type "list", data := .seq rvs2.toArray nR2 } : Obj)) :: (aS, ({ cls := .type "list", data := .seq (ys.drop (i + 1)).toArray } : Obj)) :: S) rot3 (off_cons IRw.symm (off_cons SI hoffI)) (off_in (fun z hz => by (simp only [List.contains_cons, Bool.or_eq_false_iff] at hz ⊢; simp only [hz, and_self])) (by repeat (first | exact off_base | refine off_if rfl ?_))) ⟨rvs2, nR2, _, rfl, ?_, off_cons SRw hoff, fun p hp => .tail _ (hold p hp)⟩
  rw [gRows_succ]
  exact hrows.mono fun p hp => .tail _ hp
theorem aA24 : ∀ v, pA24 v := hkv tA24 (by unfold vA24; rfl)
theorem tA22 : pA22 vA22 := ktA22.2 (fun x1 x2 x3 x4 x5 x6 x7 x8 x9 x10 x11 x12 x13 x14 x15 x16 x17 x18 x19 x20 x21 x22 x23 => aA25 {d0v with H := sl x2 [x4], N := sl x1 [x5, x6, x8, x10, x12, x13, x14, x15, x16, x17, x18, x19], O := sl x7 [], VS := sl x9 [], I := sl x20 [x21, x22, x23], M := sl x3 [], R := sl x11 []}) (fun x1 x2 x3 x4 x5 x6 x7 x8 => aA24 {d0v with H := sl x2 [x4], N := sl x1 [x5, x7], VS := sl x6 [], M := sl x3 [], R := sl x8 []})
theorem aA22 : ∀ v, pA22 v := hkv tA22 (by unfold vA22; rfl)
noncomputable def pA23 (v : Vars) : Prop := ktA21.1.2 (v.H 0) (v.N 0) (v.N 1) (v.N 2) (v.N 3) (v.R 0) (v.M 0) (v.H 1) (v.N 4) (v.VS 0) (v.N 5) (v.R 1)
@[irreducible] noncomputable def vA23 : Vars := hk pA23
noncomputable def ktA23 : {P : (yH→yN→yN→yR→yN→yVS→yN→yO→yN→yM→yH→yN→yR→yAS→yQ→yR→yN→yN→yO→yKV→yN→yN→yN→yN→yN→yE→yR→Prop) × (yH→yN→yN→yR→yVS→yN→yH→yN→yH→yR→yR→Prop) // (∀ x1 x2 x3 x4 x5 x6 x7 x8 x9 x10 x11 x12 x13 x14 x15 x16 x17 x18 x19 x20 x21 x22 x23 x24 x25 x26 x27, P.1 x1 x2 x3 x4 x5 x6 x7 x8 x9 x10 x11 x12 x13 x14 x15 x16 x17 x18 x19 x20 x21 x22 x23 x24 x25 x26 x27) → (∀ x1 x2 x3 x4 x5 x6 x7 x8 x9 x10 x11, P.2 x1 x2 x3 x4 x5 x6 x7 x8 x9 x10 x11) → pA23 vA23} := by
  refine' ⟨((_ : yW→yN→yVS→yIS→yN→yI→yN→yR→yLS→ymean→yM→yM→yN→yN→ycn→ycs→yN→yV→ycl→youter→yA→yH→yH→yN→yM→ys→yQ→yQ→yH→yN→yH→yN→yO→yN→yH→yH→yN→yH→yN→yH→yN→yH→yN→yH→yH→yO→yR→yM→yH→yN→yD→yVS→yVS→yN→yN→yR→yN→yH→yVS→yN→yH→yN→yH→yN→yVS→yH→yH→yN→yH→yN→yVS→yH→yH→yN→yH→yH→yR→yM→yH→yN→yIS→yVS→yN→yN→yR→yN→yH→yN→yH→ySL→yAS→yR→yH→yN→yN→yN→yN→yR→yM→yH→yN→ySL→yR→yN→yH→yH→yN→yVS→yH→yVS→yN→yH→yN→yH→yH→yN→yN→yN→yN→yR→yM→yH→yN→yVS→yN→yR→yH→yN→yN→yR→yN→yVS→yN→yO→yN→yM→yH→yN→yR→yAS→yQ→yR→yN→yN→yO→yKV→yN→yN→yN→yN→yN→yE→yR→Prop) (vA1.W 0) (vA1.N 0) (vA1.VS 0) (vA1.IS 0) (vA1.N 1) (vA1.I 0) (vA1.N 2) (vA1.R 0) (vA1.LS 0) (vA1.mean 0) (vA1.M 0) (vA1.M 1) (vA1.N 3) (vA1.N 4) (vA1.cn 0) (vA1.cs 0) (vA1.N 5) (vA1.V 0) (vA1.cl 0) (vA1.outer 0) (vA1.A 0) (vA1.H 0) (vA1.H 1) (vA1.N 6) (vA1.M 2) (vA1.s 0) (vA1.Q 0) (vA1.Q 1) (vA1.H 2) (vA1.N 7) (vA1.H 3) (vA1.N 8) (vA1.O 0) (vA3.N 0) (vA3.H 0) (vA3.H 1) (vA3.N 1) (vA3.H 2) (vA3.N 2) (vA3.H 3) (vA3.N 3) (vA3.H 4) (vA3.N 4) (vA3.H 5) (vA3.H 6) (vA3.O 0) (vA3.R 0) (vA3.M 0) (vA3.H 7) (vA3.N 5) (vA3.D 0) (vA3.VS 0) (vA3.VS 1) (vA3.N 6) (vA3.N 7) (vA3.R 1) (vA5.N 0) (vA5.H 0) (vA5.VS 0) (vA5.N 1) (vA5.H 1) (vA5.N 2) (vA5.H 2) (vA7.N 0) (vA7.VS 0) (vA7.H 0) (vA7.H 1) (vA7.N 1) (vA7.H 2) (vA7.N 2) (vA7.VS 1) (vA7.H 3) (vA7.H 4) (vA7.N 3) (vA7.H 5) (vA7.H 6) (vA7.R 0) (vA7.M 0) (vA7.H 7) (vA7.N 4) (vA7.IS 0) (vA7.VS 2) (vA7.N 5) (vA7.N 6) (vA7.R 1) (vA9.N 0) (vA9.H 0) (vA9.N 1) (vA9.H 1) (vA9.SL 0) (vA9.AS 0) (vA9.R 0) (vA11.H 0) (vA11.N 0) (vA11.N 1) (vA11.N 2) (vA11.N 3) (vA11.R 0) (vA11.M 0) (vA11.H 1) (vA11.N 4) (vA11.SL 0) (vA11.R 1) (vA21.N 0) (vA21.H 0) (vA21.H 1) (vA21.N 1) (vA21.VS 0) (vA21.H 2) (vA21.VS 1) (vA21.N 2) (vA21.H 3) (vA21.N 3) (vA21.H 4) (vA23.H 0) (vA23.N 0) (vA23.N 1) (vA23.N 2) (vA23.N 3) (vA23.R 0) (vA23.M 0) (vA23.H 1) (vA23.N 4) (vA23.VS 0) (vA23.N 5) (vA23.R 1), (_ : yW→yN→yVS→yIS→yN→yI→yN→yR→yLS→ymean→yM→yM→yN→yN→ycn→ycs→yN→yV→ycl→youter→yA→yH→yH→yN→yM→ys→yQ→yQ→yH→yN→yH→yN→yO→yN→yH→yH→yN→yH→yN→yH→yN→yH→yN→yH→yH→yO→yR→yM→yH→yN→yD→yVS→yVS→yN→yN→yR→yN→yH→yVS→yN→yH→yN→yH→yN→yVS→yH→yH→yN→yH→yN→yVS→yH→yH→yN→yH→yH→yR→yM→yH→yN→yIS→yVS→yN→yN→yR→yN→yH→yN→yH→ySL→yAS→yR→yH→yN→yN→yN→yN→yR→yM→yH→yN→ySL→yR→yN→yH→yH→yN→yVS→yH→yVS→yN→yH→yN→yH→yH→yN→yN→yN→yN→yR→yM→yH→yN→yVS→yN→yR→yH→yN→yN→yR→yVS→yN→yH→yN→yH→yR→yR→Prop) (vA1.W 0) (vA1.N 0) (vA1.VS 0) (vA1.IS 0) (vA1.N 1) (vA1.I 0) (vA1.N 2) (vA1.R 0) (vA1.LS 0) (vA1.mean 0) (vA1.M 0) (vA1.M 1) (vA1.N 3) (vA1.N 4) (vA1.cn 0) (vA1.cs 0) (vA1.N 5) (vA1.V 0) (vA1.cl 0) (vA1.outer 0) (vA1.A 0) (vA1.H 0) (vA1.H 1) (vA1.N 6) (vA1.M 2) (vA1.s 0) (vA1.Q 0) (vA1.Q 1) (vA1.H 2) (vA1.N 7) (vA1.H 3) (vA1.N 8) (vA1.O 0) (vA3.N 0) (vA3.H 0) (vA3.H 1) (vA3.N 1) (vA3.H 2) (vA3.N 2) (vA3.H 3) (vA3.N 3) (vA3.H 4) (vA3.N 4) (vA3.H 5) (vA3.H 6) (vA3.O 0) (vA3.R 0) (vA3.M 0) (vA3.H 7) (vA3.N 5) (vA3.D 0) (vA3.VS 0) (vA3.VS 1) (vA3.N 6) (vA3.N 7) (vA3.R 1) (vA5.N 0) (vA5.H 0) (vA5.VS 0) (vA5.N 1) (vA5.H 1) (vA5.N 2) (vA5.H 2) (vA7.N 0) (vA7.VS 0) (vA7.H 0) (vA7.H 1) (vA7.N 1) (vA7.H 2) (vA7.N 2) (vA7.VS 1) (vA7.H 3) (vA7.H 4) (vA7.N 3) (vA7.H 5) (vA7.H 6) (vA7.R 0) (vA7.M 0) (vA7.H 7) (vA7.N 4) (vA7.IS 0) (vA7.VS 2) (vA7.N 5) (vA7.N 6) (vA7.R 1) (vA9.N 0) (vA9.H 0) (vA9.N 1) (vA9.H 1) (vA9.SL 0) (vA9.AS 0) (vA9.R 0) (vA11.H 0) (vA11.N 0) (vA11.N 1) (vA11.N 2) (vA11.N 3) (vA11.R 0) (vA11.M 0) (vA11.H 1) (vA11.N 4) (vA11.SL 0) (vA11.R 1) (vA21.N 0) (vA21.H 0) (vA21.H 1) (vA21.N 1) (vA21.VS 0) (vA21.H 2) (vA21.VS 1) (vA21.N 2) (vA21.H 3) (vA21.N 3) (vA21.H 4) (vA23.H 0) (vA23.N 0) (vA23.N 1) (vA23.N 2) (vA23.N 3) (vA23.R 0) (vA23.M 0) (vA23.H 1) (vA23.N 4) (vA23.VS 0) (vA23.N 5) (vA23.R 1)), fun hPA26 hPA27 => ?main⟩
  case main =>
    intro hmN hiN hlN0 hlN hn0 hs0 hs1 qz23 qz25 qz27 qz28 hret B' X' T' l1 good ring prs len run' wcl hW wh n9 hb hovs hacc hal hRl htl prsB oldB hs hZ4 zE zO qz226 qz214 hRr prsZ hyn qz229 ZS hYs hrr F3 hrows hold N3
    generalize vA1.W 0 = w, vA1.N 0 = aN, vA1.VS 0 = vN, vA1.IS 0 = ns, vA1.N 1 = nN, vA1.I 0 = sp, vA1.N 2 = ts, vA1.R 0 = news, vA1.LS 0 = qz1, vA1.mean 0 = qz2, vA1.M 0 = qz3, vA1.M 1 = qz4, vA1.N 3 = qz5, vA1.N 4 = qz6, vA1.cn 0 = qz7, vA1.cs 0 = qz8, vA1.N 5 = aA13, vA1.V 0 = qz10, vA1.cl 0 = qz11, vA1.outer 0 = qz12, vA1.A 0 = qz13, vA1.H 0 = qz14, vA1.H 1 = qz15, vA1.N 6 = qz16, vA1.M 2 = qz17, vA1.s 0 = qz18, vA1.Q 0 = qz19, vA1.Q 1 = qz20, vA1.H 2 = g', vA1.N 7 = L', vA1.H 3 = h', vA1.N 8 = tk', vA1.O 0 = oC0, vA3.N 0 = aR, vA3.H 0 = qz36, vA3.H 1 = qz37, vA3.N 1 = D1, vA3.H 2 = qz38, vA3.N 2 = D2, vA3.H 3 = qz39, vA3.N 3 = D3, vA3.H 4 = qz40, vA3.N 4 = aP, vA3.H 5 = qz41, vA3.H 6 = qz42, vA3.O 0 = oC, vA3.R 0 = rest0, vA3.M 0 = u, vA3.H 7 = h, vA3.N 5 = tk, vA3.D 0 = d, vA3.VS 0 = rvs, vA3.VS 1 = pvs, vA3.N 6 = nR, vA3.N 7 = nP, vA3.R 1 = rest, vA5.N 0 = qz46, vA5.H 0 = qz47, vA5.VS 0 = ys, vA5.N 1 = D9, vA5.H 1 = qz49, vA5.N 2 = tk9, vA5.H 2 = h9, vA7.N 0 = aW, vA7.VS 0 = wW, vA7.H 0 = qz63, vA7.H 1 = qz67, vA7.N 1 = qz68, vA7.H 2 = qz69, vA7.N 2 = aV, vA7.VS 1 = wV, vA7.H 3 = qz71, vA7.H 4 = qz73, vA7.N 3 = aO, vA7.H 5 = qz74, vA7.H 6 = qz75, vA7.R 0 = B, vA7.M 0 = u, vA7.H 7 = h, vA7.N 4 = tk, vA7.IS 0 = acc, vA7.VS 2 = ovs, vA7.N 5 = oa, vA7.N 6 = nO, vA7.R 1 = B2, vA9.N 0 = D9, vA9.H 0 = qz79, vA9.N 1 = tk9, vA9.H 1 = h9, vA9.SL 0 = sl, vA9.AS 0 = ts', vA9.R 0 = Z, vA11.H 0 = qz90, vA11.N 0 = qz91, vA11.N 1 = qz92, vA11.N 2 = qz93, vA11.N 3 = qz94, vA11.R 0 = B3, vA11.M 0 = u, vA11.H 1 = h, vA11.N 4 = tk, vA11.SL 0 = sl, vA11.R 1 = Z4, vA21.N 0 = aRw, vA21.H 0 = qz209, vA21.H 1 = qz212, vA21.N 1 = aRv, vA21.VS 0 = wR, vA21.H 2 = qz213, vA21.VS 1 = ys, vA21.N 2 = D9b, vA21.H 3 = qz215, vA21.N 3 = tk9, vA21.H 4 = h9, vA23.H 0 = qz230, vA23.N 0 = qz231, vA23.N 1 = qz232, vA23.N 2 = qz233, vA23.N 3 = qz234, vA23.R 0 = S0, vA23.M 0 = u, vA23.H 1 = h, vA23.N 4 = tk, vA23.VS 0 = rvs2, vA23.N 5 = nR2, vA23.R 1 = S at *
    k_steps
    rename Fr _ _ _ _ => F9
    rename News _ _ _ _ => N9
    have zS : ∀ p ∈ Z4, p ∈ S := fun p hp => hold p (ZS p hp)
    have sO := zS _ zO
    have sE := zS _ zE
    refine KBa.make_K F9 N9 (by rfl) ⟨_, (N9 _ (.tail _ sO)).1, rfl, nO, rfl⟩ hovs hb (by lia) ?_
    intro h10 t10 k10 F10 N10 _
    (try clear F9)
    (try clear N9)
    obtain ⟨Y0, hY0⟩ : ∃ Y0, Y0 = (aRw, ({ cls := .type "list", data := .seq rvs2.toArray nR2 } : Obj)) :: S := ⟨_, rfl⟩
    rw [← hY0] at N10
    have sY : ∀ p ∈ S, p ∈ Y0 := fun p hp => by rw [hY0]; exact .tail _ hp
    have yE := sY _ sE
    have yW : (aRw, ({ cls := .type "list", data := .seq rvs2.toArray nR2 } : Obj)) ∈ Y0 := by rw [hY0]; exact .head _
    have cY : ∀ p ∈ chunk sl ++ B3, p ∈ Y0 := fun p hp => sY p (zS p (by rw [hZ4]; exact hp))
    k_steps
    refine halt_out ?_
    k_dflt (refine comp_list (vs := ts'.map Value.ref) (by rfl) (by rfl) (by rfl) (by k_asm) (by k_asm) yE (by rw [PySem.sizeLine_eq, List.length_map]; lia) (fun (ys : List Value) nw => ∃ tl : List (Addr × Obj), nw = tl ++ Y0 ∧ ∀ (j : Nat) (v : Value), ys[j]? = some v → ∃ e, (foldC sp ns d (List.replicate d.m.ring.length Ent.zero) d.m.ring.length)[j]? = some e ∧ EntAt w (tl ++ Y0) v e) ⟨[], rfl, fun j v e => by simp at e⟩ ?_ ?_)
    · intro i v₁ ys2 nw hv1 hyl2 C oC3 D cm h tk own wr E' hJ923 hC hcm off hCD hwo hown F' N'
      refine hideG fun nG => ?_
      obtain ⟨tl, rfl, hJ⟩ := hJ923
      have hi2 : i < ts'.length := by
        have q := (List.getElem?_eq_some_iff.mp hv1).1
        rwa [List.length_map] at q
      obtain ⟨⟨qt, qd, qo, qkvs, qn, q1, q2, q3, q4, qe⟩, R5, hq1, hq2, hok, htd, hin, hR, hoff5, hput⟩ := hs.pick hi2
      dsimp only at hq1 hq2 hin
      have hv : v₁ = .ref qt := by
        rw [List.getElem?_map, hq1] at hv1
        exact (Option.some.inj hv1).symm
      subst hv
      have qY1 := cY _ (hin _ (.head _))
      have qY2 := cY _ (hin _ (.tail _ (.head _)))
      have qN1 : (qt, ({ cls := .type "list", data := .seq #[.int qe.cc q1, .int qe.nc q2, .int qe.tt q3, .int qe.ct q4, .ref qd] qn } : Obj)) ∈ (C, oC3) :: (D, LCg.lst ys2) :: (own ++ (tl ++ Y0)) := List.Mem.tail _ (List.Mem.tail _ (List.mem_append_right own (List.mem_append_right tl qY1)))
      (try clear hput)
      refine nG ?_
      (try clear nG)
      rename_i qz244
      revert hmN hiN hlN0 hlN hn0 hs0 hs1 qz23 qz25 qz27 qz28 hret B' X' T' l1 hyl2 hC hwo F' hJ off N' hq2 hok hcm qY2 qN1
      exact hPA26 h10 t10 k10 Y0 i ys2 C oC3 D cm h tk own wr E' tl qt qd qo qkvs qn q1 q2 q3 q4 qe R5
    · intro s₂ ys3 nw hJ924 hyl3 hJ925 D9c h9c tk9c F9 N9 o9c
      refine hideG fun nG => ?_
      obtain ⟨h9, rfl⟩ := hJ924
      obtain ⟨tl, rfl, hJ⟩ := hJ925
      obtain ⟨X0, hX0⟩ : ∃ X0, X0 = (D9c, LCg.lst ys3) :: (tl ++ Y0) := ⟨_, rfl⟩
      rw [← hX0] at N9
      have XE : (D9c, ({ cls := .type "list", data := .seq ys3.toArray ys3.length } : Obj)) ∈ X0 := by rw [hX0]; exact .head _
      have YX : ∀ p ∈ Y0, p ∈ X0 := fun p hp => by rw [hX0]; exact .tail _ (List.mem_append_right _ hp)
      have xW := YX _ yW
      refine nG ?_
      (try clear nG)
      rename_i qz245
      revert hmN hiN hlN0 hlN hn0 hs0 hs1 qz23 qz25 qz27 qz28 hret B' X' T' l1 good ring prs len run' wcl hW wh n9 hb hovs hacc hal hRl htl prsB oldB hs qz226 qz214 hRr prsZ hyn qz229 hYs hrr hrows qz245 sY cY hyl3 F9 hJ N9 hX0 XE YX xW
      exact hPA27 h10 t10 k10 Y0 ys3 D9c h9c tk9c h9 tl X0
noncomputable def pA26 (v : Vars) : Prop := ktA23.1.1 (v.H 0) (v.N 0) (v.N 1) (v.R 0) (v.N 2) (v.VS 0) (v.N 3) (v.O 0) (v.N 4) (v.M 0) (v.H 1) (v.N 5) (v.R 1) (v.AS 0) (v.Q 0) (v.R 2) (v.N 6) (v.N 7) (v.O 1) (v.KV 0) (v.N 8) (v.N 9) (v.N 10) (v.N 11) (v.N 12) (v.E 0) (v.R 3)
@[irreducible] noncomputable def vA26 : Vars := hk pA26
theorem tA26 : pA26 vA26 := by
  intro hmN hiN hlN0 hlN hn0 hs0 hs1 qz23 qz25 qz27 qz28 hret B' X' T' l1 hyl2 hC hwo F' hJ off N' hq2 hok hcm qY2 qN1
  generalize vA1.W 0 = w, vA1.N 0 = aN, vA1.VS 0 = vN, vA1.IS 0 = ns, vA1.N 1 = nN, vA1.I 0 = sp, vA1.N 2 = ts, vA1.R 0 = news, vA1.LS 0 = qz1, vA1.mean 0 = qz2, vA1.M 0 = qz3, vA1.M 1 = qz4, vA1.N 3 = qz5, vA1.N 4 = qz6, vA1.cn 0 = qz7, vA1.cs 0 = qz8, vA1.N 5 = aA13, vA1.V 0 = qz10, vA1.cl 0 = qz11, vA1.outer 0 = qz12, vA1.A 0 = qz13, vA1.H 0 = qz14, vA1.H 1 = qz15, vA1.N 6 = qz16, vA1.M 2 = qz17, vA1.s 0 = qz18, vA1.Q 0 = qz19, vA1.Q 1 = qz20, vA1.H 2 = g', vA1.N 7 = L', vA1.H 3 = h', vA1.N 8 = tk', vA1.O 0 = oC0, vA3.N 0 = aR, vA3.H 0 = qz36, vA3.H 1 = qz37, vA3.N 1 = D1, vA3.H 2 = qz38, vA3.N 2 = D2, vA3.H 3 = qz39, vA3.N 3 = D3, vA3.H 4 = qz40, vA3.N 4 = aP, vA3.H 5 = qz41, vA3.H 6 = qz42, vA3.O 0 = oC, vA3.R 0 = rest0, vA3.M 0 = u, vA3.H 7 = h, vA3.N 5 = tk, vA3.D 0 = d, vA3.VS 0 = rvs, vA3.VS 1 = pvs, vA3.N 6 = nR, vA3.N 7 = nP, vA3.R 1 = rest, vA5.N 0 = qz46, vA5.H 0 = qz47, vA5.VS 0 = ys, vA5.N 1 = D9, vA5.H 1 = qz49, vA5.N 2 = tk9, vA5.H 2 = h9, vA7.N 0 = aW, vA7.VS 0 = wW, vA7.H 0 = qz63, vA7.H 1 = qz67, vA7.N 1 = qz68, vA7.H 2 = qz69, vA7.N 2 = aV, vA7.VS 1 = wV, vA7.H 3 = qz71, vA7.H 4 = qz73, vA7.N 3 = aO, vA7.H 5 = qz74, vA7.H 6 = qz75, vA7.R 0 = B, vA7.M 0 = u, vA7.H 7 = h, vA7.N 4 = tk, vA7.IS 0 = acc, vA7.VS 2 = ovs, vA7.N 5 = oa, vA7.N 6 = nO, vA7.R 1 = B2, vA9.N 0 = D9, vA9.H 0 = qz79, vA9.N 1 = tk9, vA9.H 1 = h9, vA9.SL 0 = sl, vA9.AS 0 = ts', vA9.R 0 = Z, vA11.H 0 = qz90, vA11.N 0 = qz91, vA11.N 1 = qz92, vA11.N 2 = qz93, vA11.N 3 = qz94, vA11.R 0 = B3, vA11.M 0 = u, vA11.H 1 = h, vA11.N 4 = tk, vA11.SL 0 = sl, vA11.R 1 = Z4, vA21.N 0 = aRw, vA21.H 0 = qz209, vA21.H 1 = qz212, vA21.N 1 = aRv, vA21.VS 0 = wR, vA21.H 2 = qz213, vA21.VS 1 = ys, vA21.N 2 = D9b, vA21.H 3 = qz215, vA21.N 3 = tk9, vA21.H 4 = h9, vA23.H 0 = qz230, vA23.N 0 = qz231, vA23.N 1 = qz232, vA23.N 2 = qz233, vA23.N 3 = qz234, vA23.R 0 = S0, vA23.M 0 = u, vA23.H 1 = h, vA23.N 4 = tk, vA23.VS 0 = rvs2, vA23.N 5 = nR2, vA23.R 1 = S, vA26.H 0 = h10, vA26.N 0 = t10, vA26.N 1 = k10, vA26.R 0 = Y0, vA26.N 2 = i, vA26.VS 0 = ys2, vA26.N 3 = C, vA26.O 0 = oC3, vA26.N 4 = D, vA26.M 0 = cm, vA26.H 1 = h, vA26.N 5 = tk, vA26.R 1 = own, vA26.AS 0 = wr, vA26.Q 0 = E', vA26.R 2 = tl, vA26.N 6 = qt, vA26.N 7 = qd, vA26.O 1 = qo, vA26.KV 0 = qkvs, vA26.N 8 = qn, vA26.N 9 = q1, vA26.N 10 = q2, vA26.N 11 = q3, vA26.N 12 = q4, vA26.E 0 = qe, vA26.R 3 = R5 at *
  k_steps
  rename_i aT _ F9 N9 lT
  have aT9 := all_of lT.2.2
  refine (show CEnd _ _ _ _ _ _ _ _ _ _ _ _ _ from ⟨_, _, (aT, _) :: tl ++ Y0, rfl, F9, fun p hp => N9 p (cend_sub2 p hp), fun p hp => ?_, (aT, _) :: tl, rfl, snoc_get (P := fun j u => ∃ e, (foldC sp ns d (List.replicate d.m.ring.length Ent.zero) d.m.ring.length)[j]? = some e ∧ EntAt w _ u e) (fun j u hu => ?_) ?_⟩)
  · rw [List.cons_append] at hp
    rcases List.mem_cons.mp hp with rfl | hp
    · exact ⟨Nat.ne_of_gt lT.1, Nat.ne_of_gt lT.2.1, fun hw => by
        obtain ⟨o, ho⟩ := hwo _ hw
        exact absurd (aT9 (aT, o) (List.mem_append_left _ ho)) (Nat.lt_irrefl _)⟩
    · exact off p hp
  · obtain ⟨e, e1, e2⟩ := hJ j u hu
    exact ⟨e, e1, e2.mono fun p hp => .tail _ hp⟩
  · rw [hyl2]
    exact ⟨qe, hq2, aT, qd, qo, qkvs, _, _, _, _, _, rfl, .head _, .tail _ (List.mem_append_right _ qY2), hok.lo, hok.di, hok.fl, hok.nd⟩
theorem aA26 : ∀ v, pA26 v := hkv tA26 (by unfold vA26; rfl)
noncomputable def pA27 (v : Vars) : Prop := ktA23.1.2 (v.H 0) (v.N 0) (v.N 1) (v.R 0) (v.VS 0) (v.N 2) (v.H 1) (v.N 3) (v.H 2) (v.R 1) (v.R 2)
@[irreducible] noncomputable def vA27 : Vars := hk pA27
theorem tA27 : pA27 vA27 := by
  intro hmN hiN hlN0 hlN hn0 hs0 hs1 qz23 qz25 qz27 qz28 hret B' X' T' l1 good ring prs len run' wcl hW wh n9 hb hovs hacc hal hRl htl prsB oldB hs qz226 qz214 hRr prsZ hyn qz229 hYs hrr hrows qz245 sY cY hyl3 F9 hJ N9 hX0 XE YX xW
  generalize vA1.W 0 = w, vA1.N 0 = aN, vA1.VS 0 = vN, vA1.IS 0 = ns, vA1.N 1 = nN, vA1.I 0 = sp, vA1.N 2 = ts, vA1.R 0 = news, vA1.LS 0 = qz1, vA1.mean 0 = qz2, vA1.M 0 = qz3, vA1.M 1 = qz4, vA1.N 3 = qz5, vA1.N 4 = qz6, vA1.cn 0 = qz7, vA1.cs 0 = qz8, vA1.N 5 = aA13, vA1.V 0 = qz10, vA1.cl 0 = qz11, vA1.outer 0 = qz12, vA1.A 0 = qz13, vA1.H 0 = qz14, vA1.H 1 = qz15, vA1.N 6 = qz16, vA1.M 2 = qz17, vA1.s 0 = qz18, vA1.Q 0 = qz19, vA1.Q 1 = qz20, vA1.H 2 = g', vA1.N 7 = L', vA1.H 3 = h', vA1.N 8 = tk', vA1.O 0 = oC0, vA3.N 0 = aR, vA3.H 0 = qz36, vA3.H 1 = qz37, vA3.N 1 = D1, vA3.H 2 = qz38, vA3.N 2 = D2, vA3.H 3 = qz39, vA3.N 3 = D3, vA3.H 4 = qz40, vA3.N 4 = aP, vA3.H 5 = qz41, vA3.H 6 = qz42, vA3.O 0 = oC, vA3.R 0 = rest0, vA3.M 0 = u, vA3.H 7 = h, vA3.N 5 = tk, vA3.D 0 = d, vA3.VS 0 = rvs, vA3.VS 1 = pvs, vA3.N 6 = nR, vA3.N 7 = nP, vA3.R 1 = rest, vA5.N 0 = qz46, vA5.H 0 = qz47, vA5.VS 0 = ys, vA5.N 1 = D9, vA5.H 1 = qz49, vA5.N 2 = tk9, vA5.H 2 = h9, vA7.N 0 = aW, vA7.VS 0 = wW, vA7.H 0 = qz63, vA7.H 1 = qz67, vA7.N 1 = qz68, vA7.H 2 = qz69, vA7.N 2 = aV, vA7.VS 1 = wV, vA7.H 3 = qz71, vA7.H 4 = qz73, vA7.N 3 = aO, vA7.H 5 = qz74, vA7.H 6 = qz75, vA7.R 0 = B, vA7.M 0 = u, vA7.H 7 = h, vA7.N 4 = tk, vA7.IS 0 = acc, vA7.VS 2 = ovs, vA7.N 5 = oa, vA7.N 6 = nO, vA7.R 1 = B2, vA9.N 0 = D9, vA9.H 0 = qz79, vA9.N 1 = tk9, vA9.H 1 = h9, vA9.SL 0 = sl, vA9.AS 0 = ts', vA9.R 0 = Z, vA11.H 0 = qz90, vA11.N 0 = qz91, vA11.N 1 = qz92, vA11.N 2 = qz93, vA11.N 3 = qz94, vA11.R 0 = B3, vA11.M 0 = u, vA11.H 1 = h, vA11.N 4 = tk, vA11.SL 0 = sl, vA11.R 1 = Z4, vA21.N 0 = aRw, vA21.H 0 = qz209, vA21.H 1 = qz212, vA21.N 1 = aRv, vA21.VS 0 = wR, vA21.H 2 = qz213, vA21.VS 1 = ys, vA21.N 2 = D9b, vA21.H 3 = qz215, vA21.N 3 = tk9, vA21.H 4 = h9, vA23.H 0 = qz230, vA23.N 0 = qz231, vA23.N 1 = qz232, vA23.N 2 = qz233, vA23.N 3 = qz234, vA23.R 0 = S0, vA23.M 0 = u, vA23.H 1 = h, vA23.N 4 = tk, vA23.VS 0 = rvs2, vA23.N 5 = nR2, vA23.R 1 = S, vA27.H 0 = h10, vA27.N 0 = t10, vA27.N 1 = k10, vA27.R 0 = Y0, vA27.VS 0 = ys3, vA27.N 2 = D9c, vA27.H 1 = h9c, vA27.N 3 = tk9c, vA27.H 2 = h9, vA27.R 1 = tl, vA27.R 2 = X0 at *
  k_steps
  rename Fr _ _ _ _ => F12
  rename News _ _ _ _ => N12
  subst hacc
  subst run'
  exact hret _ _ _ _ F12 N12 ⟨_, D9c, aRw, _, _, _, ys3, rvs2, _, rfl, .head _, .tail _ XE, .tail _ xW,
    ⟨by rw [hyl3, List.length_map, htl, foldC_len, List.length_replicate], fun i e v he hv => by
      obtain ⟨e', h1, h2⟩ := hJ i v hv
      rw [he] at h1
      cases h1
      exact h2.mono fun p hp => .tail _ (by rw [hX0]; exact .tail _ hp)⟩,
    hrows.mono fun p hp => .tail _ (YX p (sY p hp)), fun p hp => .tail _ (YX p (cY p (List.mem_append_right _ (oldB p hp))))⟩
theorem aA27 : ∀ v, pA27 v := hkv tA27 (by unfold vA27; rfl)
theorem tA23 : pA23 vA23 := ktA23.2 (fun x1 x2 x3 x4 x5 x6 x7 x8 x9 x10 x11 x12 x13 x14 x15 x16 x17 x18 x19 x20 x21 x22 x23 x24 x25 x26 x27 => aA26 {d0v with H := sl x1 [x11], N := sl x2 [x3, x5, x7, x9, x12, x17, x18, x21, x22, x23, x24, x25], O := sl x8 [x19], VS := sl x6 [], M := sl x10 [], KV := sl x20 [], E := sl x26 [], R := sl x4 [x13, x16, x27], Q := sl x15 [], AS := sl x14 []}) (fun x1 x2 x3 x4 x5 x6 x7 x8 x9 x10 x11 => aA27 {d0v with H := sl x1 [x7, x9], N := sl x2 [x3, x6, x8], VS := sl x5 [], R := sl x4 [x10, x11]})
theorem aA23 : ∀ v, pA23 v := hkv tA23 (by unfold vA23; rfl)
theorem tA21 : pA21 vA21 := ktA21.2 (fun x1 x2 x3 x4 x5 x6 x7 x8 x9 x10 x11 x12 x13 x14 x15 x16 => aA22 {d0v with H := sl x1 [x10], N := sl x2 [x3, x4, x5, x7, x8, x11, x12, x15], O := sl x13 [], VS := sl x14 [], M := sl x9 [], R := sl x6 [x16]}) (fun x1 x2 x3 x4 x5 x6 x7 x8 x9 x10 x11 x12 => aA23 {d0v with H := sl x1 [x8], N := sl x2 [x3, x4, x5, x9, x11], VS := sl x10 [], M := sl x7 [], R := sl x6 [x12]})
theorem aA21 : ∀ v, pA21 v := hkv tA21 (by unfold vA21; rfl)
theorem tA11 : pA11 vA11 := ktA11.2 (fun x1 x2 x3 x4 x5 x6 x7 x8 x9 x10 x11 x12 x13 x14 x15 x16 x17 x18 x19 x20 x21 x22 x23 => aA20 {d0v with H := sl x2 [x3, x6, x13], N := sl x1 [x4, x7, x9, x11, x14, x19, x20, x21, x22, x23], O := sl x10 [], VS := sl x5 [x8], I := sl x18 [], M := sl x12 [], R := sl x15 [], Q := sl x17 [], AS := sl x16 []}) (fun x1 x2 x3 x4 x5 x6 x7 x8 x9 x10 x11 => aA21 {d0v with H := sl x2 [x3, x6, x9, x11], N := sl x1 [x4, x8, x10], VS := sl x5 [x7]})
theorem aA11 : ∀ v, pA11 v := hkv tA11 (by unfold vA11; rfl)
theorem tA9 : pA9 vA9 := ktA9.2 (fun x1 x2 x3 x4 x5 x6 x7 x8 x9 x10 x11 x12 x13 x14 => aA10 {d0v with H := sl x1 [x10], N := sl x2 [x3, x4, x5, x7, x8, x11, x12], O := sl x13 [], M := sl x9 [], R := sl x6 [], SL := sl x14 []}) (fun x1 x2 x3 x4 x5 x6 x7 x8 x9 x10 x11 => aA11 {d0v with H := sl x1 [x8], N := sl x2 [x3, x4, x5, x9], M := sl x7 [], R := sl x6 [x11], SL := sl x10 []})
theorem aA9 : ∀ v, pA9 v := hkv tA9 (by unfold vA9; rfl)
theorem tA7 : pA7 vA7 := ktA7.2 (fun x1 x2 x3 x4 x5 x6 x7 x8 x9 x10 x11 x12 x13 => aA8 {d0v with H := sl x7 [], N := sl x1 [x3, x5, x8], O := sl x4 [], V := sl x2 [], M := sl x6 [], R := sl x9 [], Q := sl x11 [], AS := sl x10 [x13], SL := sl x12 []}) (fun x1 x2 x3 x4 x5 x6 x7 => aA9 {d0v with H := sl x2 [x4], N := sl x1 [x3], R := sl x7 [], AS := sl x6 [], SL := sl x5 []})
theorem aA7 : ∀ v, pA7 v := hkv tA7 (by unfold vA7; rfl)
theorem tA5 : pA5 vA5 := ktA5.2 (fun x1 x2 x3 x4 x5 x6 x7 x8 x9 x10 x11 x12 x13 x14 x15 x16 x17 x18 x19 x20 x21 x22 x23 x24 x25 x26 x27 x28 x29 x30 x31 x32 x33 x34 => aA6 {d0v with H := sl x3 [x4, x6, x9, x10, x12, x13, x17], N := sl x1 [x5, x7, x11, x18, x19, x23, x24, x26, x28, x29, x30, x31], O := sl x20 [], VS := sl x2 [x8, x15, x22], I := sl x25 [x33, x34], IS := sl x21 [x27, x32], M := sl x16 [], R := sl x14 []}) (fun x1 x2 x3 x4 x5 x6 x7 x8 x9 x10 x11 x12 x13 x14 x15 x16 x17 x18 x19 x20 x21 x22 => aA7 {d0v with H := sl x3 [x4, x6, x9, x10, x12, x13, x16], N := sl x1 [x5, x7, x11, x17, x20, x21], VS := sl x2 [x8, x19], IS := sl x18 [], M := sl x15 [], R := sl x14 [x22]})
theorem aA5 : ∀ v, pA5 v := hkv tA5 (by unfold vA5; rfl)
theorem tA3 : pA3 vA3 := ktA3.2 (fun x1 x2 x3 x4 x5 x6 x7 x8 x9 x10 x11 x12 x13 x14 x15 x16 => aA4 {d0v with H := sl x2 [x10], N := sl x1 [x3, x6, x8, x11, x16], O := sl x7 [], VS := sl x4 [], I := sl x15 [], M := sl x9 [], R := sl x5 [x12], Q := sl x14 [], AS := sl x13 []}) (fun x1 x2 x3 x4 x5 x6 x7 => aA5 {d0v with H := sl x2 [x5, x7], N := sl x1 [x4, x6], VS := sl x3 []})
theorem aA3 : ∀ v, pA3 v := hkv tA3 (by unfold vA3; rfl)
theorem tA1 : pA1 vA1 := ktA1.2 (fun x1 x2 x3 x4 x5 x6 x7 x8 x9 x10 x11 x12 x13 x14 x15 x16 x17 x18 x19 x20 x21 x22 x23 x24 x25 x26 x27 x28 x29 x30 x31 x32 x33 x34 x35 x36 x37 x38 x39 x40 x41 x42 => aA2 {d0v with H := sl x2 [x3, x5, x7, x9, x11, x12, x17], N := sl x1 [x4, x6, x8, x10, x18, x19, x24, x25, x28, x31, x32, x33, x34, x35, x36, x37, x38], O := sl x13 [x20], VS := sl x15 [x22, x23], I := sl x27 [x39, x40, x41, x42], IS := sl x29 [], M := sl x16 [], R := sl x14 [x26], D := sl x21 [], MO := sl x30 []}) (fun x1 x2 x3 x4 x5 x6 x7 x8 x9 x10 x11 x12 x13 x14 x15 x16 x17 x18 x19 x20 x21 x22 x23 => aA3 {d0v with H := sl x2 [x3, x5, x7, x9, x11, x12, x16], N := sl x1 [x4, x6, x8, x10, x17, x21, x22], O := sl x13 [], VS := sl x19 [x20], M := sl x15 [], R := sl x14 [x23], D := sl x18 []})
theorem aA1 : ∀ v, pA1 v := hkv tA1 (by unfold vA1; rfl)
theorem Tc139 : Sc139 := kTc139.2 (fun x1 x2 x3 x4 x5 x6 x7 x8 x9 x10 x11 x12 x13 x14 x15 x16 x17 x18 x19 x20 x21 x22 x23 x24 x25 x26 x27 x28 x29 x30 x31 x32 x33 => aA1 {d0v with W := sl x1 [], LS := sl x9 [], mean := sl x10 [], cn := sl x15 [], cs := sl x16 [], cl := sl x19 [], outer := sl x20 [], A := sl x21 [], s := sl x26 [], H := sl x22 [x23, x29, x31], N := sl x2 [x5, x7, x13, x14, x17, x24, x30, x32], O := sl x33 [], V := sl x18 [], VS := sl x3 [], I := sl x6 [], IS := sl x4 [], M := sl x11 [x12, x25], R := sl x8 [], Q := sl x27 [x28]})
theorem c139 : Sc139 := Tc139
end
noncomputable def det (p q : Int × Int) : Int := p.1 * q.2 - p.2 * q.1
theorem det_anti (p q : Int × Int) : det p q = - det q p := by unfold det; grind
theorem det_self (p : Int × Int) : det p p = 0 := by unfold det; grind
theorem det_add (x p q : Int × Int) : det x (p.1 + q.1, p.2 + q.2) = det x p + det x q := by unfold det; grind
theorem det_sub (x p q : Int × Int) : det x (p.1 - q.1, p.2 - q.2) = det x p - det x q := by unfold det; grind
theorem entA_det (p q : Int × Int) : entA p q = ((det p q).natAbs : Int) := rfl
noncomputable def rp (d : Du) (i : Nat) : Int × Int := pAt d.ps (d.m.ring.getD i 0)
noncomputable def ccAt (m : Mo) (v : Int) : Int := (m.es.getD v.toNat Ent.zero).cc
noncomputable def ccp (d : Du) (i : Nat) : Int := ccAt d.m (d.m.ring.getD i 0)
noncomputable def prd (d : Du) (p : Nat) : Int × Int := if p = 0 then (-(rp d (d.m.ring.length - 1)).1, -(rp d (d.m.ring.length - 1)).2) else rp d (p - 1)
noncomputable def suc (d : Du) (p : Nat) : Int × Int := if p + 1 = d.m.ring.length then (-(rp d 0).1, -(rp d 0).2) else rp d (p + 1)
structure Fz (d : Du) : Prop where
  pos : ∀ i j, i < j → j < d.m.ring.length → 1 ≤ det (rp d i) (rp d j)
  adj : ∀ i, i + 1 < d.m.ring.length → det (rp d i) (rp d (i + 1)) = 1
  cyc : det (rp d 0) (rp d (d.m.ring.length - 1)) = 1
  cnt : ∀ p, p < d.m.ring.length → ccp d p * (rp d p).1 = (prd d p).1 + (suc d p).1 ∧ ccp d p * (rp d p).2 = (prd d p).2 + (suc d p).2
  col : ∀ v ∈ d.m.ring, colP (pAt d.ps v) = (wcAt d.m v).2 ∧ ¬ ((pAt d.ps v).1 % 2 = 0 ∧ (pAt d.ps v).2 % 2 = 0)
  ccb : ∀ e ∈ d.m.es, 0 ≤ e.cc ∧ e.cc ≤ d.m.ring.length
theorem enterE_get (es : List Ent) {x y z w o : Int} (hxy : x.toNat ≠ y.toNat) (hyz : y.toNat ≠ z.toNat) (hxz : x.toNat ≠ z.toNat) (i : Nat) :
    (enterE es x y z w o)[i]? = (es[i]?).map fun e => if i = x.toNat then e.upd z y w o else if i = y.toNat then e.upd x z w o else if i = z.toNat then e.upd y x w o else e := by
  unfold enterE
  rw [List.getElem?_modify, List.getElem?_modify, List.getElem?_modify]
  cases es[i]? with
  | none => rfl
  | some e =>
    by_cases q1 : i = x.toNat
    · have q2 : ¬ y.toNat = i := by lia
      have q3 : ¬ z.toNat = i := by lia
      simp [q1.symm, q2, q3]
    · by_cases q2 : i = y.toNat
      · have q3 : ¬ z.toNat = i := by lia
        have q4 : ¬ x.toNat = i := by lia
        simp [q2.symm, q3, q4, q1]
      · by_cases q3 : i = z.toNat
        · have q4 : ¬ x.toNat = i := by lia
          have q5 : ¬ y.toNat = i := by lia
          simp [q3.symm, q4, q5, q1, q2]
        · have q4 : ¬ x.toNat = i := by lia
          have q5 : ¬ y.toNat = i := by lia
          have q6 : ¬ z.toNat = i := by lia
          simp [q4, q5, q6, q1, q2, q3]
theorem nd4 {x : Int} {p s K : Nat} (hp : p < K) (hs : s < K) (h : (x = 1 ∧ p ≤ s ∧ (p = s ∨ p = (s + 1) % K)) ∨ (x = -1 ∧ s < p ∧ (p = s ∨ p = (s + 1) % K)) ∨ (2 ≤ x ∧ p ≤ s ∧ ¬ (p = s ∨ p = (s + 1) % K)) ∨ (x ≤ -2 ∧ s < p ∧ ¬ (p = s ∨ p = (s + 1) % K))) :
    (p ≤ s → 1 ≤ x) ∧ (s < p → x ≤ -1) ∧ (p = s → x = 1) ∧ (p = s + 1 → x = -1) ∧ (s + 1 = K → p = 0 → x = 1) ∧ (x.natAbs = 1 ↔ (p = s ∨ p = (s + 1) % K)) := by
  have e1 : s + 1 < K → (s + 1) % K = s + 1 := Nat.mod_eq_of_lt
  have e2 : s + 1 = K → (s + 1) % K = 0 := fun h => by rw [h, Nat.mod_self]
  generalize (s + 1) % K = r at *
  have a : (p = s ∨ p = r) → p ≤ s → x = 1 := fun hh hl => by
    rcases h with h | h | h | h
    · exact h.1
    · exact absurd h.2.1 (Nat.not_lt.mpr hl)
    · exact absurd hh h.2.2
    · exact absurd hh h.2.2
  have b : (p = s ∨ p = r) → s < p → x = -1 := fun hh hl => by
    rcases h with h | h | h | h
    · exact absurd hl (Nat.not_lt.mpr h.2.1)
    · exact h.1
    · exact absurd hh h.2.2
    · exact absurd hh h.2.2
  refine ⟨fun q => ?_, fun q => ?_, fun q => a (.inl q) (Nat.le_of_eq q), fun q => b (.inr (q.trans (e1 (q ▸ hp)).symm)) (q ▸ Nat.lt_succ_self s), fun q q0 => a (.inr (q0.trans (e2 q).symm)) (q0 ▸ Nat.zero_le s), fun q => ?_, fun q => ?_⟩
  · rcases h with h | h | h | h
    · rw [h.1]; decide
    · exact absurd h.2.1 (Nat.not_lt.mpr q)
    · exact Int.le_trans (by decide) h.1
    · exact absurd h.2.1 (Nat.not_lt.mpr q)
  · rcases h with h | h | h | h
    · exact absurd q (Nat.not_lt.mpr h.2.1)
    · rw [h.1]; decide
    · exact absurd q (Nat.not_lt.mpr h.2.1)
    · exact Int.le_trans h.1 (by decide)
  · rcases h with h | h | h | h
    · exact h.2.2
    · exact h.2.2
    · exact absurd h.1 (by clear a b e1 e2 hp hs h; lia)
    · exact absurd h.1 (by clear a b e1 e2 hp hs h; lia)
  · rcases h with h | h | h | h
    · rw [h.1]; rfl
    · rw [h.1]; rfl
    · exact absurd q h.2.2
    · exact absurd q h.2.2
section
variable {d : Du} (G : GoodD d) (sp y : Int)
include G
theorem ring_step (i : Nat) : (stepD sp d y).m.ring.getD i 0 = if i < side d.m y + 1 then d.m.ring.getD i 0 else if i = side d.m y + 1 then (d.m.ring.length : Int) else d.m.ring.getD (i - 1) 0 := by
  have h1 := side_lt G.good y
  show (d.m.ring.insertIdx _ _).getD i 0 = _
  rw [List.getD_eq_getElem?_getD, List.getElem?_insertIdx]
  by_cases q1 : i < side d.m y + 1
  · rw [if_pos q1, if_pos q1, ← List.getD_eq_getElem?_getD]
  · rw [if_neg q1, if_neg q1]
    by_cases q2 : i = side d.m y + 1
    · rw [if_pos q2, if_pos q2, if_pos (by lia)]; rfl
    · rw [if_neg q2, if_neg q2, ← List.getD_eq_getElem?_getD]
theorem ring_len : (stepD sp d y).m.ring.length = d.m.ring.length + 1 := step_len sp G.good y
theorem ring_at {i : Nat} (h : i < d.m.ring.length) : d.m.ring.getD i 0 ∈ d.m.ring := by
  rw [List.getD_eq_getElem?_getD, List.getElem?_eq_getElem h]; simp
theorem ring_b {v : Int} (h : v ∈ d.m.ring) : 0 ≤ v ∧ v.toNat < d.m.ring.length := by
  have := G.good.rng v h; lia
theorem ring_inj {i j : Nat} (hi : i < d.m.ring.length) (hj : j < d.m.ring.length) (e : d.m.ring.getD i 0 = d.m.ring.getD j 0) : i = j := by
  rw [List.getD_eq_getElem?_getD, List.getElem?_eq_getElem hi, List.getD_eq_getElem?_getD, List.getElem?_eq_getElem hj] at e
  simp only [Option.getD_some] at e
  exact (List.getElem_inj G.good.nodup).mp e
theorem pAt_old {v : Int} (h : v ∈ d.m.ring) : pAt (stepD sp d y).ps v = pAt d.ps v := by
  have := ring_b G h
  show (d.ps ++ _).getD v.toNat (0, 0) = d.ps.getD v.toNat (0, 0)
  rw [List.getD_eq_getElem?_getD, List.getElem?_append_left (by rw [G.pl]; lia), ← List.getD_eq_getElem?_getD]
theorem pAt_new : pAt (stepD sp d y).ps (d.m.ring.length : Int) = pnew d y := by
  show (d.ps ++ [_]).getD _ (0, 0) = _
  rw [List.getD_eq_getElem?_getD, List.getElem?_append_right (by rw [G.pl]; lia)]
  simp [G.pl]
theorem wc_old {v : Int} (h : v ∈ d.m.ring) : wcAt (stepD sp d y).m v = wcAt d.m v := by
  have := ring_b G h
  show (d.m.wc ++ _).getD v.toNat (0, 0) = d.m.wc.getD v.toNat (0, 0)
  rw [List.getD_eq_getElem?_getD, List.getElem?_append_left (by rw [G.good.wl]; lia), ← List.getD_eq_getElem?_getD]
theorem wc_new : wcAt (stepD sp d y).m (d.m.ring.length : Int) = (wnew y, cnew d.m y) := by
  show (d.m.wc ++ [_]).getD _ (0, 0) = _
  rw [List.getD_eq_getElem?_getD, List.getElem?_append_right (by rw [G.good.wl]; lia)]
  simp [G.good.wl]
theorem rp_step (i : Nat) (hi : i < d.m.ring.length + 1) : rp (stepD sp d y) i = if i < side d.m y + 1 then rp d i else if i = side d.m y + 1 then pnew d y else rp d (i - 1) := by
  have h1 := side_lt G.good y
  unfold rp
  rw [ring_step G sp y i]
  by_cases q1 : i < side d.m y + 1
  · rw [if_pos q1, if_pos q1]; exact pAt_old G sp y (ring_at G (by lia))
  · rw [if_neg q1, if_neg q1]
    by_cases q2 : i = side d.m y + 1
    · rw [if_pos q2, if_pos q2]; exact pAt_new G sp y
    · rw [if_neg q2, if_neg q2]; exact pAt_old G sp y (ring_at G (by lia))
theorem pnew_eq : (side d.m y + 1 < d.m.ring.length ∧ pnew d y = ((rp d (side d.m y)).1 + (rp d (side d.m y + 1)).1, (rp d (side d.m y)).2 + (rp d (side d.m y + 1)).2)) ∨
    (side d.m y + 1 = d.m.ring.length ∧ pnew d y = ((rp d (side d.m y)).1 - (rp d 0).1, (rp d (side d.m y)).2 - (rp d 0).2)) := by
  have h1 := side_lt G.good y
  unfold pnew turnOf one other rp
  by_cases q : side d.m y + 1 < d.m.ring.length
  · refine .inl ⟨q, ?_⟩
    rw [if_pos q, Nat.mod_eq_of_lt q, Int.one_mul, Int.one_mul]
  · have e : side d.m y + 1 = d.m.ring.length := by lia
    refine .inr ⟨e, ?_⟩
    rw [if_neg q, e, Nat.mod_self]
    simp only [Int.neg_mul, Int.one_mul, Int.sub_eq_add_neg]
theorem newdet (Z : Fz d) (p : Nat) (hp : p < d.m.ring.length) :
    (p ≤ side d.m y → 1 ≤ det (rp d p) (pnew d y)) ∧ (side d.m y < p → det (rp d p) (pnew d y) ≤ -1) ∧
    (p = side d.m y → det (rp d p) (pnew d y) = 1) ∧ (p = side d.m y + 1 → det (rp d p) (pnew d y) = -1) ∧
    (side d.m y + 1 = d.m.ring.length → p = 0 → det (rp d p) (pnew d y) = 1) ∧
    ((det (rp d p) (pnew d y)).natAbs = 1 ↔ (p = side d.m y ∨ p = (side d.m y + 1) % d.m.ring.length)) := by
  have h1 := side_lt G.good y
  have h3 := G.good.k3
  refine nd4 hp h1 ?_
  rcases pnew_eq G y with ⟨q, e⟩ | ⟨q, e⟩
  · rw [e, det_add, Nat.mod_eq_of_lt q]
    generalize side d.m y = s at *
    have a := Z.adj s q
    rcases Nat.lt_trichotomy p s with k | k | k
    · have b1 := Z.pos p s k h1
      have b2 := Z.pos p (s + 1) (Nat.lt_succ_of_lt k) q
      exact .inr (.inr (.inl ⟨Int.add_le_add b1 b2, Nat.le_of_lt k, fun h => h.elim (Nat.ne_of_lt k) (Nat.ne_of_lt (Nat.lt_succ_of_lt k))⟩))
    · subst k
      exact .inl ⟨by rw [det_self, a, Int.zero_add], Nat.le_refl _, .inl rfl⟩
    · by_cases k2 : p = s + 1
      · subst k2
        exact .inr (.inl ⟨by rw [det_self, det_anti (rp d (s + 1)) (rp d s), a, Int.add_zero], k, .inr rfl⟩)
      · have b1 := Z.pos s p k hp
        have b2 := Z.pos (s + 1) p (Nat.lt_of_le_of_ne k (Ne.symm k2)) hp
        rw [det_anti (rp d p) (rp d s), det_anti (rp d p) (rp d (s + 1))]
        exact .inr (.inr (.inr ⟨Int.add_le_add (Int.neg_le_neg b1) (Int.neg_le_neg b2), k, fun h => h.elim (Nat.ne_of_gt k) k2⟩))
  · rw [e, det_sub, q, Nat.mod_self]
    have es : side d.m y = d.m.ring.length - 1 := by clear Z e G; lia
    have pl : p ≤ side d.m y := by clear Z e G; lia
    have c := Z.cyc
    by_cases k : p = 0
    · subst k
      rw [es, det_self]
      exact .inl ⟨by rw [c]; rfl, Nat.zero_le _, .inr rfl⟩
    · by_cases k2 : p = side d.m y
      · rw [k2, det_self, es, det_anti (rp d (d.m.ring.length - 1)) (rp d 0), c]
        exact .inl ⟨rfl, Nat.le_refl _, .inl rfl⟩
      · have b1 := Z.pos p (side d.m y) (Nat.lt_of_le_of_ne pl k2) h1
        have b2 := Z.pos 0 p (Nat.pos_of_ne_zero k) hp
        rw [det_anti (rp d p) (rp d 0)]
        exact .inr (.inr (.inl ⟨by clear Z e G; lia, pl, fun h => h.elim k2 k⟩))
theorem pos_step (Z : Fz d) : ∀ i j, i < j → j < (stepD sp d y).m.ring.length → 1 ≤ det (rp (stepD sp d y) i) (rp (stepD sp d y) j) := by
  intro i j hij hj
  rw [ring_len G sp y] at hj
  have h1 := side_lt G.good y
  rw [rp_step G sp y i (by lia), rp_step G sp y j hj]
  by_cases a : i < side d.m y + 1
  · rw [if_pos a]
    by_cases b : j < side d.m y + 1
    · rw [if_pos b]; exact Z.pos i j hij (by lia)
    · rw [if_neg b]
      by_cases c : j = side d.m y + 1
      · rw [if_pos c]; exact (newdet G y Z i (by lia)).1 (by lia)
      · rw [if_neg c]; exact Z.pos i (j - 1) (by lia) (by lia)
  · rw [if_neg a, if_neg (by lia : ¬ j < side d.m y + 1), if_neg (by lia : ¬ j = side d.m y + 1)]
    by_cases c : i = side d.m y + 1
    · rw [if_pos c, det_anti]
      have := (newdet G y Z (j - 1) (by lia)).2.1 (by lia)
      lia
    · rw [if_neg c]; exact Z.pos (i - 1) (j - 1) (by lia) (by lia)
theorem adj_step (Z : Fz d) : ∀ i, i + 1 < (stepD sp d y).m.ring.length → det (rp (stepD sp d y) i) (rp (stepD sp d y) (i + 1)) = 1 := by
  intro i hj
  rw [ring_len G sp y] at hj
  have h1 := side_lt G.good y
  rw [rp_step G sp y i (by lia), rp_step G sp y (i + 1) hj]
  by_cases a : i + 1 < side d.m y + 1
  · rw [if_pos a, if_pos (by lia)]; exact Z.adj i (by lia)
  · rw [if_neg a]
    by_cases b : i + 1 = side d.m y + 1
    · rw [if_pos b, if_pos (by lia)]; exact (newdet G y Z i (by lia)).2.2.1 (by lia)
    · rw [if_neg b, if_neg (by lia)]
      by_cases c : i = side d.m y + 1
      · rw [if_pos c, det_anti]
        have := (newdet G y Z (i + 1 - 1) (by lia)).2.2.2.1 (by lia)
        lia
      · rw [if_neg c]
        have := Z.adj (i - 1) (by lia)
        have e : i - 1 + 1 = i + 1 - 1 := by lia
        rwa [e] at this
theorem cyc_step (Z : Fz d) : det (rp (stepD sp d y) 0) (rp (stepD sp d y) ((stepD sp d y).m.ring.length - 1)) = 1 := by
  have h1 := side_lt G.good y
  have h3 := G.good.k3
  rw [ring_len G sp y, rp_step G sp y 0 (by lia), rp_step G sp y _ (by lia), if_pos (by lia), if_neg (by lia)]
  by_cases c : d.m.ring.length + 1 - 1 = side d.m y + 1
  · rw [if_pos c]; exact (newdet G y Z 0 (by lia)).2.2.2.2.1 (by lia) rfl
  · rw [if_neg c]; exact Z.cyc
theorem cc_step (v : Int) (h0 : 0 ≤ v) (hv : v.toNat < d.m.ring.length + 1) : ccAt (stepD sp d y).m v = (if v.toNat < d.m.ring.length then ccAt d.m v else 0) + (if v = one d.m y then 1 else 0) + (if v = other d.m y then 1 else 0) + (if v = d.m.ring.length then 1 else 0) := by
  have b1 := G.good.rng _ (one_mem G.good y)
  have b2 := G.good.rng _ (other_mem G.good y)
  have hne := one_ne G.good y
  have t1 : v.toNat = (one d.m y).toNat ↔ v = one d.m y := ⟨fun h => by rw [← Int.toNat_of_nonneg h0, h, Int.toNat_of_nonneg b1.1], fun h => by rw [h]⟩
  have t2 : v.toNat = (other d.m y).toNat ↔ v = other d.m y := ⟨fun h => by rw [← Int.toNat_of_nonneg h0, h, Int.toNat_of_nonneg b2.1], fun h => by rw [h]⟩
  have t3 : v = (d.m.ring.length : Int) → v.toNat = d.m.ring.length := fun h => by rw [h]; rfl
  have l1 : (one d.m y).toNat < d.m.ring.length := (Int.toNat_lt b1.1).mpr b1.2
  have l2 : (other d.m y).toNat < d.m.ring.length := (Int.toNat_lt b2.1).mpr b2.2
  have hel := G.good.el
  show ((enterE _ _ _ _ _ _).getD v.toNat Ent.zero).cc = _
  rw [List.getD_eq_getElem?_getD, enterE_get _ (fun h => hne (by rw [← Int.toNat_of_nonneg b1.1, h, Int.toNat_of_nonneg b2.1])) (Nat.ne_of_lt l2) (Nat.ne_of_lt l1)]
  by_cases q : v.toNat < d.m.ring.length
  · have he : v.toNat < d.m.es.length := by rw [hel]; exact q
    rw [if_pos q, List.getElem?_append_left he, List.getElem?_eq_getElem he]
    simp only [Option.map_some, Option.getD_some]
    have ec : ccAt d.m v = (d.m.es[v.toNat]'he).cc := by unfold ccAt; rw [List.getD_eq_getElem?_getD, List.getElem?_eq_getElem he]; rfl
    rw [ec, if_neg (show ¬ v = (d.m.ring.length : Int) from fun e => Nat.ne_of_lt q (t3 e))]
    by_cases q1 : v = one d.m y
    · rw [if_pos (t1.2 q1), if_pos q1, if_neg (fun e => hne (q1.symm.trans e)), Int.add_zero, Int.add_zero]; exact Int.add_comm _ _
    · rw [if_neg (fun e => q1 (t1.1 e)), if_neg q1]
      by_cases q2 : v = other d.m y
      · rw [if_pos (t2.2 q2), if_pos q2, Int.add_zero, Int.add_zero]; exact Int.add_comm _ _
      · rw [if_neg (fun e => q2 (t2.1 e)), if_neg q2, if_neg (show ¬ v.toNat = (d.m.ring.length : Int).toNat from Nat.ne_of_lt q), Int.add_zero, Int.add_zero, Int.add_zero]
  · have q3 : v.toNat = d.m.ring.length := Nat.le_antisymm (Nat.le_of_lt_succ hv) (Nat.not_lt.mp q)
    have q' : v = d.m.ring.length := by rw [← q3, Int.toNat_of_nonneg h0]
    have n1 : ¬ v.toNat = (one d.m y).toNat := fun e => Nat.ne_of_lt l1 (e.symm.trans q3)
    have n2 : ¬ v.toNat = (other d.m y).toNat := fun e => Nat.ne_of_lt l2 (e.symm.trans q3)
    rw [if_neg q, if_neg (fun e => n1 (t1.2 e)), if_neg (fun e => n2 (t2.2 e)), if_pos q', List.getElem?_append_right (by rw [hel]; exact Nat.le_of_eq q3.symm)]
    have e0 : v.toNat - d.m.es.length = 0 := by rw [hel, q3, Nat.sub_self]
    rw [e0]
    simp only [List.getElem?_cons_zero, Option.map_some, Option.getD_some]
    rw [if_neg n1, if_neg n2, if_pos (show v.toNat = (d.m.ring.length : Int).toNat from q3)]; rfl
theorem ccp_step (i : Nat) (hi : i < d.m.ring.length + 1) : ccp (stepD sp d y) i = if i < side d.m y + 1 then ccp d i + (if i = side d.m y then 1 else 0) + (if i = (side d.m y + 1) % d.m.ring.length then 1 else 0) else if i = side d.m y + 1 then 1 else ccp d (i - 1) + (if i - 1 = (side d.m y + 1) % d.m.ring.length then 1 else 0) := by
  have h1 := side_lt G.good y
  have h2 := side2_lt G.good y
  have key : ∀ j, j < d.m.ring.length → ccAt (stepD sp d y).m (d.m.ring.getD j 0) = ccp d j + (if j = side d.m y then 1 else 0) + (if j = (side d.m y + 1) % d.m.ring.length then 1 else 0) := fun j hj => by
    have hm := ring_b G (ring_at G hj)
    rw [cc_step G sp y _ hm.1 (by lia), if_pos hm.2, if_neg (by lia : ¬ d.m.ring.getD j 0 = (d.m.ring.length : Int))]
    have e1 : (d.m.ring.getD j 0 = one d.m y) ↔ j = side d.m y := ⟨fun e => ring_inj G hj h1 e, fun e => by rw [e]; rfl⟩
    have e2 : (d.m.ring.getD j 0 = other d.m y) ↔ j = (side d.m y + 1) % d.m.ring.length := ⟨fun e => ring_inj G hj h2 e, fun e => by rw [e]; rfl⟩
    simp only [e1, e2, ccp]
    lia
  show ccAt (stepD sp d y).m ((stepD sp d y).m.ring.getD i 0) = _
  rw [ring_step G sp y i]
  by_cases q1 : i < side d.m y + 1
  · rw [if_pos q1, if_pos q1, key i (by lia)]
  · rw [if_neg q1, if_neg q1]
    by_cases q2 : i = side d.m y + 1
    · have b1 := G.good.rng _ (one_mem G.good y)
      have b2 := G.good.rng _ (other_mem G.good y)
      rw [if_pos q2, if_pos q2, cc_step G sp y _ (by lia) (by lia), if_neg (by lia), if_neg (by lia), if_neg (by lia), if_pos rfl]; rfl
    · rw [if_neg q2, if_neg q2, key (i - 1) (by lia), if_neg (by lia : ¬ i - 1 = side d.m y)]; lia
end
theorem colP_eq (p : Int × Int) : colP p = if p.2 % 2 = 0 then 0 else if p.1 % 2 = 0 then 2 else 1 := by
  unfold colP
  have h1 : p.2 % 2 = 0 ∨ p.2 % 2 = 1 := by lia
  have h2 : p.1 % 2 = 0 ∨ p.1 % 2 = 1 := by lia
  rcases h1 with h1 | h1 <;> rcases h2 with h2 | h2 <;> simp [h1, h2] <;> lia
theorem col_add {p q r : Int × Int} (hne : colP p ≠ colP q) (n1 : ¬ (p.1 % 2 = 0 ∧ p.2 % 2 = 0)) (n2 : ¬ (q.1 % 2 = 0 ∧ q.2 % 2 = 0)) (e1 : r.1 % 2 = (p.1 + q.1) % 2) (e2 : r.2 % 2 = (p.2 + q.2) % 2) : colP r = 3 - colP p - colP q ∧ ¬ (r.1 % 2 = 0 ∧ r.2 % 2 = 0) := by
  rw [colP_eq p, colP_eq q] at hne
  rw [colP_eq p, colP_eq q, colP_eq r]
  have a1 := Int.emod_two_eq p.1
  have a2 := Int.emod_two_eq p.2
  have a3 := Int.emod_two_eq q.1
  have a4 := Int.emod_two_eq q.2
  have b1 := e1.trans (Int.add_emod _ _ _)
  have b2 := e2.trans (Int.add_emod _ _ _)
  rw [b1, b2]
  rcases a1 with a1 | a1 <;> rcases a2 with a2 | a2 <;> rcases a3 with a3 | a3 <;> rcases a4 with a4 | a4 <;> simp [a1, a2, a3, a4] at hne n1 n2 ⊢
theorem ifa {a b : Prop} [Decidable a] [Decidable b] {x u v w : Int} (h : x = if a then u else if b then v else w) (ha : a) : x = u := h.trans (if_pos ha)
theorem ifb {a b : Prop} [Decidable a] [Decidable b] {x u v w : Int} (h : x = if a then u else if b then v else w) (ha : ¬ a) (hb : b) : x = v := h.trans ((if_neg ha).trans (if_pos hb))
theorem ifc {a b : Prop} [Decidable a] [Decidable b] {x u v w : Int} (h : x = if a then u else if b then v else w) (ha : ¬ a) (hb : ¬ b) : x = w := h.trans ((if_neg ha).trans (if_neg hb))
theorem j00 {a b : Prop} [Decidable a] [Decidable b] {u : Int} (ha : ¬ a) (hb : ¬ b) : u + (if a then 1 else 0) + (if b then 1 else 0) = u := by rw [if_neg ha, if_neg hb, Int.add_zero, Int.add_zero]
theorem j10 {a b : Prop} [Decidable a] [Decidable b] {u : Int} (ha : a) (hb : ¬ b) : u + (if a then 1 else 0) + (if b then 1 else 0) = u + 1 := by rw [if_pos ha, if_neg hb, Int.add_zero]
theorem j01 {a b : Prop} [Decidable a] [Decidable b] {u : Int} (ha : ¬ a) (hb : b) : u + (if a then 1 else 0) + (if b then 1 else 0) = u + 1 := by rw [if_neg ha, if_pos hb, Int.add_zero]
theorem kk1 {a : Prop} [Decidable a] {u : Int} (ha : a) : u + (if a then 1 else 0) = u + 1 := by rw [if_pos ha]
theorem kk0 {a : Prop} [Decidable a] {u : Int} (ha : ¬ a) : u + (if a then 1 else 0) = u := by rw [if_neg ha, Int.add_zero]
theorem cntA {K s : Nat} {f f' c c' : Nat → Int} {nw : Int} (hs : s + 1 < K) (hn : nw = f s + f (s + 1)) (hf : ∀ i, i < K + 1 → f' i = if i < s + 1 then f i else if i = s + 1 then nw else f (i - 1))
    (hc : ∀ i, i < K + 1 → c' i = if i < s + 1 then c i + (if i = s then 1 else 0) + (if i = s + 1 then 1 else 0) else if i = s + 1 then 1 else c (i - 1) + (if i - 1 = s + 1 then 1 else 0))
    (Z : ∀ p, p < K → c p * f p = (if p = 0 then -f (K - 1) else f (p - 1)) + (if p + 1 = K then -f 0 else f (p + 1))) (p : Nat) (hp : p < K + 1) :
    c' p * f' p = (if p = 0 then -f' (K + 1 - 1) else f' (p - 1)) + (if p + 1 = K + 1 then -f' 0 else f' (p + 1)) := by
  have lt : ∀ {i}, i < s + 1 → f' i = f i := fun h => ifa (hf _ (Nat.lt_succ_of_lt (Nat.lt_trans h hs))) h
  have gt : ∀ {i}, s + 1 < i + 1 → i < K → f' (i + 1) = f i := fun h q => ifc (hf _ (Nat.succ_lt_succ q)) (Nat.not_lt.mpr (Nat.le_of_lt h)) (Nat.ne_of_gt h)
  have eq : f' (s + 1) = f s + f (s + 1) := (ifb (hf _ (Nat.lt_succ_of_lt hs)) (Nat.lt_irrefl _) rfl).trans hn
  have hK : f' (K + 1 - 1) = f (K - 1) := by
    obtain ⟨k, rfl⟩ : ∃ k, K = k + 1 := ⟨K - 1, by lia⟩
    exact gt hs (Nat.lt_succ_self k)
  have h0 : f' 0 = f 0 := lt (Nat.succ_pos s)
  rw [hK, h0]
  rcases Nat.lt_trichotomy p s with k | k | k
  · have z := Z p (by lia)
    have a2 : c' p = c p := (ifa (hc p hp) (Nat.lt_succ_of_lt k)).trans (j00 (Nat.ne_of_lt k) (Nat.ne_of_lt (Nat.lt_succ_of_lt k)))
    rw [lt (Nat.lt_succ_of_lt k), a2, lt (Nat.succ_lt_succ k), lt (i := p - 1) (Nat.lt_of_le_of_lt (Nat.sub_le p 1) (Nat.lt_succ_of_lt k)), if_neg (show ¬ p + 1 = K + 1 by lia), z, if_neg (show ¬ p + 1 = K by lia)]
  · subst k
    have z := Z p (Nat.lt_of_succ_lt hs)
    have a2 : c' p = c p + 1 := (ifa (hc p hp) (Nat.lt_succ_self p)).trans (j10 rfl (Nat.ne_of_lt (Nat.lt_succ_self p)))
    rw [if_neg (Nat.ne_of_lt hs)] at z
    rw [lt (Nat.lt_succ_self p), a2, eq, lt (i := p - 1) (Nat.lt_succ_of_le (Nat.sub_le p 1)), if_neg (show ¬ p + 1 = K + 1 by lia), Int.add_mul, z]
    lia
  · obtain ⟨p', rfl⟩ : ∃ p', p = p' + 1 := ⟨p - 1, by (clear hs hn hf hc Z hp lt gt eq hK h0; lia)⟩
    have hp' : p' < K := Nat.lt_of_succ_lt_succ hp
    rw [if_neg (Nat.succ_ne_zero p'), show p' + 1 - 1 = p' from rfl]
    by_cases k2 : p' = s
    · subst k2
      have a2 : c' (p' + 1) = 1 := ifb (hc _ hp) (Nat.lt_irrefl _) rfl
      rw [eq, a2, gt (Nat.lt_succ_self _) hs, lt (Nat.lt_succ_self _), if_neg (show ¬ p' + 1 + 1 = K + 1 by lia)]
      lia
    · have k4 : s + 1 < p' + 1 := by lia
      have z := Z p' hp'
      rw [if_neg (show ¬ p' = 0 by (clear hs hn hf hc Z lt gt eq hK h0 hp hp' k4 z; lia))] at z
      have last : (if p' + 1 + 1 = K + 1 then -f 0 else f' (p' + 1 + 1)) = if p' + 1 = K then -f 0 else f (p' + 1) := by
        by_cases q : p' + 1 = K
        · rw [if_pos q, if_pos (congrArg (· + 1) q)]
        · rw [if_neg q, if_neg (fun e => q (Nat.succ.inj e))]; exact gt (Nat.lt_succ_of_lt k4) (by lia)
      rw [gt k4 hp', last]
      have nl := Nat.not_lt.mpr (Nat.le_of_lt k4)
      by_cases k3 : p' = s + 1
      · subst k3
        have a2 : c' (s + 1 + 1) = c (s + 1) + 1 := (ifc (hc _ hp) nl (Nat.ne_of_gt k4)).trans (kk1 rfl)
        rw [show s + 1 - 1 = s from rfl] at z
        rw [a2, eq, Int.add_mul, z]
        lia
      · have a2 : c' (p' + 1) = c p' := (ifc (hc _ hp) nl (Nat.ne_of_gt k4)).trans (kk0 k3)
        obtain ⟨q, rfl⟩ : ∃ q, p' = q + 1 := ⟨p' - 1, by lia⟩
        rw [a2, gt (i := q) (by lia) (Nat.lt_of_succ_lt hp'), z]; rfl
theorem cntB {K s : Nat} {f f' c c' : Nat → Int} {nw : Int} (hk : 3 ≤ K) (hs : s + 1 = K) (hn : nw = f s - f 0) (hf : ∀ i, i < K + 1 → f' i = if i < s + 1 then f i else if i = s + 1 then nw else f (i - 1))
    (hc : ∀ i, i < K + 1 → c' i = if i < s + 1 then c i + (if i = s then 1 else 0) + (if i = 0 then 1 else 0) else if i = s + 1 then 1 else c (i - 1) + (if i - 1 = 0 then 1 else 0))
    (Z : ∀ p, p < K → c p * f p = (if p = 0 then -f (K - 1) else f (p - 1)) + (if p + 1 = K then -f 0 else f (p + 1))) (p : Nat) (hp : p < K + 1) :
    c' p * f' p = (if p = 0 then -f' (K + 1 - 1) else f' (p - 1)) + (if p + 1 = K + 1 then -f' 0 else f' (p + 1)) := by
  subst hs
  have lt : ∀ {i}, i < s + 1 → f' i = f i := fun h => ifa (hf _ (Nat.lt_succ_of_lt h)) h
  have eq : f' (s + 1) = nw := ifb (hf _ (Nat.lt_succ_self _)) (Nat.lt_irrefl _) rfl
  have h0 : f' 0 = f 0 := lt (Nat.succ_pos s)
  rw [show s + 1 - 1 = s from rfl] at Z
  rw [show s + 1 + 1 - 1 = s + 1 from rfl, eq, h0]
  by_cases k0 : p = 0
  · subst k0
    have z := Z 0 (Nat.succ_pos s)
    have ns : 0 + 1 < s + 1 := by lia
    rw [if_pos rfl, if_neg (Nat.ne_of_lt ns)] at z
    have a2 : c' 0 = c 0 + 1 := (ifa (hc 0 hp) (Nat.succ_pos s)).trans (j01 (show ¬ 0 = s by lia) rfl)
    rw [if_pos rfl, if_neg (Nat.ne_of_lt (Nat.lt_succ_of_lt ns)), h0, a2, lt ns, Int.add_mul, z, hn]
    (clear hn hk hf hc Z lt eq h0 hp z ns a2; lia)
  · rw [if_neg k0]
    by_cases k1 : p = s + 1
    · subst k1
      have a2 : c' (s + 1) = 1 := ifb (hc _ hp) (Nat.lt_irrefl _) rfl
      rw [eq, a2, show s + 1 - 1 = s from rfl, lt (Nat.lt_succ_self s), if_pos rfl, hn]
      (clear hn hk hf hc Z lt eq h0 hp k0 a2; lia)
    · have ps : p < s + 1 := by lia
      have z := Z p ps
      rw [if_neg k0] at z
      rw [lt ps, lt (i := p - 1) (Nat.lt_of_le_of_lt (Nat.sub_le p 1) ps), if_neg (fun e => k1 (Nat.succ.inj e))]
      by_cases k2 : p = s
      · subst k2
        have a2 : c' p = c p + 1 := (ifa (hc p hp) ps).trans (j10 rfl k0)
        rw [if_pos rfl] at z
        rw [a2, eq, Int.add_mul, z, hn]
        (clear h0 k0 hn hk hf hc Z hp lt eq k1 ps z a2; lia)
      · have a2 : c' p = c p := (ifa (hc p hp) ps).trans (j00 k2 k0)
        rw [if_neg (fun e => k2 (Nat.succ.inj e))] at z
        rw [a2, lt (i := p + 1) (by lia), z]
theorem inc_b {x : Int} {n : Nat} (h : 0 ≤ x ∧ x ≤ n) : 0 ≤ 1 + x ∧ 1 + x ≤ ((n + 1 : Nat) : Int) := ⟨Int.add_nonneg (by decide) h.1, by rw [Int.natCast_add, Int.add_comm]; exact Int.add_le_add_right h.2 1⟩
theorem inc_b0 {x : Int} {n : Nat} (h : 0 ≤ x ∧ x ≤ n) : 0 ≤ x ∧ x ≤ ((n + 1 : Nat) : Int) := ⟨h.1, Int.le_trans h.2 (Int.ofNat_le.mpr (Nat.le_succ n))⟩
theorem par_pm (a c : Int) : (a + -1 * c) % 2 = (a + c) % 2 := by
  have e : a + c = a + -1 * c + 2 * c := by omega
  rw [e, Int.add_mul_emod_self_left]
section
variable {d : Du} (G : GoodD d) (sp y : Int)
include G
theorem col_step (Z : Fz d) : ∀ v ∈ (stepD sp d y).m.ring, colP (pAt (stepD sp d y).ps v) = (wcAt (stepD sp d y).m v).2 ∧ ¬ ((pAt (stepD sp d y).ps v).1 % 2 = 0 ∧ (pAt (stepD sp d y).ps v).2 % 2 = 0) := by
  intro v hv
  have h1 := side_lt G.good y
  have h2 := side2_lt G.good y
  rcases (List.mem_insertIdx (by lia)).mp hv with rfl | hv
  · rw [pAt_new G sp y, wc_new G sp y]
    have m1 := one_mem G.good y
    have m2 := other_mem G.good y
    have c1 := Z.col _ m1
    have c2 := Z.col _ m2
    have hne := col_ne G.good y
    rw [← c1.1, ← c2.1] at hne
    show colP (pnew d y) = cnew d.m y ∧ _
    unfold cnew
    rw [← c1.1, ← c2.1]
    have n1 := c1.2
    have n2 := c2.2
    have e : (pnew d y).1 % 2 = ((pAt d.ps (one d.m y)).1 + (pAt d.ps (other d.m y)).1) % 2 ∧ (pnew d y).2 % 2 = ((pAt d.ps (one d.m y)).2 + (pAt d.ps (other d.m y)).2) % 2 := by
      unfold pnew turnOf
      dsimp only
      split
      · rw [Int.one_mul, Int.one_mul]; exact ⟨rfl, rfl⟩
      · exact ⟨par_pm _ _, par_pm _ _⟩
    exact col_add hne n1 n2 e.1 e.2
  · rw [pAt_old G sp y hv, wc_old G sp y hv]; exact Z.col v hv
theorem ccb_step (Z : Fz d) : ∀ e ∈ (stepD sp d y).m.es, 0 ≤ e.cc ∧ e.cc ≤ (stepD sp d y).m.ring.length := by
  intro e he
  rw [ring_len G sp y]
  obtain ⟨j, hj⟩ := List.mem_iff_getElem?.mp he
  have b1 := G.good.rng _ (one_mem G.good y)
  have b2 := G.good.rng _ (other_mem G.good y)
  have hne := one_ne G.good y
  have hj' : (enterE (d.m.es ++ [Ent.zero]) (one d.m y) (other d.m y) d.m.ring.length y (3 * ((wcAt d.m (one d.m y)).1 + (wcAt d.m (other d.m y)).1 + wnew y + sp)))[j]? = some e := hj
  rw [enterE_get _ (by lia) (by (clear G Z he hj hne hj'; lia)) (by (clear G Z he hj b2 hne hj'; lia))] at hj'
  cases h0 : (d.m.es ++ [Ent.zero])[j]? with
  | none => rw [h0] at hj'; cases hj'
  | some e0 =>
    rw [h0] at hj'
    have k0 : 0 ≤ e0.cc ∧ e0.cc ≤ d.m.ring.length := by
      rcases List.mem_append.mp (List.mem_of_getElem? h0) with h | h
      · exact Z.ccb _ h
      · rw [List.mem_singleton.mp h]; exact ⟨Int.le_refl 0, by show (0 : Int) ≤ _; lia⟩
    simp only [Option.map_some, Option.some.injEq] at hj'
    have up : ∀ a b w o, (e0.upd a b w o).cc = 1 + e0.cc := fun _ _ _ _ => rfl
    subst hj'
    split
    · rw [up]; exact inc_b k0
    · split
      · rw [up]; exact inc_b k0
      · split
        · rw [up]; exact inc_b k0
        · exact inc_b0 k0
theorem cnt_step (Z : Fz d) : ∀ p, p < (stepD sp d y).m.ring.length → ccp (stepD sp d y) p * (rp (stepD sp d y) p).1 = (prd (stepD sp d y) p).1 + (suc (stepD sp d y) p).1 ∧ ccp (stepD sp d y) p * (rp (stepD sp d y) p).2 = (prd (stepD sp d y) p).2 + (suc (stepD sp d y) p).2 := by
  intro p hp
  have hK := ring_len G sp y
  rw [hK] at hp
  have h1 := side_lt G.good y
  have h3 := G.good.k3
  have hr := rp_step G sp y
  have hc := ccp_step G sp y
  have Zc := Z.cnt
  have get1 : ∀ (b : Prop) [Decidable b] (x z : Int × Int), (if b then x else z).1 = if b then x.1 else z.1 := fun b _ x z => by split <;> rfl
  have get2 : ∀ (b : Prop) [Decidable b] (x z : Int × Int), (if b then x else z).2 = if b then x.2 else z.2 := fun b _ x z => by split <;> rfl
  unfold prd suc at Zc ⊢
  simp only [get1, get2] at Zc ⊢
  rw [hK]
  have f1 : ∀ i, i < d.m.ring.length + 1 → (rp (stepD sp d y) i).1 = if i < side d.m y + 1 then (rp d i).1 else if i = side d.m y + 1 then (pnew d y).1 else (rp d (i - 1)).1 := fun i hi => by rw [hr i hi, get1, get1]
  have f2 : ∀ i, i < d.m.ring.length + 1 → (rp (stepD sp d y) i).2 = if i < side d.m y + 1 then (rp d i).2 else if i = side d.m y + 1 then (pnew d y).2 else (rp d (i - 1)).2 := fun i hi => by rw [hr i hi, get2, get2]
  rcases pnew_eq G y with ⟨q, e⟩ | ⟨q, e⟩
  · rw [Nat.mod_eq_of_lt q] at hc
    exact ⟨cntA (f := fun i => (rp d i).1) (f' := fun i => (rp (stepD sp d y) i).1) q (by rw [e]) f1 hc (fun p hp => (Zc p hp).1) p hp,
      cntA (f := fun i => (rp d i).2) (f' := fun i => (rp (stepD sp d y) i).2) q (by rw [e]) f2 hc (fun p hp => (Zc p hp).2) p hp⟩
  · rw [q, Nat.mod_self] at hc
    rw [← q] at hc
    exact ⟨cntB (f := fun i => (rp d i).1) (f' := fun i => (rp (stepD sp d y) i).1) h3 q (by rw [e]) f1 (by rw [← q]; exact hc) (fun p hp => (Zc p hp).1) p hp,
      cntB (f := fun i => (rp d i).2) (f' := fun i => (rp (stepD sp d y) i).2) h3 q (by rw [e]) f2 (by rw [← q]; exact hc) (fun p hp => (Zc p hp).2) p hp⟩
theorem fz_step (Z : Fz d) : Fz (stepD sp d y) := ⟨pos_step G sp y Z, adj_step G sp y Z, cyc_step G sp y Z, cnt_step G sp y Z, col_step G sp y Z, ccb_step G sp y Z⟩
end
theorem fz_init (sp : Int) : Fz (Du.init sp) := by
  have hK : (Du.init sp).m.ring.length = 3 := rfl
  have r0 : rp (Du.init sp) 0 = (1, 0) := rfl
  have r1 : rp (Du.init sp) 1 = (1, 1) := rfl
  have r2 : rp (Du.init sp) 2 = (0, 1) := rfl
  refine ⟨?_, ?_, by (show det (1, 0) (0, 1) = 1; decide), ?_, ?_, ?_⟩
  · intro i j hij hj
    rw [hK] at hj
    have : (i = 0 ∧ j = 1) ∨ (i = 0 ∧ j = 2) ∨ (i = 1 ∧ j = 2) := by lia
    rcases this with ⟨rfl, rfl⟩ | ⟨rfl, rfl⟩ | ⟨rfl, rfl⟩
    · rw [r0, r1]; decide
    · rw [r0, r2]; decide
    · rw [r1, r2]; decide
  · intro i hi
    rw [hK] at hi
    have : i = 0 ∨ i = 1 := by lia
    rcases this with rfl | rfl
    · show det (1, 0) (1, 1) = 1; decide
    · show det (1, 1) (0, 1) = 1; decide
  · intro p hp
    rw [hK] at hp
    have : p = 0 ∨ p = 1 ∨ p = 2 := by lia
    rcases this with rfl | rfl | rfl <;> exact ⟨rfl, rfl⟩
  · intro v hv
    have : v = 0 ∨ v = 1 ∨ v = 2 := by simpa [Du.init, Mo.init] using hv
    rcases this with rfl | rfl | rfl
    · exact ⟨rfl, by show ¬ ((1 : Int) % 2 = 0 ∧ (0 : Int) % 2 = 0); decide⟩
    · exact ⟨rfl, by show ¬ ((1 : Int) % 2 = 0 ∧ (1 : Int) % 2 = 0); decide⟩
    · exact ⟨rfl, by show ¬ ((0 : Int) % 2 = 0 ∧ (1 : Int) % 2 = 0); decide⟩
  · intro e he
    rw [hK]
    have h : e.cc = 1 := by
      have : e ∈ [(Ent.zero.upd 2 1 1 (3 * (5 + 10 + 15 + sp))), (Ent.zero.upd 0 2 1 (3 * (5 + 10 + 15 + sp))), (Ent.zero.upd 1 0 1 (3 * (5 + 10 + 15 + sp)))] := he
      simp only [List.mem_cons, List.not_mem_nil, or_false] at this
      rcases this with rfl | rfl | rfl <;> rfl
    lia
theorem fz_run (sp : Int) (ns : List Int) : Fz (runD sp ns) := by
  unfold runD
  suffices h : ∀ d, GoodD d → Fz d → Fz (ns.foldl (stepD sp) d) from h _ (goodD_init sp) (fz_init sp)
  induction ns with
  | nil => exact fun d _ Z => Z
  | cons n r ih => exact fun d G Z => ih _ (goodD_step sp G n) (fz_step G sp n Z)
theorem cc_in (sp : Int) (ns : List Int) (h : ns.length ≤ 6) : ∀ x ∈ (runM sp ns).ring.map (ccAt (runM sp ns)), 0 ≤ x ∧ x < 256 := by
  intro x hx
  obtain ⟨v, hv, rfl⟩ := List.mem_map.mp hx
  have G := good_run sp ns
  have hl := run_len sp ns
  have hb := G.rng v hv
  have hm : (runM sp ns).es.getD v.toNat Ent.zero ∈ (runM sp ns).es := by
    rw [List.getD_eq_getElem?_getD, List.getElem?_eq_getElem (by rw [G.el]; lia)]; simp
  have Z := (fz_run sp ns).ccb
  rw [runD_m] at Z
  have := Z _ hm
  unfold ccAt
  lia
noncomputable def oct3 (l : Int × Int × Int) : List Int := [l.1, l.2.1, l.2.2]
theorem ints_app : ∀ {a b : List Value} {x y : List Int}, IntsAre a x → IntsAre b y → IntsAre (a ++ b) (x ++ y)
  | _, _, _, _, .nil, h => h
  | _, _, _, _, .cons n t r, h => .cons n t (ints_app r h)
theorem lights_zs {ring : List Int} {rvs lvs : List Value} {sp : Int} {wc : List (Int × Nat)} {S : List (Addr × Obj)} (hr : IntsAre rvs ring) (hb : ∀ v ∈ ring, 0 ≤ v ∧ v.toNat < wc.length) (h : Lts sp wc lvs S) :
    ∃ zs : Nat → List Value, (∀ i, (zs i).length ≤ 3) ∧ ∀ (i : Nat) (v : Value), rvs[i]? = some v → ∃ x t b n, v = Value.int x t ∧ ring[i]? = some x ∧ x ∈ ring ∧ 0 ≤ x ∧ x.toNat < wc.length ∧ lvs[x.toNat]? = some (Value.ref b) ∧ (b, ({ cls := .type "list", data := .seq (zs i).toArray n } : Obj)) ∈ S ∧
      IntsAre (zs i) (oct3 (light sp (wc.getD x.toNat (0, 0)).1 (wc.getD x.toNat (0, 0)).2)) := by
  have key : ∀ i : Nat, ∃ z : List Value, z.length ≤ 3 ∧ ∀ v, rvs[i]? = some v → ∃ x t b n, v = Value.int x t ∧ ring[i]? = some x ∧ x ∈ ring ∧ 0 ≤ x ∧ x.toNat < wc.length ∧ lvs[x.toNat]? = some (Value.ref b) ∧ (b, ({ cls := .type "list", data := .seq z.toArray n } : Obj)) ∈ S ∧
      IntsAre z (oct3 (light sp (wc.getD x.toNat (0, 0)).1 (wc.getD x.toNat (0, 0)).2)) := by
    intro i
    cases hv : rvs[i]? with
    | none => exact ⟨[], Nat.zero_le _, fun v e => by cases e⟩
    | some v =>
      obtain ⟨x, t, hx, rfl⟩ := ints_at hr hv
      have hm := List.mem_of_getElem? hx
      obtain ⟨h0, h1⟩ := hb x hm
      obtain ⟨u, hu, b, n, s1, s2, s3, rfl, hbm⟩ := h.at h1
      refine ⟨[.int (light sp (wc.getD x.toNat (0, 0)).1 (wc.getD x.toNat (0, 0)).2).1 s1, .int (light sp (wc.getD x.toNat (0, 0)).1 (wc.getD x.toNat (0, 0)).2).2.1 s2, .int (light sp (wc.getD x.toNat (0, 0)).1 (wc.getD x.toNat (0, 0)).2).2.2 s3], Nat.le_refl 3, fun v e => ?_⟩
      cases e
      exact ⟨x, t, b, n, rfl, hx, hm, h0, h1, hu, hbm, .cons _ _ (.cons _ _ (.cons _ _ .nil))⟩
  exact ⟨fun i => Classical.choose (key i), fun i => (Classical.choose_spec (key i)).1, fun i => (Classical.choose_spec (key i)).2⟩
theorem flat2_ints {zs : Nat → List Value} {f : Nat → List Int} : ∀ {n : Nat}, (∀ i, i < n → IntsAre (zs i) (f i)) → IntsAre (flat2 zs n) ((List.range n).flatMap f)
  | 0, _ => .nil
  | n + 1, h => by
    rw [flat2_succ, List.range_succ, List.flatMap_append]
    refine ints_app (flat2_ints fun i hi => h i (Nat.lt_succ_of_lt hi)) ?_
    simpa using h n (Nat.lt_succ_self n)
theorem range_flat {α β : Type} (l : List α) (d : α) (f : α → List β) : (List.range l.length).flatMap (fun i => f (l.getD i d)) = l.flatMap f := by
  have e : l = (List.range l.length).map fun i => l.getD i d := by
    apply List.ext_getElem
    · simp
    · intro i h1 h2
      rw [List.getElem_map, List.getElem_range, List.getD_eq_getElem?_getD, List.getElem?_eq_getElem h1]; rfl
  have e2 : l.flatMap f = ((List.range l.length).map fun i => l.getD i d).flatMap f := by rw [← e]
  rw [e2, List.flatMap_map]
noncomputable def filmL (sp : Int) (m : Mo) : List Int := m.ring.flatMap fun k => oct3 (light sp (wcAt m k).1 (wcAt m k).2)
theorem film_ints {sp : Int} {m : Mo} {rvs lvs : List Value} {S : List (Addr × Obj)} (G : Good m) (hk : m.ring.length ≤ 9) (hr : IntsAre rvs m.ring) (h : Lts sp m.wc lvs S) :
    ∃ zs : Nat → List Value, (∀ i, (zs i).length ≤ 3) ∧ IntsAre (flat2 zs rvs.length) (filmL sp m) ∧ ∀ (i : Nat) (v : Value), rvs[i]? = some v → ∃ x t b n, v = Value.int x t ∧ 0 ≤ x ∧ x < 1048576 ∧ lvs[x.toNat]? = some (Value.ref b) ∧ (b, ({ cls := .type "list", data := .seq (zs i).toArray n } : Obj)) ∈ S := by
  obtain ⟨zs, hz, hq⟩ := lights_zs hr (fun v hv => by have := G.rng v hv; have := G.wl; lia) h
  refine ⟨zs, hz, ?_, fun i v hv => ?_⟩
  · have hl := ints_len hr
    unfold filmL
    rw [← range_flat m.ring 0, hl]
    refine flat2_ints fun i hi => ?_
    obtain ⟨x, t, b, n, e1, e2, _, _, _, _, _, e3⟩ := hq i (rvs[i]'(by lia)) (List.getElem?_eq_getElem (by lia))
    have e : m.ring.getD i 0 = x := by rw [List.getD_eq_getElem?_getD, e2]; rfl
    rw [e]; exact e3
  · obtain ⟨x, t, b, n, e1, _, e2, e3, _, e5, e6, _⟩ := hq i v hv
    have := G.rng x e2
    exact ⟨x, t, b, n, e1, e3, by lia, e5, e6⟩
theorem film_len {sp : Int} {m : Mo} : (filmL sp m).length = 3 * m.ring.length := by
  unfold filmL
  generalize m.ring = r
  induction r with
  | nil => rfl
  | cons a r ih => rw [List.flatMap_cons, List.length_append, ih]; show 3 + _ = _; rw [List.length_cons]; lia
theorem lightO_b {s w : Int} {c : Nat} (h0 : 40 ≤ s) (h1 : s < 140) (w0 : 0 ≤ w) (w1 : w < 64) : ∀ x ∈ oct3 (light s w c), 0 ≤ x ∧ x < 256 := by
  intro x hx
  unfold light oct3 at hx
  simp only [List.mem_cons, List.not_mem_nil, or_false] at hx
  rcases hx with rfl | rfl | rfl <;> (split <;> lia)
theorem film_in {sp : Int} {m : Mo} (G : Good m) (h0 : 40 ≤ sp) (h1 : sp < 140) : ∀ x ∈ filmL sp m, 0 ≤ x ∧ x < 256 := by
  intro x hx
  unfold filmL at hx
  obtain ⟨k, hk, hx⟩ := List.mem_flatMap.mp hx
  have := G.wb _ (wcAt_mem G hk)
  exact lightO_b h0 h1 this.1 this.2.1 x hx
theorem fd_of {K : Frag} {a : Addr} {oc : Value} {od : Option Addr} {fd : FuncData} {osl : Array (Option Value)} (h : K.lookup a = some ⟨oc, od, .func fd, osl⟩) : ∃ (o : Obj) (fd : FuncData), K.lookup a = some o ∧ o.data = .func fd := ⟨_, fd, h, rfl⟩
theorem news_own {h₀ h : Heap} {L : Addr} {a b : Addr × Obj} {own nw : List (Addr × Obj)} (N : News h₀ L h (a :: b :: (own ++ nw))) : News h₀ L h (a :: b :: nw) := fun p hp => N p (by
  rcases List.mem_cons.mp hp with h | hp
  · exact h ▸ .head _
  rcases List.mem_cons.mp hp with h | hp
  · exact h ▸ .tail _ (.head _)
  · exact .tail _ (.tail _ (List.mem_append_right _ hp)))
theorem CtC.use {w : World} {f : Addr} {d : Nat} {news : List (Addr × Obj)} {args : List Value} {Post : Value → List (Addr × Obj) → Prop} (C : CtC w f d news args Post)
    {loose : List Str} {mean : ExcName → Option Value} {mg mb : Str → Option Value} {dp un : Nat} {cn : Str} {cs : Scope} {a : Addr} {ccd : Value} {cl : List (Str × Addr)} {outer : List Env} {A₀ : Around} {base h₀ : Heap} {L : Addr} {m : Str → Option Value} {s : Shared} {Q E : Value → Shared → Prop}
    (B : Below A₀ base outer h₀) (F : Fr h₀ L s.heap m) (X : (Mine.hd.heap_1 w.params).In h₀) (N : News h₀ L s.heap news) (T : Top Mine.hd.view_1 loose mean mg mb h₀) (hk : cs.kind = .function) (hd : dp + d < recursionLimit) (hu : un + 8 * d < cLine)
    (k : ∀ r h' tk' news', Fr h₀ L h' m → News h₀ L h' news' → Post r news' → Q r { s with heap := h', toks := tk' }) :
    wpC (model Challenge.rw_zn0015_01.row.prog w) (ktrTop dp un (some []) cn cs L a ccd cl outer) (call (.ref f) args) Q E s := C _ _ _ _ _ _ _ _ _ _ _ _ _ _ _ _ _ _ _ _ B F X N T hk hd hu k
theorem pairs_conv {p p' : Program} {w w' : World} {es : List DictEntry} {kvs : List (Int × Value)} (h : Pairs (PySem.intKind p w) es kvs) : Pairs (PySem.intKind p' w') es kvs := by
  induction h with
  | nil => exact .nil
  | cons a b _ ih => exact .cons a b ih
theorem isDict_conv {p p' : Program} {w w' : World} {o : Obj} {kvs : List (Int × Value)} (h : o.IsDictOf (PySem.intKind p w) kvs) : o.IsDictOf (PySem.intKind p' w') kvs :=
  let ⟨es, ep, x, d, k, q, n⟩ := h; ⟨es, ep, x, d, k, pairs_conv q, n⟩
noncomputable def SameC (c1 c2 : List (Int × Int)) : Prop := c1.length = c2.length ∧ ∀ p ∈ c1, (c2.find? fun q => decide (q.1 = p.1)) = some p
theorem lookup_kdf (k : Int) : ∀ c : List (Int × Int), PySem.Spec.lookup (.int k) (kdfD c) = ((c.find? fun q => decide (q.1 = k)).map fun q => PyData.int q.2)
  | [] => rfl
  | (a, b) :: r => by
    show (if PySem.Spec.same (.int a) (.int k) then some (PyData.int b) else PySem.Spec.lookup (.int k) (kdfD r)) = _
    rw [PyProof.V.same_int, List.find?_cons]
    by_cases h : a = k
    · simp [h]
    · simp only [h, decide_false, Bool.false_eq_true, if_false]
      exact lookup_kdf k r
theorem keqRows_of {c2 : List (Int × Int)} : ∀ {c1 : List (Int × Int)}, (∀ p ∈ c1, (c2.find? fun q => decide (q.1 = p.1)) = some p) → KeqRows (kdfD c2) (kdfD c1) true
  | [], _ => .nil
  | (a, b) :: r, h => by
    have e := h (a, b) (.head _)
    have hl : PySem.Spec.lookup (.int a) (kdfD c2) = some (.int b) := by rw [lookup_kdf, e]; rfl
    have x := KeqRows.hit (v := PyData.int b) hl (keqRows_of fun p hp => h p (.tail _ hp))
    have e2 : (PyData.eqv (.int b) (.int b) && true) = true := by simp [PyData.eqv]
    rw [e2] at x
    exact x
section
variable {A : Around} {s : Shared}
theorem all_true (n : Nat) : ((List.range n).all fun _ => true) = true := by simp
theorem eqAt_tuple {a b : Addr} {xs ys : Array Value} (ha : s.heap.IsTuple a xs) (hb : s.heap.IsTuple b ys) (hsz : xs.size = ys.size) (hu : A.units < cLine)
    (he : ∀ j (h1 : j < xs.size) (h2 : j < ys.size), SeqAt.EqAt A.in1 s xs[j] ys[j] true) : SeqAt.EqAt A s (.ref a) (.ref b) true := by
  by_cases q : a = b
  · rw [q]; exact SeqAt.EqAt.same _
  · have x := SeqAt.RcAt.tuples (e := fun _ => true) ha hb hu he
    rw [all_true, hsz, beq_self_eq_true] at x
    exact SeqAt.EqAt.of_refs q x
theorem eqAt_list {a b : Addr} {xs ys : Array Value} (ha : s.heap.IsList a xs) (hb : s.heap.IsList b ys) (hsz : xs.size = ys.size) (hu : A.units < cLine)
    (he : ∀ j (h1 : j < xs.size) (h2 : j < ys.size), SeqAt.EqAt A.in1 s xs[j] ys[j] true) : SeqAt.EqAt A s (.ref a) (.ref b) true := by
  by_cases q : a = b
  · rw [q]; exact SeqAt.EqAt.same _
  · have x := SeqAt.RcAt.lists (e := fun _ => true) ha hb hsz hu he
    rw [all_true] at x
    exact SeqAt.EqAt.of_refs q x
theorem eqAt_dict {p : Program} {w : World} {a b : Addr} {oa ob : Obj} {ka kb : List (Int × Value)} {c1 c2 : List (Int × Int)} (ea : s.heap.get? a = some oa) (eb : s.heap.get? b = some ob) (la : (a == sysModules) = false) (lb : (b == sysModules) = false)
    (da : oa.IsDictOf (PySem.intKind p w) ka) (db : ob.IsDictOf (PySem.intKind p w) kb) (fa : PyProof.V.FlatPairs PyData.int ka (kdfD c1)) (fb : PyProof.V.FlatPairs PyData.int kb (kdfD c2)) (hs : SameC c1 c2) (hu : A.units < cLine) :
    SeqAt.EqAt A s (.ref a) (.ref b) true := by
  by_cases q : a = b
  · rw [q]; exact SeqAt.EqAt.same _
  · refine SeqAt.EqAt.of_refs q fun prog w' E Q h => ?_
    refine keq_tabs (knd := PySem.intKind prog w') (enc := PyData.int) PyProof.V.same_int ⟨la, ka, Heap.dictOf_iff.mpr ⟨oa, ea, isDict_conv da⟩, fa⟩ ⟨lb, kb, Heap.dictOf_iff.mpr ⟨ob, eb, isDict_conv db⟩, fb⟩ (by simp [kdfD_length, hs.1]) hu (keqRows_of hs.2) h
theorem eqAt_int {a : Int} {t u : Tok} : SeqAt.EqAt A s (.int a t) (.int a u) true := by
  have x := SeqAt.EqAt.int_int (A := A) (s := s) a t a u
  rwa [beq_self_eq_true] at x
theorem eqAt_bool {a : Bool} : SeqAt.EqAt A s (.bool a) (.bool a) true := SeqAt.EqAt.same _
theorem eqAt_bytes {b : Array UInt8} {t u : Tok} : SeqAt.EqAt A s (.bytes b t) (.bytes b u) true := fun prog w E Q h => eqBool_bytes (by simpa using h)
structure EntEq (e f : Ent) : Prop where
  cc : e.cc = f.cc
  nc : e.nc = f.nc
  tt : e.tt = f.tt
  ct : e.ct = f.ct
  c : SameC e.c f.c
theorem idx5 {P : ∀ j, j < 5 → Prop} (h0 : P 0 (by decide)) (h1 : P 1 (by decide)) (h2 : P 2 (by decide)) (h3 : P 3 (by decide)) (h4 : P 4 (by decide)) : ∀ j (h : j < 5), P j h := fun j h =>
  match j, h with
  | 0, _ => h0
  | 1, _ => h1
  | 2, _ => h2
  | 3, _ => h3
  | 4, _ => h4
variable {w : World} {h₀ : Heap} {L : Addr} {news : List (Addr × Obj)}
theorem eqAt_ent {v u : Value} {e f : Ent} (N : News h₀ L s.heap news) (hv : EntAt w news v e) (hu : EntAt w news u f) (q : EntEq e f) (h0 : A.units < cLine) (h1 : A.in1.units < cLine) : SeqAt.EqAt A s v u true := by
  obtain ⟨t, d, o, kvs, n, s1, s2, s3, s4, rfl, mt, md, ld, hd, fd, _⟩ := hv
  obtain ⟨t', d', o', kvs', n', s1', s2', s3', s4', rfl, mt', md', ld', hd', fd', _⟩ := hu
  rw [← q.cc, ← q.nc, ← q.tt, ← q.ct] at mt'
  refine eqAt_tuple ⟨_, (N _ mt).1, rfl, n, rfl⟩ ⟨_, (N _ mt').1, rfl, n', rfl⟩ rfl h0 fun j j1 j2 => ?_
  exact idx5 (P := fun j h => SeqAt.EqAt A.in1 s (#[Value.int e.cc s1, .int e.nc s2, .int e.tt s3, .int e.ct s4, .ref d][j]'h) (#[Value.int e.cc s1', .int e.nc s2', .int e.tt s3', .int e.ct s4', .ref d'][j]'h) true)
    eqAt_int eqAt_int eqAt_int eqAt_int (eqAt_dict (N _ md).1 (N _ md').1 ld ld' hd hd' fd fd' q.c h1) j j1
theorem eqAt_ens {a b : Addr} {n m : Nat} {evs fvs : List Value} {es fs : List Ent} (N : News h₀ L s.heap news) (ha : (a, ({ cls := .type "list", data := .seq evs.toArray n } : Obj)) ∈ news) (hb : (b, ({ cls := .type "list", data := .seq fvs.toArray m } : Obj)) ∈ news)
    (he : Ens w es evs news) (hf : Ens w fs fvs news) (hl : es.length = fs.length) (q : ∀ (i : Nat) (e f : Ent), es[i]? = some e → fs[i]? = some f → EntEq e f) (h0 : A.units < cLine) (h1 : A.in1.units < cLine) (h2 : A.in1.in1.units < cLine) : SeqAt.EqAt A s (.ref a) (.ref b) true := by
  refine eqAt_list ⟨_, (N _ ha).1, rfl, n, rfl⟩ ⟨_, (N _ hb).1, rfl, m, rfl⟩ (by simp [he.1, hf.1, hl]) h0 fun j j1 j2 => ?_
  have k1 : j < evs.length := by simpa using j1
  have k2 : j < fvs.length := by simpa using j2
  have k3 : j < es.length := by rw [← he.1]; exact k1
  have k4 : j < fs.length := by rw [← hf.1]; exact k2
  have x := he.2 j _ _ (List.getElem?_eq_getElem k3) (List.getElem?_eq_getElem k1)
  have y := hf.2 j _ _ (List.getElem?_eq_getElem k4) (List.getElem?_eq_getElem k2)
  have z := eqAt_ent N x y (q j _ _ (List.getElem?_eq_getElem k3) (List.getElem?_eq_getElem k4)) h1 h2
  simpa using z
theorem eqAt_row {v u : Value} {r : Int × Bool} (N : News h₀ L s.heap news) (hv : RowAt news v r) (hu : RowAt news u r) (h0 : A.units < cLine) : SeqAt.EqAt A s v u true := by
  obtain ⟨t, n, s1, rfl, m1⟩ := hv
  obtain ⟨t', n', s1', rfl, m1'⟩ := hu
  refine eqAt_tuple ⟨_, (N _ m1).1, rfl, n, rfl⟩ ⟨_, (N _ m1').1, rfl, n', rfl⟩ rfl h0 fun j j1 j2 => ?_
  have : j = 0 ∨ j = 1 := by have : j < 2 := j1; lia
  rcases this with rfl | rfl
  · exact eqAt_int
  · exact eqAt_bool
theorem eqAt_rows {a b : Addr} {n m : Nat} {rvs qvs : List Value} {rows : List (Int × Bool)} (N : News h₀ L s.heap news) (ha : (a, ({ cls := .type "list", data := .seq rvs.toArray n } : Obj)) ∈ news) (hb : (b, ({ cls := .type "list", data := .seq qvs.toArray m } : Obj)) ∈ news)
    (he : RowsAt rows rvs news) (hf : RowsAt rows qvs news) (h0 : A.units < cLine) (h1 : A.in1.units < cLine) : SeqAt.EqAt A s (.ref a) (.ref b) true := by
  refine eqAt_list ⟨_, (N _ ha).1, rfl, n, rfl⟩ ⟨_, (N _ hb).1, rfl, m, rfl⟩ (by simp [he.1, hf.1]) h0 fun j j1 j2 => ?_
  have k1 : j < rvs.length := by simpa using j1
  have k2 : j < qvs.length := by simpa using j2
  have k3 : j < rows.length := by rw [← he.1]; exact k1
  have x := he.2 j _ _ (List.getElem?_eq_getElem k3) (List.getElem?_eq_getElem k1)
  have y := hf.2 j _ _ (List.getElem?_eq_getElem k3) (List.getElem?_eq_getElem k2)
  have z := eqAt_row (A := A.in1) N x y h1
  simpa using z
theorem law_eq {prog : Program} {w' : World} {E : Value → Shared → Prop} {Q : Value → Shared → Prop} {t t' aE aE' aR aR' : Addr} {nt nt' nE nE' nR nR' : Nat} {bs : Array UInt8} {tb tb' : Tok} {evs fvs rvs qvs : List Value} {es fs : List Ent} {rows : List (Int × Bool)} (N : News h₀ L s.heap news)
    (mt : (t, ({ cls := .type "tuple", data := .seq #[.bytes bs tb, .ref aE, .ref aR] nt } : Obj)) ∈ news) (mt' : (t', ({ cls := .type "tuple", data := .seq #[.bytes bs tb', .ref aE', .ref aR'] nt' } : Obj)) ∈ news)
    (ha : (aE, ({ cls := .type "list", data := .seq evs.toArray nE } : Obj)) ∈ news) (hb : (aE', ({ cls := .type "list", data := .seq fvs.toArray nE' } : Obj)) ∈ news)
    (he : Ens w es evs news) (hf : Ens w fs fvs news) (hl : es.length = fs.length) (q : ∀ (i : Nat) (e f : Ent), es[i]? = some e → fs[i]? = some f → EntEq e f)
    (hr : (aR, ({ cls := .type "list", data := .seq rvs.toArray nR } : Obj)) ∈ news) (hr' : (aR', ({ cls := .type "list", data := .seq qvs.toArray nR' } : Obj)) ∈ news) (hR : RowsAt rows rvs news) (hR' : RowsAt rows qvs news)
    (h0 : A.units < cLine) (h1 : A.in1.units < cLine) (h2 : A.in1.in1.units < cLine) (h3 : A.in1.in1.in1.units < cLine) (h : Q (.bool true) s) :
    wpAny (model prog w') A (compareOp .Eq (.ref t) (.ref t')) Q E s := by
  have x := SeqAt.RcAt.tuples (A := A) (s := s) (e := fun _ => true) (l := t) (b := t') (items := #[.bytes bs tb, .ref aE, .ref aR]) (items2 := #[.bytes bs tb', .ref aE', .ref aR']) ⟨_, (N _ mt).1, rfl, nt, rfl⟩ ⟨_, (N _ mt').1, rfl, nt', rfl⟩ h0 (fun j j1 j2 => by
    have : j = 0 ∨ j = 1 ∨ j = 2 := by have : j < 3 := j1; lia
    rcases this with rfl | rfl | rfl
    · exact eqAt_bytes
    · exact eqAt_ens (A := A.in1) N ha hb he hf hl q h1 h2 h3
    · exact eqAt_rows (A := A.in1) N hr hr' hR hR' h1 h2)
  exact x prog w' E Q h
end
noncomputable def Bk (d : Du) (j : Nat) : Int × Int := if j < d.m.ring.length then rp d (d.m.ring.length - 1 - j) else (-(rp d (d.m.ring.length - 1)).1, -(rp d (d.m.ring.length - 1)).2)
noncomputable def Ef (d : Du) (i j : Nat) : Int := det (Bk d j) (Bk d i)
theorem det_neg (p q : Int × Int) : det (-p.1, -p.2) q = det q p := by unfold det; grind
theorem det_lin (c : Int) (a b p q x : Int × Int) (h1 : c * p.1 = a.1 + b.1) (h2 : c * p.2 = a.2 + b.2) (hq : q = a) : det q x = c * det p x - det b x := by
  subst hq
  have e1 : q.1 = c * p.1 - b.1 := by (clear h2; omega)
  have e2 : q.2 = c * p.2 - b.2 := by (clear h1 e1; omega)
  unfold det
  rw [e1, e2]
  grind
theorem rev_get (d : Du) {i : Nat} (h : i < d.m.ring.length) : d.m.ring.reverse.getD i 0 = d.m.ring.getD (d.m.ring.length - 1 - i) 0 := by
  rw [List.getD_eq_getElem?_getD, List.getElem?_reverse h, ← List.getD_eq_getElem?_getD]
theorem rv_lt {n i : Nat} (h : i < n) : n - 1 - i < n := Nat.lt_of_le_of_lt (Nat.sub_le _ _) (Nat.sub_one_lt (Nat.ne_zero_of_lt h))
theorem rv_anti {n i j : Nat} (h : i < j) (hj : j < n) : n - 1 - j < n - 1 - i := Nat.sub_lt_sub_left (Nat.lt_of_lt_of_le h (Nat.le_sub_one_of_lt hj)) h
theorem rv_pred {n j : Nat} (h : 0 < j) (hj : j < n) : n - 1 - (j - 1) = n - 1 - j + 1 := by
  obtain ⟨k, rfl⟩ : ∃ k, j = k + 1 := ⟨j - 1, (Nat.succ_pred_eq_of_pos h).symm⟩
  show n - 1 - k = (n - 1 - k) - 1 + 1
  exact (Nat.succ_pred_eq_of_pos (Nat.sub_pos_of_lt (Nat.lt_sub_of_add_lt hj))).symm
theorem rv_ne {n j : Nat} (h : 0 < j) (hj : j < n) : ¬ n - 1 - j + 1 = n := fun e => by
  rw [← rv_pred h hj] at e
  exact Nat.ne_of_lt (rv_lt (Nat.lt_of_le_of_lt (Nat.sub_le j 1) hj)) e
theorem rv_pos {n j : Nat} (h : j + 1 < n) : ¬ n - 1 - j = 0 := Nat.ne_of_gt (Nat.sub_pos_of_lt (Nat.lt_sub_of_add_lt h))
theorem rv_zero {n j : Nat} (h : ¬ j + 1 < n) (hj : j < n) : n - 1 - j = 0 := Nat.sub_eq_zero_of_le (Nat.sub_le_of_le_add (Nat.not_lt.mp h))
section
variable {d : Du} (G : GoodD d) (Z : Fz d)
include G Z
theorem ef_0 (i : Nat) : Ef d i i = 0 := det_self _
theorem ef_1 {i : Nat} (h : i < d.m.ring.length) : Ef d i (i + 1) = 1 := by
  have h3 := G.good.k3
  unfold Ef Bk
  rw [if_pos h]
  by_cases q : i + 1 < d.m.ring.length
  · rw [if_pos q]
    have e : d.m.ring.length - 1 - (i + 1) + 1 = d.m.ring.length - 1 - i := (rv_pred (Nat.succ_pos i) q).symm
    have := Z.adj (d.m.ring.length - 1 - (i + 1)) (by rw [e]; exact rv_lt h)
    rwa [e] at this
  · rw [if_neg q, det_neg]
    rw [rv_zero q h]; exact Z.cyc
theorem rp_b (hk : d.m.ring.length ≤ 9) {i : Nat} (h : i < d.m.ring.length) : (rp d i).1.natAbs ≤ 64 ∧ (rp d i).2.natAbs ≤ 64 := by
  have hm := ring_b G (ring_at G h)
  have := G.pb _ (pAt_mem (ps := d.ps) (i := d.m.ring.getD i 0) (by rw [G.pl]; exact hm.2))
  have h64 := pow_le64 hk
  exact ⟨Nat.le_trans this.1 h64, Nat.le_trans this.2 h64⟩
theorem ef_b (hk : d.m.ring.length ≤ 9) {i j : Nat} (hij : i ≤ j) (hj : j < d.m.ring.length) : 0 ≤ Ef d i j ∧ Ef d i j < 2 ^ 30 := by
  have h0 : 0 ≤ Ef d i j := by
    by_cases q : i = j
    · rw [q, ef_0 G Z]; exact Int.le_refl 0
    · unfold Ef Bk
      have ij : i < j := Nat.lt_of_le_of_ne hij q
      rw [if_pos hj, if_pos (Nat.lt_trans ij hj)]
      exact Int.le_trans (by decide) (Z.pos (d.m.ring.length - 1 - j) (d.m.ring.length - 1 - i) (rv_anti ij hj) (rv_lt (Nat.lt_trans ij hj)))
  refine ⟨h0, ?_⟩
  have b1 := rp_b G Z hk (i := d.m.ring.length - 1 - i) (rv_lt (Nat.lt_of_le_of_lt hij hj))
  have b2 := rp_b G Z hk (i := d.m.ring.length - 1 - j) (rv_lt hj)
  unfold Ef Bk
  rw [if_pos hj, if_pos (Nat.lt_of_le_of_lt hij hj)]
  unfold det
  generalize rp d (d.m.ring.length - 1 - i) = p at *
  generalize rp d (d.m.ring.length - 1 - j) = q at *
  have m : ∀ {x y : Int}, x.natAbs ≤ 64 → y.natAbs ≤ 64 → (x * y).natAbs ≤ 4096 := fun {x y} hx hy => by
    rw [Int.natAbs_mul]; exact Nat.mul_le_mul hx hy
  have m1 := m b2.1 b1.2
  have m2 := m b2.2 b1.1
  lia
theorem ef_rec {i j : Nat} (hij : i < j) (hj : j < d.m.ring.length) : Ef d i (j + 1) = ccp d (d.m.ring.length - 1 - j) * Ef d i j - Ef d i (j - 1) := by
  have h3 := G.good.k3
  have j0 : 0 < j := Nat.lt_of_le_of_lt (Nat.zero_le i) hij
  have j1 : j - 1 < d.m.ring.length := Nat.lt_of_le_of_lt (Nat.sub_le j 1) hj
  have z := Z.cnt (d.m.ring.length - 1 - j) (rv_lt hj)
  refine det_lin _ (prd d (d.m.ring.length - 1 - j)) (Bk d (j - 1)) (Bk d j) (Bk d (j + 1)) (Bk d i) ?_ ?_ ?_
  · have e : Bk d (j - 1) = suc d (d.m.ring.length - 1 - j) := by
      unfold Bk suc
      rw [if_pos j1, if_neg (rv_ne j0 hj), rv_pred j0 hj]
    have e2 : Bk d j = rp d (d.m.ring.length - 1 - j) := by unfold Bk; rw [if_pos hj]
    rw [e, e2]; exact z.1
  · have e : Bk d (j - 1) = suc d (d.m.ring.length - 1 - j) := by
      unfold Bk suc
      rw [if_pos j1, if_neg (rv_ne j0 hj), rv_pred j0 hj]
    have e2 : Bk d j = rp d (d.m.ring.length - 1 - j) := by unfold Bk; rw [if_pos hj]
    rw [e, e2]; exact z.2
  · unfold Bk prd
    by_cases q : j + 1 < d.m.ring.length
    · rw [if_pos q, if_neg (rv_pos q)]
      congr 1
    · rw [if_neg q, if_pos (rv_zero q hj)]
theorem ef_ent {i j : Nat} (hij : i < j) (hj : j < d.m.ring.length) : Ef d i j = entA (pAt d.ps (d.m.ring.reverse.getD i 0)) (pAt d.ps (d.m.ring.reverse.getD j 0)) := by
  have hi := Nat.lt_trans hij hj
  rw [rev_get d hi, rev_get d hj]
  show _ = entA (rp d (d.m.ring.length - 1 - i)) (rp d (d.m.ring.length - 1 - j))
  rw [entA_det, det_anti]
  unfold Ef Bk
  rw [if_pos hj, if_pos hi]
  have := Z.pos (d.m.ring.length - 1 - j) (d.m.ring.length - 1 - i) (rv_anti hij hj) (rv_lt hi)
  (clear G Z hij hj hi; omega)
end
theorem mod2_mul (a b : Int) : (a * b) % 2 = (a % 2) * (b % 2) := by
  have h1 := Int.emod_two_eq a
  have h2 := Int.emod_two_eq b
  rw [Int.mul_emod]
  rcases h1 with h1 | h1 <;> rcases h2 with h2 | h2 <;> simp [h1, h2]
theorem par_col {p q : Int × Int} (n1 : ¬ (p.1 % 2 = 0 ∧ p.2 % 2 = 0)) (n2 : ¬ (q.1 % 2 = 0 ∧ q.2 % 2 = 0)) : entA p q % 2 = 0 ↔ colP p = colP q := by
  have e : entA p q % 2 = 0 ↔ (p.1 % 2 * (q.2 % 2) - p.2 % 2 * (q.1 % 2)) % 2 = 0 := by
    rw [← mod2_mul, ← mod2_mul]
    unfold entA
    omega
  rw [e, colP_eq, colP_eq]
  have a1 := Int.emod_two_eq p.1
  have a2 := Int.emod_two_eq p.2
  have a3 := Int.emod_two_eq q.1
  have a4 := Int.emod_two_eq q.2
  rcases a1 with a1 | a1 <;> rcases a2 with a2 | a2 <;> rcases a3 with a3 | a3 <;> rcases a4 with a4 | a4 <;> simp [a1, a2, a3, a4] at n1 n2 ⊢
noncomputable def colsL (m : Mo) : List (Int × Nat) := m.ring.reverse.map fun k => ((wcAt m k).1, 2 - (wcAt m k).2)
theorem colsL_at {m : Mo} {i : Nat} (h : i < m.ring.length) : (colsL m)[i]? = some ((wcAt m (m.ring.reverse.getD i 0)).1, 2 - (wcAt m (m.ring.reverse.getD i 0)).2) := by
  unfold colsL
  rw [List.getElem?_map, List.getD_eq_getElem?_getD, List.getElem?_eq_getElem (by rw [List.length_reverse]; exact h)]; rfl
theorem two_sub {a b : Nat} (ha : a < 3) (hb : b < 3) : (2 - a = 2 - b) ↔ (a = b) := ⟨fun h => by omega, fun h => by rw [h]⟩
theorem rows_eq {d : Du} (G : GoodD d) (Z : Fz d) : fRows (Ef d) (fun i => ((colsL d.m).getD i (0, 0)).2) d.m.ring.length d.m.ring.length =
    gRows (fun i j => entA (pAt d.ps (d.m.ring.reverse.getD i 0)) (pAt d.ps (d.m.ring.reverse.getD j 0))) d.m.ring.length d.m.ring.length := by
  unfold fRows gRows
  rw [List.flatMap_def, List.flatMap_def]
  congr 1
  refine List.map_congr_left fun a ha => ?_
  have ha' := List.mem_range.mp ha
  unfold fRow gRow
  refine List.map_congr_left fun b hb => ?_
  have hb' := List.mem_range.mp hb
  have hj : a + 1 + b < d.m.ring.length := Nat.add_comm b (a + 1) ▸ Nat.add_lt_of_lt_sub hb'
  rw [ef_ent G Z (Nat.lt_of_lt_of_le (Nat.lt_succ_self a) (Nat.le_add_right _ _)) hj]
  congr 1
  have c1 := Z.col _ (ring_at G (i := d.m.ring.length - 1 - a) (rv_lt ha'))
  have c2 := Z.col _ (ring_at G (i := d.m.ring.length - 1 - (a + 1 + b)) (rv_lt hj))
  have w1 := (G.good.wb _ (wcAt_mem G.good (ring_at G (i := d.m.ring.length - 1 - a) (rv_lt ha')))).2.2
  have w2 := (G.good.wb _ (wcAt_mem G.good (ring_at G (i := d.m.ring.length - 1 - (a + 1 + b)) (rv_lt hj)))).2.2
  refine decide_eq_decide.mpr ?_
  dsimp only
  have cg : ∀ {i}, i < d.m.ring.length → (colsL d.m).getD i (0, 0) = ((wcAt d.m (d.m.ring.reverse.getD i 0)).1, 2 - (wcAt d.m (d.m.ring.reverse.getD i 0)).2) := fun {i} h => by
    rw [List.getD_eq_getElem?_getD, colsL_at h]; rfl
  rw [cg ha', cg hj, rev_get d ha', rev_get d hj]
  have p := par_col c1.2 c2.2
  rw [c1.1, c2.1] at p
  rw [p]
  exact two_sub w1 w2
theorem byte_back {x : Int} (h0 : 0 ≤ x) (h1 : x < 256) : ((x.toNat.toUInt8).toNat : Int) = x := by
  have : x.toNat < 256 := by lia
  have e : x.toNat.toUInt8.toNat = x.toNat % 256 := by simp
  rw [e, Nat.mod_eq_of_lt this]; lia
noncomputable def bytesL (l : List Int) : List UInt8 := l.map fun n => n.toNat.toUInt8
theorem bytesL_get {l : List Int} (h : ∀ x ∈ l, 0 ≤ x ∧ x < 256) (i : Nat) : (((bytesL l).getD i 0).toNat : Int) = l.getD i 0 := by
  unfold bytesL
  rw [List.getD_eq_getElem?_getD, List.getElem?_map, List.getD_eq_getElem?_getD]
  cases e : l[i]? with
  | none => rfl
  | some x =>
    have := h x (List.mem_of_getElem? e)
    exact byte_back this.1 this.2
theorem flat3 {α : Type} (g : α → Int × Int × Int) : ∀ (l : List α) (i : Nat) (a : α), l[i]? = some a →
    (l.flatMap fun a => oct3 (g a)).getD (3 * i) 0 = (g a).1 ∧ (l.flatMap fun a => oct3 (g a)).getD (3 * i + 1) 0 = (g a).2.1 ∧ (l.flatMap fun a => oct3 (g a)).getD (3 * i + 2) 0 = (g a).2.2
  | b :: r, 0, a, h => by cases h; exact ⟨rfl, rfl, rfl⟩
  | b :: r, i + 1, a, h => by
    have ih := flat3 g r i a (by simpa using h)
    have e : ∀ k, ((b :: r).flatMap fun a => oct3 (g a)).getD (3 * (i + 1) + k) 0 = (r.flatMap fun a => oct3 (g a)).getD (3 * i + k) 0 := fun k => by
      rw [List.flatMap_cons, List.getD_eq_getElem?_getD, List.getElem?_append_right (by show 3 ≤ _; lia), ← List.getD_eq_getElem?_getD]
      congr 1
      show 3 * (i + 1) + k - 3 = _
      lia
    exact ⟨(e 0).trans ih.1, (e 1).trans ih.2.1, (e 2).trans ih.2.2⟩
theorem light_rev {s w : Int} {c : Nat} (h : c < 3) : (oct3 (light s w c)).reverse = oct3 (light s w (2 - c)) := by
  unfold oct3 light
  match c, h with
  | 0, _ => simp
  | 1, _ => simp
  | 2, _ => simp
theorem film_rev {sp : Int} {m : Mo} (G : Good m) : (filmL sp m).reverse = (colsL m).flatMap fun p => oct3 (light sp p.1 p.2) := by
  unfold filmL colsL
  rw [List.reverse_flatMap, List.flatMap_map, List.flatMap_def, List.flatMap_def]
  congr 1
  refine List.map_congr_left fun k hk => ?_
  have := G.wb _ (wcAt_mem G (List.mem_reverse.mp hk))
  exact light_rev this.2.2
theorem film_due {sp : Int} {d : Du} (G : GoodD d) (Z : Fz d) : d.m.ring.foldl (octF sp d) [] = (filmL sp d.m).reverse := by
  unfold filmL
  have key : ∀ (l : List Int) (acc : List Int), (∀ v ∈ l, v ∈ d.m.ring) → l.foldl (octF sp d) acc = (l.flatMap fun k => oct3 (light sp (wcAt d.m k).1 (wcAt d.m k).2)).reverse ++ acc := by
    intro l
    induction l with
    | nil => intro acc _; rfl
    | cons k r ih =>
      intro acc h
      rw [List.foldl_cons, ih _ fun v hv => h v (.tail _ hv), List.flatMap_cons, List.reverse_append, List.append_assoc]
      congr 1
      unfold octF
      rw [(Z.col k (h k (.head _))).1]
      rfl
  rw [key _ [] fun v hv => hv, List.append_nil]
theorem bytesL_rev (l : List Int) : (bytesL l).reverse = bytesL l.reverse := by unfold bytesL; rw [List.map_reverse]
theorem frieze_asks (sp : Int) (ns : List Int) (hn : ns.length ≤ 6) (h0 : 40 ≤ sp) (h1 : sp < 140) :
    let m := runM sp ns; let d := runD sp ns
    let cs := (bytesL (m.ring.map (ccAt m))).reverse; let fs := (bytesL (filmL sp m)).reverse
    0 < cs.length ∧ cs.length ≤ 9 ∧ (∀ i, i < cs.length → ∃ v c, (colsL m)[i]? = some (v, c) ∧ 0 ≤ v ∧ v < 64 ∧ c < 3 ∧ ((fs.getD (3 * i) 0).toNat : Int) = (light sp v c).1 ∧ ((fs.getD (3 * i + 1) 0).toNat : Int) = (light sp v c).2.1 ∧ ((fs.getD (3 * i + 2) 0).toNat : Int) = (light sp v c).2.2) ∧
      fs.length = 3 * cs.length ∧ (colsL m).length = cs.length ∧ (∀ i, i < cs.length → Ef d i i = 0 ∧ Ef d i (i + 1) = 1) ∧ (∀ i j, i ≤ j → j < cs.length → 0 ≤ Ef d i j ∧ Ef d i j < 2 ^ 30) ∧
      (∀ i j, i < j → j < cs.length → Ef d i (j + 1) = ((cs.getD j 0).toNat : Int) * Ef d i j - Ef d i (j - 1)) ∧ cs.length = m.ring.length := by
  intro m d cs fs
  have G := good_run sp ns
  have GD := goodD_run sp ns
  have Z := fz_run sp ns
  have hl := run_len sp ns
  have em : (runD sp ns).m = runM sp ns := runD_m sp ns
  have hcl : cs.length = m.ring.length := by
    show (bytesL _).reverse.length = _
    rw [List.length_reverse]; unfold bytesL; rw [List.length_map, List.length_map]
  have hr : d.m.ring.length = m.ring.length := by show (runD sp ns).m.ring.length = _; rw [em]
  have hfl : fs.length = 3 * m.ring.length := by
    show (bytesL _).reverse.length = _
    rw [List.length_reverse]; unfold bytesL; rw [List.length_map, film_len]
  have h9 : m.ring.length ≤ 9 := by show (runM sp ns).ring.length ≤ 9; lia
  have h3 : 3 ≤ m.ring.length := G.k3
  rw [hcl]
  refine ⟨by lia, h9, ?_, by omega, ?_, ?_, ?_, ?_, rfl⟩
  · intro i hi
    have hc := colsL_at hi
    refine ⟨_, _, hc, ?_⟩
    have hm : m.ring.reverse.getD i 0 ∈ m.ring := by
      rw [List.getD_eq_getElem?_getD, List.getElem?_eq_getElem (by rw [List.length_reverse]; exact hi)]
      exact List.mem_reverse.mp (List.getElem_mem _)
    have hw := G.wb _ (wcAt_mem G hm)
    refine ⟨hw.1, hw.2.1, by (clear hn h0 h1 G GD Z hl em hcl hr hfl h9 h3 hi hc hm hw; omega), ?_⟩
    have f := flat3 (fun p : Int × Nat => light sp p.1 p.2) (colsL m) i _ hc
    have hin : ∀ x ∈ (filmL sp m).reverse, 0 ≤ x ∧ x < 256 := fun x hx => film_in G h0 h1 x (List.mem_reverse.mp hx)
    have ef : fs = bytesL (filmL sp m).reverse := bytesL_rev _
    rw [ef, bytesL_get hin, bytesL_get hin, bytesL_get hin, film_rev G]
    exact f
  · unfold colsL; rw [List.length_map, List.length_reverse]
  · intro i hi
    exact ⟨ef_0 GD Z i, ef_1 GD Z (by rw [hr]; exact hi)⟩
  · intro i j hij hj
    exact ef_b GD Z (by rw [hr]; exact h9) hij (by rw [hr]; exact hj)
  · intro i j hij hj
    have z := ef_rec GD Z hij (j := j) (by rw [hr]; exact hj)
    have hin : ∀ x ∈ (m.ring.map (ccAt m)).reverse, 0 ≤ x ∧ x < 256 := fun x hx => cc_in sp ns hn x (List.mem_reverse.mp hx)
    have ec : cs = bytesL (m.ring.map (ccAt m)).reverse := bytesL_rev _
    rw [ec, bytesL_get hin, z]
    congr 2
    rw [List.getD_eq_getElem?_getD, List.getElem?_reverse (by rw [List.length_map]; exact hj), List.getElem?_map, List.length_map]
    show ccAt (runD sp ns).m ((runD sp ns).m.ring.getD ((runD sp ns).m.ring.length - 1 - j) 0) = _
    rw [em, List.getD_eq_getElem?_getD, List.getElem?_eq_getElem (rv_lt hj)]
    rfl
noncomputable def lk (c : List (Int × Int)) (k : Int) : Option Int := (c.find? fun p => decide (p.1 = k)).map (·.2)
theorem kdfHas_lk (c : List (Int × Int)) (k : Int) : (c.any fun p => decide (p.1 = k)) = (lk c k).isSome := by
  unfold lk
  rw [Option.isSome_map]
  induction c with
  | nil => rfl
  | cons a r ih =>
    rw [List.any_cons, List.find?_cons]
    by_cases h : a.1 = k
    · simp [h]
    · simp only [h, decide_false, Bool.false_or]; exact ih
theorem kdfLook_lk (c : List (Int × Int)) (k : Int) : kdfLook c k 0 = (lk c k).getD 0 := rfl
theorem lk_map (k v k' : Int) : ∀ c : List (Int × Int), lk (c.map fun p => if decide (p.1 = k) then (p.1, v) else p) k' = if k' = k then (lk c k').map (fun _ => v) else lk c k'
  | [] => by simp [lk]
  | (a, b) :: r => by
    have ih := lk_map k v k' r
    unfold lk at ih ⊢
    rw [List.map_cons, List.find?_cons, List.find?_cons]
    by_cases h1 : a = k
    · subst h1
      by_cases h2 : a = k'
      · subst h2; simp
      · simp only [decide_true, if_true, h2, decide_false]; exact ih
    · by_cases h2 : a = k'
      · subst h2; simp [h1]
      · simp only [h1, decide_false, h2, Bool.false_eq_true, if_false]; exact ih
theorem lk_app (c : List (Int × Int)) (k v k' : Int) : lk (c ++ [(k, v)]) k' = (lk c k').or (if k' = k then some v else none) := by
  unfold lk
  rw [List.find?_append]
  cases c.find? fun p => decide (p.1 = k') with
  | some p => rfl
  | none =>
    by_cases h : k' = k
    · subst h; simp
    · have h2 : ¬ k = k' := fun e => h e.symm
      simp [h, h2]
theorem lk_put (c : List (Int × Int)) (k v k' : Int) : lk (kdfPut c k v) k' = if k' = k then some v else lk c k' := by
  unfold kdfPut
  rw [kdfHas_lk]
  cases h : (lk c k).isSome with
  | true =>
    rw [if_pos rfl, lk_map]
    by_cases q : k' = k
    · subst q
      rw [if_pos rfl, if_pos rfl]
      obtain ⟨x, hx⟩ := Option.isSome_iff_exists.mp h
      rw [hx]; rfl
    · rw [if_neg q, if_neg q]
  | false =>
    rw [if_neg (by decide), lk_app]
    by_cases q : k' = k
    · subst q
      rw [if_pos rfl, if_pos rfl, Option.isSome_eq_false_iff.mp h |> Option.isNone_iff_eq_none.mp]; rfl
    · rw [if_neg q, if_neg q]; cases lk c k' <;> rfl
theorem len_put (c : List (Int × Int)) (k v : Int) : (kdfPut c k v).length = c.length + if (lk c k).isSome then 0 else 1 := by
  unfold kdfPut
  rw [kdfHas_lk]
  cases h : (lk c k).isSome with
  | true => rw [if_pos rfl, if_pos rfl, List.length_map]; rfl
  | false => rw [if_neg (by decide), if_neg (by decide), List.length_append]; rfl
theorem add2 (c : List (Int × Int)) (k1 k2 : Int) : addTo c [(k1, 1), (k2, 1)] = kdfPut (kdfPut c k1 (kdfLook c k1 0 + 1)) k2 (kdfLook (kdfPut c k1 (kdfLook c k1 0 + 1)) k2 0 + 1) := rfl
theorem lk_add2 (c : List (Int × Int)) {k1 k2 : Int} (h : k1 ≠ k2) (k : Int) : lk (addTo c [(k1, 1), (k2, 1)]) k = if k = k1 ∨ k = k2 then some ((lk c k).getD 0 + 1) else lk c k := by
  rw [add2, lk_put, kdfLook_lk, lk_put, kdfLook_lk, lk_put, if_neg (Ne.symm h)]
  by_cases q2 : k = k2
  · subst q2; rw [if_pos rfl, if_pos (.inr rfl)]
  · rw [if_neg q2]
    by_cases q1 : k = k1
    · subst q1; rw [if_pos rfl, if_pos (.inl rfl)]
    · rw [if_neg q1, if_neg (by rintro (x | x); exact q1 x; exact q2 x)]
theorem len_add2 (c : List (Int × Int)) {k1 k2 : Int} (h : k1 ≠ k2) : (addTo c [(k1, 1), (k2, 1)]).length = c.length + (if (lk c k1).isSome then 0 else 1) + if (lk c k2).isSome then 0 else 1 := by
  rw [add2, len_put, len_put, lk_put, if_neg (Ne.symm h)]
structure EqX (e f : Ent) : Prop where
  cc : e.cc = f.cc
  nc : e.nc = f.nc
  tt : e.tt = f.tt
  ct : e.ct = f.ct
  lk : ∀ k, lk e.c k = lk f.c k
  len : e.c.length = f.c.length
  nd : (e.c.map (·.1)).Nodup
theorem EqX.zero : EqX Ent.zero Ent.zero := ⟨rfl, rfl, rfl, rfl, fun _ => rfl, rfl, List.nodup_nil⟩
theorem EqX.upd {e f : Ent} (h : EqX e f) {k1 k2 : Int} (hk : k1 ≠ k2) (w o : Int) : EqX (e.upd k1 k2 w o) (f.upd k1 k2 w o) := by
  refine ⟨?_, ?_, ?_, ?_, fun k => ?_, ?_, addTo_nodup _ h.nd⟩
  · show 1 + e.cc = 1 + f.cc; rw [h.cc]
  · show 2 + e.nc = 2 + f.nc; rw [h.nc]
  · show w + e.tt = w + f.tt; rw [h.tt]
  · show o + e.ct = o + f.ct; rw [h.ct]
  · show Mine.lk (addTo e.c _) k = Mine.lk (addTo f.c _) k
    rw [lk_add2 _ hk, lk_add2 _ hk, h.lk]
  · show (addTo e.c _).length = (addTo f.c _).length
    rw [len_add2 _ hk, len_add2 _ hk, h.lk, h.lk, h.len]
theorem EqX.swap {e f : Ent} (h : EqX e f) {k1 k2 : Int} (hk : k1 ≠ k2) (w o : Int) : EqX (e.upd k1 k2 w o) (f.upd k2 k1 w o) := by
  have x := h.upd hk w o
  refine ⟨x.cc, x.nc, x.tt, x.ct, fun k => (x.lk k).trans ?_, x.len.trans ?_, x.nd⟩
  · show Mine.lk (addTo f.c _) k = Mine.lk (addTo f.c _) k
    rw [lk_add2 _ hk, lk_add2 _ (Ne.symm hk)]
    by_cases q : k = k1 ∨ k = k2
    · rw [if_pos q, if_pos (Or.comm.mp q)]
    · rw [if_neg q, if_neg fun z => q (Or.comm.mp z)]
  · show (addTo f.c _).length = (addTo f.c _).length
    rw [len_add2 _ hk, len_add2 _ (Ne.symm hk)]; lia
theorem find_nd : ∀ {c : List (Int × Int)} {p : Int × Int}, (c.map (·.1)).Nodup → p ∈ c → (c.find? fun q => decide (q.1 = p.1)) = some p
  | a :: r, p, h, hp => by
    rw [List.map_cons, List.nodup_cons] at h
    rw [List.find?_cons]
    rcases List.mem_cons.mp hp with rfl | hp
    · simp
    · have hne : ¬ a.1 = p.1 := fun e => h.1 (e ▸ List.mem_map_of_mem hp)
      simp only [hne, decide_false]
      exact find_nd h.2 hp
theorem EqX.toEq {e f : Ent} (h : EqX e f) : EntEq e f := by
  refine ⟨h.cc, h.nc, h.tt, h.ct, h.len, fun p hp => ?_⟩
  have h1 := h.lk p.1
  unfold Mine.lk at h1
  rw [find_nd h.nd hp] at h1
  cases hf : f.c.find? fun q => decide (q.1 = p.1) with
  | none => rw [hf] at h1; cases h1
  | some q =>
    rw [hf] at h1
    have e1 : p.2 = q.2 := Option.some.inj h1
    have e2 : q.1 = p.1 := by have := List.find?_some hf; simpa using this
    rw [Prod.ext e2 e1.symm]
noncomputable def EsX (es fs : List Ent) : Prop := es.length = fs.length ∧ ∀ (i : Nat) (e f : Ent), es[i]? = some e → fs[i]? = some f → EqX e f
theorem EsX.snoc {es fs : List Ent} (h : EsX es fs) : EsX (es ++ [Ent.zero]) (fs ++ [Ent.zero]) := by
  refine ⟨by simp [h.1], fun i e f he hf => ?_⟩
  rcases Nat.lt_trichotomy i es.length with q | q | q
  · rw [List.getElem?_append_left q] at he
    rw [List.getElem?_append_left (by rw [← h.1]; exact q)] at hf
    exact h.2 i e f he hf
  · rw [List.getElem?_append_right (by lia), q, Nat.sub_self] at he
    rw [List.getElem?_append_right (by rw [← h.1]; lia), ← h.1, q, Nat.sub_self] at hf
    cases he; cases hf; exact .zero
  · rw [List.getElem?_eq_none (by rw [List.length_append, List.length_singleton]; lia)] at he; cases he
theorem EsX.rep : ∀ n, EsX (List.replicate n Ent.zero) (List.replicate n Ent.zero)
  | n => ⟨rfl, fun i e f he hf => by
    have := List.mem_of_getElem? he
    rw [List.eq_of_mem_replicate this]
    have := List.mem_of_getElem? hf
    rw [List.eq_of_mem_replicate this]
    exact .zero⟩
theorem mod3_get (fs : List Ent) {a b c : Nat} (hab : a ≠ b) (hbc : b ≠ c) (hac : a ≠ c) (f1 f2 f3 : Ent → Ent) (i : Nat) :
    (((fs.modify a f1).modify b f2).modify c f3)[i]? = (fs[i]?).map fun e => if i = a then f1 e else if i = b then f2 e else if i = c then f3 e else e := by
  rw [List.getElem?_modify, List.getElem?_modify, List.getElem?_modify]
  cases fs[i]? with
  | none => rfl
  | some e =>
    by_cases q1 : i = a
    · have q2 : ¬ b = i := by lia
      have q3 : ¬ c = i := by lia
      simp [q1.symm, q2, q3]
    · by_cases q2 : i = b
      · have q3 : ¬ c = i := by lia
        have q4 : ¬ a = i := by lia
        simp [q2.symm, q3, q4, q1]
      · by_cases q3 : i = c
        · have q4 : ¬ a = i := by lia
          have q5 : ¬ b = i := by lia
          simp [q3.symm, q4, q5, q1, q2]
        · have q4 : ¬ a = i := by lia
          have q5 : ¬ b = i := by lia
          have q6 : ¬ c = i := by lia
          simp [q4, q5, q6, q1, q2, q3]
theorem EsX.tri {es fs : List Ent} (h : EsX es fs) {x y z a b c : Nat} (hxy : x ≠ y) (hyz : y ≠ z) (hxz : x ≠ z) (hab : (a = x ∧ b = y) ∨ (a = y ∧ b = x)) (hc : c = z) (w o : Int) :
    EsX (enterE es x y z w o) ((triL a b c).foldl (updOne w o) fs) := by
  subst hc
  have e1 : (triL a b c).foldl (updOne w o) fs = ((fs.modify a (fun e => e.upd b c w o)).modify b (fun e => e.upd a c w o)).modify c (fun e => e.upd a b w o) := rfl
  have hcx : (c : Int) ≠ x := fun e => hxz (Int.ofNat_inj.mp e).symm
  have hcy : (c : Int) ≠ y := fun e => hyz (Int.ofNat_inj.mp e).symm
  have hyx : (y : Int) ≠ x := fun e => hxy (Int.ofNat_inj.mp e).symm
  have nn : a ≠ b ∧ b ≠ c ∧ a ≠ c := by
    rcases hab with ⟨rfl, rfl⟩ | ⟨rfl, rfl⟩
    · exact ⟨hxy, hyz, hxz⟩
    · exact ⟨Ne.symm hxy, hxz, hyz⟩
  rw [e1]
  refine ⟨by rw [enterE_length]; simp [h.1], fun i e f he hf => ?_⟩
  rw [enterE_get es (x := (x : Int)) (y := (y : Int)) (z := (c : Int)) hxy hyz hxz] at he
  rw [mod3_get fs nn.1 nn.2.1 nn.2.2] at hf
  cases h0 : es[i]? with
  | none => rw [h0] at he; cases he
  | some e0 =>
    cases h1 : fs[i]? with
    | none => rw [h1] at hf; cases hf
    | some f0 =>
      rw [h0] at he
      rw [h1] at hf
      have q := h.2 i e0 f0 h0 h1
      simp only [Option.map_some, Option.some.injEq, Int.toNat_natCast] at he hf
      rw [← he, ← hf]
      rcases hab with ⟨rfl, rfl⟩ | ⟨rfl, rfl⟩
      · by_cases k1 : i = a
        · rw [if_pos k1, if_pos k1]; exact q.swap hcy w o
        · rw [if_neg k1, if_neg k1]
          by_cases k2 : i = b
          · rw [if_pos k2, if_pos k2]; exact q.upd (Ne.symm hcx) w o
          · rw [if_neg k2, if_neg k2]
            by_cases k3 : i = c
            · rw [if_pos k3, if_pos k3]; exact q.swap hyx w o
            · rw [if_neg k3, if_neg k3]; exact q
      · by_cases k1 : i = a
        · have k2 : ¬ i = b := fun e => nn.1 (k1.symm.trans e)
          rw [if_neg k2, if_pos k1, if_pos k1]; exact q.upd (Ne.symm hcx) w o
        · rw [if_neg k1, if_neg k1]
          by_cases k2 : i = b
          · rw [if_pos k2, if_pos k2]; exact q.swap hcy w o
          · rw [if_neg k2, if_neg k2]
            by_cases k3 : i = c
            · rw [if_pos k3, if_pos k3]; exact q.upd hyx w o
            · rw [if_neg k3, if_neg k3]; exact q
theorem fold_none {α : Type} (g : α → Nat → α) (x : α) : ∀ n, (∀ i, i < n → g x i = x) → (List.range n).foldl g x = x
  | 0, _ => rfl
  | n + 1, h => by rw [List.range_succ, List.foldl_append, fold_none g x n fun i hi => h i (by lia)]; exact h n (by lia)
theorem fold_one {α : Type} (g : α → Nat → α) (x : α) {i0 : Nat} : ∀ n, i0 < n → (∀ i, i < i0 → g x i = x) → (∀ i, i0 < i → i < n → g (g x i0) i = g x i0) → (List.range n).foldl g x = g x i0
  | 0, h, _, _ => absurd h (Nat.not_lt_zero _)
  | n + 1, h, h1, h2 => by
    rw [List.range_succ, List.foldl_append]
    by_cases q : i0 = n
    · subst q; rw [fold_none g x i0 h1]; rfl
    · rw [fold_one g x n (by lia) h1 fun i a b => h2 i a (by lia)]
      exact h2 n (by lia) (by lia)
theorem foldB_one {sp : Int} {ns : List Int} {d : Du} {c a0 b0 : Nat} {es : List Ent} (hab : a0 < b0) (hbc : b0 < c) (ht : triOK d a0 b0 c = true) (hf : ∀ a b, a < b → b < c → ¬ (a = a0 ∧ b = b0) → triOK d a b c = false) :
    foldB sp ns d c es c = (triL a0 b0 c).foldl (updOne (([1] ++ ns).getD (c - 2) 0) (octT sp d a0 b0 c)) es := by
  have no : ∀ es b, b < c → b ≠ b0 → foldA sp ns d c b es b = es := fun es b hb hne => by
    unfold foldA
    refine fold_none _ _ _ fun a ha => ?_
    unfold stepA
    rw [if_neg (by rw [hf a b ha hb fun x => hne x.2]; exact Bool.false_ne_true)]
  unfold foldB
  have e := fold_one (fun es b => foldA sp ns d c b es b) es (i0 := b0) c hbc (fun i hi => no es i (by lia) (by lia)) (fun i h1 h2 => no _ i h2 (by lia))
  rw [e]
  unfold foldA
  have e2 := fold_one (stepA sp ns d c b0) es (i0 := a0) b0 hab (fun i hi => by
      unfold stepA
      rw [if_neg (by rw [hf i b0 (by lia) hbc fun x => absurd x.1 (by lia)]; exact Bool.false_ne_true)]) (fun i h1 h2 => by
      generalize stepA sp ns d c b0 es a0 = es'
      unfold stepA
      rw [if_neg (by rw [hf i b0 h2 hbc fun x => absurd x.1 (by lia)]; exact Bool.false_ne_true)])
  rw [e2]
  unfold stepA
  rw [if_pos ht]
theorem modify_snoc {fs : List Ent} {z : Ent} {i : Nat} (h : i < fs.length) (f : Ent → Ent) : (fs ++ [z]).modify i f = fs.modify i f ++ [z] := by
  apply List.ext_getElem?
  intro j
  rw [List.getElem?_modify]
  by_cases q : j < fs.length
  · rw [List.getElem?_append_left q, List.getElem?_append_left (by simpa using q), List.getElem?_modify]
  · rw [List.getElem?_append_right (by lia), List.getElem?_append_right (by simp; lia)]
    have hne : ¬ i = j := by lia
    simp [hne]
theorem updOneX_len {w o : Int} {es : List Ent} {t : Nat × Nat × Nat} : (updOne w o es t).length = es.length := by unfold updOne; simp
theorem tri_len {w o : Int} {es : List Ent} {a b c : Nat} : ((triL a b c).foldl (updOne w o) es).length = es.length := by
  show (updOne w o (updOne w o (updOne w o es _) _) _).length = _
  rw [updOneX_len, updOneX_len, updOneX_len]
theorem tri_snoc {w o : Int} {es : List Ent} {z : Ent} {a b c : Nat} (ha : a < es.length) (hb : b < es.length) (hc : c < es.length) : (triL a b c).foldl (updOne w o) (es ++ [z]) = (triL a b c).foldl (updOne w o) es ++ [z] := by
  show updOne w o (updOne w o (updOne w o (es ++ [z]) _) _) _ = updOne w o (updOne w o (updOne w o es _) _) _ ++ [z]
  unfold updOne
  rw [modify_snoc ha, modify_snoc (by simpa using hb), modify_snoc (by simpa using hc)]
section
variable {sp : Int} {ns ns' : List Int} {d d' : Du} {K : Nat}
structure Alike (sp : Int) (ns ns' : List Int) (d d' : Du) (K : Nat) : Prop where
  tri : ∀ a b c, a < K → b < K → c < K → triOK d' a b c = triOK d a b c
  oct : ∀ a b c, a < K → b < K → c < K → octT sp d' a b c = octT sp d a b c
  wor : ∀ c, c < K → ([1] ++ ns').getD (c - 2) 0 = ([1] ++ ns).getD (c - 2) 0
theorem stepAX_len {c b a : Nat} {es : List Ent} : (stepA sp ns d c b es a).length = es.length := by
  unfold stepA
  split
  · exact tri_len
  · rfl
theorem foldAX_len {c b : Nat} {es : List Ent} : ∀ k, (foldA sp ns d c b es k).length = es.length
  | 0 => rfl
  | k + 1 => by rw [foldA_succ, stepAX_len, foldAX_len k]
theorem foldBX_len {c : Nat} {es : List Ent} : ∀ k, (foldB sp ns d c es k).length = es.length
  | 0 => rfl
  | k + 1 => by rw [foldB_succ, foldAX_len, foldBX_len k]
theorem foldCX_len {es : List Ent} : ∀ k, (foldC sp ns d es k).length = es.length
  | 0 => rfl
  | k + 1 => by rw [foldC_succ, foldBX_len, foldCX_len k]
variable (H : Alike sp ns ns' d d' K)
include H
theorem stepA_snoc {c b a : Nat} (ha : a < K) (hb : b < K) (hc : c < K) {es : List Ent} (hl : es.length = K) {z : Ent} : stepA sp ns' d' c b (es ++ [z]) a = stepA sp ns d c b es a ++ [z] := by
  unfold stepA
  rw [H.tri a b c ha hb hc, H.oct a b c ha hb hc, H.wor c hc]
  split
  · exact tri_snoc (by lia) (by lia) (by lia)
  · rfl
theorem foldA_snoc {c b : Nat} (hb : b < K) (hc : c < K) {es : List Ent} (hl : es.length = K) {z : Ent} : ∀ k, k ≤ b → foldA sp ns' d' c b (es ++ [z]) k = foldA sp ns d c b es k ++ [z]
  | 0, _ => rfl
  | k + 1, hk => by rw [foldA_succ, foldA_succ, foldA_snoc hb hc hl k (by lia), stepA_snoc H (by lia) hb hc (by rw [foldAX_len, hl])]
theorem foldB_snoc {c : Nat} (hc : c < K) {es : List Ent} (hl : es.length = K) {z : Ent} : ∀ k, k ≤ c → foldB sp ns' d' c (es ++ [z]) k = foldB sp ns d c es k ++ [z]
  | 0, _ => rfl
  | k + 1, hk => by rw [foldB_succ, foldB_succ, foldB_snoc hc hl k (by lia), foldA_snoc H (by lia) hc (by rw [foldBX_len, hl]) k (Nat.le_refl k)]
theorem foldC_snoc {es : List Ent} (hl : es.length = K) {z : Ent} : ∀ k, k ≤ K → foldC sp ns' d' (es ++ [z]) k = foldC sp ns d es k ++ [z]
  | 0, _ => rfl
  | k + 1, hk => by rw [foldC_succ, foldC_succ, foldC_snoc hl k (by lia), foldB_snoc H (by lia) (by rw [foldCX_len, hl]) k (Nat.le_refl k)]
end
theorem alike_step {sp : Int} {ns : List Int} {d : Du} (G : GoodD d) (y : Int) (hl : d.m.ring.length = 3 + ns.length) : Alike sp ns (ns ++ [y]) d (stepD sp d y) d.m.ring.length := by
  have hp : ∀ a : Nat, a < d.m.ring.length → pAt (stepD sp d y).ps (a : Int) = pAt d.ps a := fun a ha => by
    show (d.ps ++ _).getD _ (0, 0) = d.ps.getD _ (0, 0)
    rw [List.getD_eq_getElem?_getD, List.getElem?_append_left (by rw [G.pl]; simpa using ha), ← List.getD_eq_getElem?_getD]
  have hw : ∀ a : Nat, a < d.m.ring.length → wcAt (stepD sp d y).m (a : Int) = wcAt d.m a := fun a ha => by
    show (d.m.wc ++ _).getD _ (0, 0) = d.m.wc.getD _ (0, 0)
    rw [List.getD_eq_getElem?_getD, List.getElem?_append_left (by rw [G.good.wl]; simpa using ha), ← List.getD_eq_getElem?_getD]
  refine ⟨fun a b c ha hb hc => ?_, fun a b c ha hb hc => ?_, fun c hc => ?_⟩
  · unfold triOK; rw [hp a ha, hp b hb, hp c hc]
  · unfold octT; rw [hw a ha, hw b hb, hw c hc]
  · rw [← List.append_assoc, List.getD_eq_getElem?_getD, List.getElem?_append_left (by rw [List.length_append, List.length_singleton]; lia), ← List.getD_eq_getElem?_getD]
noncomputable def RA (m : Mo) : Prop := ∀ v : Nat, v < m.ring.length → (v : Int) ∈ m.ring
theorem ra_step {sp : Int} {d : Du} (G : GoodD d) (R : RA d.m) (y : Int) : RA (stepD sp d y).m := by
  intro v hv
  rw [ring_len G sp y] at hv
  have h1 := side_lt G.good y
  refine (List.mem_insertIdx (by lia)).mpr ?_
  by_cases q : v < d.m.ring.length
  · exact .inr (R v q)
  · have : v = d.m.ring.length := by lia
    exact .inl (by rw [this])
theorem new_one {sp : Int} {d : Du} (G : GoodD d) (Z : Fz d) (R : RA d.m) (y : Int) {v : Nat} (hv : v < d.m.ring.length) :
    entA (pAt (stepD sp d y).ps (v : Int)) (pAt (stepD sp d y).ps (d.m.ring.length : Int)) = 1 ↔ ((v : Int) = one d.m y ∨ (v : Int) = other d.m y) := by
  have hm := R v hv
  rw [pAt_old G sp y hm, pAt_new G sp y]
  obtain ⟨p, hp, e⟩ := List.getElem_of_mem hm
  have e' : d.m.ring.getD p 0 = v := by rw [List.getD_eq_getElem?_getD, List.getElem?_eq_getElem hp]; exact e
  have h1 := side_lt G.good y
  have h2 := side2_lt G.good y
  have k := (newdet G y Z p hp).2.2.2.2.2
  have er : rp d p = pAt d.ps v := by unfold rp; rw [e']
  rw [er] at k
  rw [entA_det]
  have e1 : ((v : Int) = one d.m y) ↔ p = side d.m y := ⟨fun q => ring_inj G hp h1 (e'.trans q), fun q => by rw [← e', q]; rfl⟩
  have e2 : ((v : Int) = other d.m y) ↔ p = (side d.m y + 1) % d.m.ring.length := ⟨fun q => ring_inj G hp h2 (e'.trans q), fun q => by rw [← e', q]; rfl⟩
  rw [e1, e2, ← k]
  lia
theorem adj_one {d : Du} (G : GoodD d) (Z : Fz d) (y : Int) : entA (pAt d.ps (one d.m y)) (pAt d.ps (other d.m y)) = 1 := by
  have h1 := side_lt G.good y
  show entA (rp d (side d.m y)) (rp d ((side d.m y + 1) % d.m.ring.length)) = 1
  rw [entA_det]
  by_cases q : side d.m y + 1 < d.m.ring.length
  · rw [Nat.mod_eq_of_lt q, Z.adj _ q]; rfl
  · have e : side d.m y + 1 = d.m.ring.length := by lia
    rw [e, Nat.mod_self, det_anti]
    have c := Z.cyc
    have e2 : d.m.ring.length - 1 = side d.m y := by lia
    rw [e2] at c
    rw [c]; rfl
theorem entA_symm (p q : Int × Int) : entA p q = entA q p := by rw [entA_det, entA_det, det_anti, Int.natAbs_neg]
theorem ents_step {sp : Int} {ns : List Int} {d : Du} (G : GoodD d) (Z : Fz d) (R : RA d.m) (y : Int) (hl : d.m.ring.length = 3 + ns.length)
    (h : EsX d.m.es (foldC sp ns d (List.replicate d.m.ring.length Ent.zero) d.m.ring.length)) :
    EsX (stepD sp d y).m.es (foldC sp (ns ++ [y]) (stepD sp d y) (List.replicate (stepD sp d y).m.ring.length Ent.zero) (stepD sp d y).m.ring.length) := by
  have b1 := G.good.rng _ (one_mem G.good y)
  have b2 := G.good.rng _ (other_mem G.good y)
  have hne := one_ne G.good y
  have HA := alike_step (sp := sp) (ns := ns) G y hl
  rw [ring_len G sp y, foldC_succ, List.replicate_succ', foldC_snoc HA (by simp) _ (Nat.le_refl _)]
  have hs := h.snoc
  generalize foldC sp ns d (List.replicate d.m.ring.length Ent.zero) d.m.ring.length ++ [Ent.zero] = fs at hs ⊢
  obtain ⟨x, hx⟩ : ∃ x : Nat, one d.m y = x := ⟨(one d.m y).toNat, (Int.toNat_of_nonneg b1.1).symm⟩
  obtain ⟨z, hz⟩ : ∃ z : Nat, other d.m y = z := ⟨(other d.m y).toNat, (Int.toNat_of_nonneg b2.1).symm⟩
  have key : ∀ {a b : Nat}, a < b → b < d.m.ring.length → ((a = x ∧ b = z) ∨ (a = z ∧ b = x)) →
      EsX (stepD sp d y).m.es (foldB sp (ns ++ [y]) (stepD sp d y) d.m.ring.length fs d.m.ring.length) := fun {a b} hab hb hor => by
    have ha := Nat.lt_trans hab hb
    have ma := R a ha
    have mb := R b hb
    have na : entA (pAt (stepD sp d y).ps (a : Int)) (pAt (stepD sp d y).ps (d.m.ring.length : Int)) = 1 := (new_one G Z R y ha).mpr (by rw [hx, hz]; exact hor.elim (fun h => .inl (congrArg Nat.cast h.1)) (fun h => .inr (congrArg Nat.cast h.1)))
    have nb : entA (pAt (stepD sp d y).ps (b : Int)) (pAt (stepD sp d y).ps (d.m.ring.length : Int)) = 1 := (new_one G Z R y hb).mpr (by rw [hx, hz]; exact hor.elim (fun h => .inr (congrArg Nat.cast h.2)) (fun h => .inl (congrArg Nat.cast h.2)))
    have nab : entA (pAt (stepD sp d y).ps (a : Int)) (pAt (stepD sp d y).ps (b : Int)) = 1 := by
      rw [pAt_old G sp y ma, pAt_old G sp y mb]
      have k := adj_one G Z y
      rw [hx, hz] at k
      rcases hor with ⟨rfl, rfl⟩ | ⟨rfl, rfl⟩
      · exact k
      · rw [entA_symm]; exact k
    have ht : triOK (stepD sp d y) a b d.m.ring.length = true := by
      unfold triOK
      rw [na, nb, nab]; rfl
    have hno : ∀ a' b', a' < b' → b' < d.m.ring.length → ¬ (a' = a ∧ b' = b) → triOK (stepD sp d y) a' b' d.m.ring.length = false := fun a' b' h1 h2 h3 => by
      cases q : triOK (stepD sp d y) a' b' d.m.ring.length with
      | false => rfl
      | true =>
        exfalso
        unfold triOK at q
        simp only [Bool.and_eq_true, decide_eq_true_eq] at q
        obtain ⟨⟨_, q2⟩, q3⟩ := q
        have u := (new_one (sp := sp) G Z R y (Nat.lt_trans h1 h2)).mp q3
        have v := (new_one (sp := sp) G Z R y h2).mp (q2.trans q3)
        rw [hx, hz] at u v
        have u := u.imp Int.ofNat_inj.mp Int.ofNat_inj.mp
        have v := v.imp Int.ofNat_inj.mp Int.ofNat_inj.mp
        clear G Z R hl h b1 b2 hne HA hs hb ma mb na nb nab ht h2 q3 q2 hx hz ha
        omega
    rw [foldB_one hab hb ht hno]
    have ew : ([1] ++ (ns ++ [y])).getD (d.m.ring.length - 2) 0 = y := by
      rw [← List.append_assoc, List.getD_eq_getElem?_getD, List.getElem?_append_right (by rw [List.length_append, List.length_singleton, hl, Nat.add_comm 3]; show 1 + ns.length ≤ ns.length + 1; rw [Nat.add_comm]; exact Nat.le_refl _)]
      have e0 : d.m.ring.length - 2 - ([1] ++ ns).length = 0 := by rw [List.length_append, List.length_singleton, hl, Nat.add_comm 3]; show ns.length + 1 - (1 + ns.length) = 0; rw [Nat.add_comm 1, Nat.sub_self]
      rw [e0]; rfl
    have eo : octT sp (stepD sp d y) a b d.m.ring.length = 3 * ((wcAt d.m (one d.m y)).1 + (wcAt d.m (other d.m y)).1 + wnew y + sp) := by
      unfold octT
      rw [wc_new G sp y, wc_old G sp y ma, wc_old G sp y mb, hx, hz]
      rcases hor with ⟨rfl, rfl⟩ | ⟨rfl, rfl⟩
      · rfl
      · rw [Int.add_comm (wcAt d.m (a : Int)).1]
    rw [ew, eo]
    show EsX (enterE (d.m.es ++ [Ent.zero]) (one d.m y) (other d.m y) d.m.ring.length y _) _
    rw [hx, hz]
    have lx : x < d.m.ring.length := Int.ofNat_lt.mp (hx ▸ b1.2)
    have lz : z < d.m.ring.length := Int.ofNat_lt.mp (hz ▸ b2.2)
    exact hs.tri (fun e => hne (by rw [hx, hz, e])) (Nat.ne_of_lt lz) (Nat.ne_of_lt lx) hor rfl _ _
  by_cases q : x < z
  · exact key q (by lia) (.inl ⟨rfl, rfl⟩)
  · exact key (a := z) (b := x) (by (clear G Z R hl h b1 b2 HA hs key; lia)) (by lia) (.inr ⟨rfl, rfl⟩)
theorem runD_snoc (sp : Int) (ns : List Int) (y : Int) : runD sp (ns ++ [y]) = stepD sp (runD sp ns) y := by unfold runD; rw [List.foldl_append]; rfl
theorem ents_init (sp : Int) : EsX (Du.init sp).m.es (foldC sp [] (Du.init sp) (List.replicate 3 Ent.zero) 3) := by
  have e : foldC sp [] (Du.init sp) (List.replicate 3 Ent.zero) 3 = stepA sp [] (Du.init sp) 2 1 (List.replicate 3 Ent.zero) 0 := rfl
  rw [e]
  unfold stepA
  rw [if_pos (show triOK (Du.init sp) 0 1 2 = true from rfl)]
  exact (EsX.rep 3).tri (x := 0) (y := 1) (z := 2) (by decide) (by decide) (by decide) (.inl ⟨rfl, rfl⟩) rfl 1 _
theorem ents_run (sp : Int) : ∀ (n : Nat) (ns : List Int), ns.length = n → RA (runD sp ns).m ∧ EsX (runD sp ns).m.es (foldC sp ns (runD sp ns) (List.replicate (runD sp ns).m.ring.length Ent.zero) (runD sp ns).m.ring.length)
  | 0, ns, h => by
    have : ns = [] := List.length_eq_zero_iff.mp h
    subst this
    refine ⟨fun v hv => ?_, ents_init sp⟩
    have hv' : v < 3 := hv
    have : v = 0 ∨ v = 1 ∨ v = 2 := by lia
    show (v : Int) ∈ [(0 : Int), 1, 2]
    rcases this with rfl | rfl | rfl <;> simp
  | n + 1, ns, h => by
    have hne : ns ≠ [] := fun e => by rw [e] at h; cases h
    obtain ⟨ms, y, rfl⟩ : ∃ ms y, ns = ms ++ [y] := ⟨ns.dropLast, ns.getLast hne, (List.dropLast_concat_getLast hne).symm⟩
    rw [List.length_append, List.length_singleton] at h
    have ih := ents_run sp n ms (by lia)
    have G := goodD_run sp ms
    have Z := fz_run sp ms
    have hl := run_len sp ms
    rw [← runD_m] at hl
    rw [runD_snoc]
    exact ⟨ra_step G ih.1 y, ents_step G Z ih.1 y hl ih.2⟩
theorem ents_eq (sp : Int) (ns : List Int) : (runM sp ns).es.length = (foldC sp ns (runD sp ns) (List.replicate (runM sp ns).ring.length Ent.zero) (runM sp ns).ring.length).length ∧
    ∀ (i : Nat) (e f : Ent), (runM sp ns).es[i]? = some e → (foldC sp ns (runD sp ns) (List.replicate (runM sp ns).ring.length Ent.zero) (runM sp ns).ring.length)[i]? = some f → EntEq e f := by
  have h := (ents_run sp ns.length ns rfl).2
  rw [runD_m] at h
  exact ⟨h.1, fun i e f he hf => (h.2 i e f he hf).toEq⟩
section
theorem w0Law : True := by w_top off; trivial
theorem good_true {s₀ s₁ s' : Shared} {args : List WData} (hg : s'.gens = #[]) (ho : s'.os = s₁.os) (hk : OldK s₁.heap s'.heap) (hp : Challenge.rw_zn0015_01.row.claim.post args (ofPy (PyData.bool true)) args = true) :
    GoodWG Challenge.rw_zn0015_01.row.claim (classAt s₀.heap) (ExcName.means s₀.heap) args s₁ (.ok (.ret (.bool true))) s' :=
  ⟨.inl ⟨.bool true, ofPy (PyData.bool true), [], rfl, fun _ => rfl, readsW_of_reads (by constructor), hp, unshared_nil⟩, hk, ho, .of_eq hg⟩
noncomputable def offL (c1 c2 : Addr) (l : List (Addr × Obj)) : List (Addr × Obj) := l.filter fun p => !(p.1 == c1) && !(p.1 == c2)
noncomputable def NotCell (o : Obj) : Prop := ∀ x, o.data ≠ .cell x
theorem offL_sub {c1 c2 : Addr} {l : List (Addr × Obj)} : ∀ p ∈ offL c1 c2 l, p ∈ l := fun p hp => (List.mem_filter.mp hp).1
theorem offL_ne {c1 c2 : Addr} {l : List (Addr × Obj)} : ∀ p ∈ offL c1 c2 l, p.1 ≠ c1 ∧ p.1 ≠ c2 := fun p hp => by
  have h := (List.mem_filter.mp hp).2
  simp only [Bool.and_eq_true, Bool.not_eq_true', beq_eq_false_iff_ne, ne_eq] at h
  exact h
theorem offL_in {h₀ h : Heap} {L c1 c2 : Addr} {o1 o2 : Obj} {x1 x2 : Option Value} {l : List (Addr × Obj)} (N : News h₀ L h l) (m1 : (c1, o1) ∈ l) (m2 : (c2, o2) ∈ l) (d1 : o1.data = .cell x1) (d2 : o2.data = .cell x2) :
    ∀ p ∈ l, NotCell p.2 → p ∈ offL c1 c2 l := fun p hp hn => by
  refine List.mem_filter.mpr ⟨hp, ?_⟩
  have a : p.1 ≠ c1 := fun e => by
    have q1 := (N p hp).1
    have q2 := (N _ m1).1
    rw [e] at q1
    have q3 : p.2 = o1 := Option.some.inj (q1.symm.trans q2)
    exact hn x1 (by rw [q3]; exact d1)
  have b : p.1 ≠ c2 := fun e => by
    have q1 := (N p hp).1
    have q2 := (N _ m2).1
    rw [e] at q1
    have q3 : p.2 = o2 := Option.some.inj (q1.symm.trans q2)
    exact hn x2 (by rw [q3]; exact d2)
  simp [a, b]
theorem LightAt.off {news news' : List (Addr × Obj)} {v : Value} {l : Int × Int × Int} (x : LightAt news v l) (h : ∀ p ∈ news, NotCell p.2 → p ∈ news') : LightAt news' v l :=
  let ⟨b, n, s1, s2, s3, e, m⟩ := x; ⟨b, n, s1, s2, s3, e, h _ m (fun _ e => by cases e)⟩
theorem EntAt.off {w : World} {news news' : List (Addr × Obj)} {v : Value} {l : Ent} (x : EntAt w news v l) (h : ∀ p ∈ news, NotCell p.2 → p ∈ news') : EntAt w news' v l :=
  let ⟨t, d, o, kvs, n, s1, s2, s3, s4, e, m1, m2, lo, di, r, r2⟩ := x
  ⟨t, d, o, kvs, n, s1, s2, s3, s4, e, h _ m1 (fun _ e => by cases e), h _ m2 (fun y e => by
    obtain ⟨es, ep, _, hd, _⟩ := id di
    rw [hd] at e; cases e), lo, di, r, r2⟩
theorem Lts.off {s : Int} {wc : List (Int × Nat)} {lvs : List Value} {news news' : List (Addr × Obj)} (x : Lts s wc lvs news) (h : ∀ p ∈ news, NotCell p.2 → p ∈ news') : Lts s wc lvs news' := ⟨x.1, fun i p u a b => (x.2 i p u a b).off h⟩
theorem Ens.off {w : World} {es : List Ent} {evs : List Value} {news news' : List (Addr × Obj)} (x : Ens w es evs news) (h : ∀ p ∈ news, NotCell p.2 → p ∈ news') : Ens w es evs news' := ⟨x.1, fun i p u a b => (x.2 i p u a b).off h⟩
theorem ne_cell {h₀ h : Heap} {L a c : Addr} {o oc : Obj} {x : Option Value} {l : List (Addr × Obj)} (N : News h₀ L h l) (m : (a, o) ∈ l) (mc : (c, oc) ∈ l) (d : oc.data = .cell x) (hn : NotCell o) : a ≠ c := fun e => by
  have q1 := (N _ m).1
  have q2 := (N _ mc).1
  (have q1' : h.get? a = some o := q1)
  (have q2' : h.get? c = some oc := q2)
  rw [e] at q1'
  have q3 : o = oc := Option.some.inj (q1'.symm.trans q2')
  exact hn x (by rw [q3]; exact d)
theorem law_sub {a b c e p q : Addr × Obj} {l l' : List (Addr × Obj)} (hp : p ∈ l) (hq : q ∈ l) (hs : ∀ x ∈ l', x ∈ l) : ∀ x ∈ a :: b :: c :: e :: p :: q :: l', x ∈ a :: b :: c :: e :: l := fun x hx => by
  simp only [List.mem_cons] at hx ⊢
  rcases hx with h | h | h | h | h | h | h
  · exact .inl h
  · exact .inr (.inl h)
  · exact .inr (.inr (.inl h))
  · exact .inr (.inr (.inr (.inl h)))
  · exact .inr (.inr (.inr (.inr (h ▸ hp))))
  · exact .inr (.inr (.inr (.inr (h ▸ hq))))
  · exact .inr (.inr (.inr (.inr (hs x h))))
theorem drop_ints {vs : List Value} {is : List Int} (n : Nat) (h : IntsAre vs is) : ∃ dv, dv = vs.drop n ∧ IntsAre dv (is.drop n) := ⟨_, rfl, h.drop n⟩
theorem slice_from_any {prog : Program} {w : World} {A : Around} {E : Value → Shared → Prop} {s : Shared} {h₀ : Heap} {L l : Addr} {m : Str → Option Value} {news : List (Addr × Obj)} {vs : List Value} {n i : Nat} {x : Int} {t : Tok} {value slice : PySem.Expr} {Q : Value → Shared → Prop} (F : Fr h₀ L s.heap m) (N : News h₀ L s.heap news) (hm : (l, ({ cls := .type "list", data := .seq vs.toArray n } : Obj)) ∈ news) (ex : x = (i : Int)) (hz : vs.length ≤ 1000)
    (h : ∀ D h', Fr h₀ L h' m → News h₀ L h' ((D, W.listOf (vs.drop i).toArray 0) :: news) → (∀ p ∈ news, p.1 < D) → Q (.ref D) { s with heap := h' })
    (hs : subscripted slice false (.ref l) (.ref s.heap.objs.size) = operate [.ref s.heap.objs.size, .ref l] (getItem (.ref l) (.ref s.heap.objs.size)) := by with_unfolding_all rfl) :
    wpAny (model prog w) A (subscriptTail value slice (.ref l) (.ref s.heap.objs.size)) Q E { s with heap := s.heap.push { cls := .type "slice", data := .fields #[.int x t, .none, .none] } } := by
  subst ex
  have hl : s.heap.IsList l vs.toArray := ⟨_, (N _ hm).1, rfl, n, rfl⟩
  refine tail_any (Heap.IsList.typeIs (s := { s with heap := s.heap.push { cls := .type "slice", data := .fields #[.int (i : Int) t, .none, .none] } }) (hl.push _)) list_getitem_lookup
    (wpAny_getItem_list_slice (lo := some (i : Int)) (hi := none) (hl.push _) (Heap.IsSliceOf.new ..) (by constructor) (by constructor) .none (by simp) ?_ (by rw [List.size_toArray, PySem.sizeLine_eq]; lia)) hs
  have N1 := News.push (F.push { cls := .type "slice", data := .fields #[.int (i : Int) t, .none, .none] }) (N.grown fun _ _ e => Heap.get?_push_of_some _ e) { cls := .type "list", data := .seq (slicePick vs.toArray (some (i : Int)) none none) }
  rw [Heap.size_push, slicePick_from' vs.toArray i] at N1
  show Q (.ref (s.heap.push _).objs.size) _
  rw [Heap.size_push]
  refine h _ _ ((F.push _).push _) ?_ (fun p hp => Nat.lt_succ_of_lt (Heap.lt_size (N p hp).1))
  rw [slicePick_from' vs.toArray i]
  exact N1
section
variable {prog : Program} {w : World} {A : Around} {R : Result → Shared → Prop} {s : Shared} {name : Str} {params : Arguments} {body : List Stmt} {scope : Scope} {pm cd doc : Value} {a : Addr} {o : Obj} {args : List Value} {binds : List (Str × Value)}
theorem call_cellsC (hroom : A.depth < recursionLimit) (ho : s.heap.get? a = some o) (hdata : o.data = .func (Calls.docDef name params body scope pm cd doc)) (hlim : s.heap.NoLimit) (hcd : s.heap.CodeRec cd name)
    (hbind : bindArgs (Calls.docDef name params body scope pm cd doc) ⟨args, []⟩ = pure binds)
    (hkind : ∀ x ∈ binds, scope.names.lookup x.1 = some .local ∨ (scope.names.lookup x.1 = some .cell ∧ ((cellsFrom (s.heap.objs.size + 1) scope.names []).lookup x.1).isSome = true))
    (hnd : ((cellsFrom 0 scope.names []).map (·.1)).Nodup)
    (h : ∀ h₁ tk cells, Fr s.heap s.heap.objs.size h₁ (bindL (envOfC name scope s.heap.objs.size a cd).kindOf binds fun _ => none) → News s.heap s.heap.objs.size h₁ cells →
      CellsAre (bindC (envOfC name scope s.heap.objs.size a cd).kindOf binds fun _ => none) (cellsFrom (s.heap.objs.size + 1) scope.names []) cells →
      wpC (model prog w) (A.deeper (envOfC name scope s.heap.objs.size a cd)) (execs body (envOfC name scope s.heap.objs.size a cd))
        (fun f s' => R (.ok (.ret (match f with | .ret v => v | _ => .none))) s')
        (fun e s' => wpAny (model prog w) (A.deeper (envOfC name scope s.heap.objs.size a cd)) (leaving (envOfC name scope s.heap.objs.size a cd) e)
          (fun _ s'' => R (.error e) s'') (fun e' s'' => R (.error e') s'') s')
        { s with heap := h₁, toks := tk })
    (hco : scope.isCoroutine = false := by rfl) (hgen : scope.isGenerator = false := by rfl) (hk : scope.kind = .function := by rfl) :
    codeC (model prog w) A (.call (.ref a) ⟨args, []⟩) R s := by
  refine codeC_def hroom ho hdata hco hgen rfl hcd ?_
  rw [hbind]
  refine wpAny_pure ?_
  refine wpAny_newFunctionEnv_cells hk hkind fun env' he s' x => ?_
  subst he
  refine ⟨hlim.keeps x.toInCall.keep, codeC_func ?_⟩
  obtain ⟨h₁, tk, rfl, _⟩ := x.done
  obtain ⟨cells, N, Y⟩ := Cl.news (h₀ := s.heap) (Nat.le_refl _) fun n c hm => ⟨x.cell n c (lookup_of_mem_nodup (cellsFrom_names scope.names 0 (s.heap.objs.size + 1) [] [] rfl ▸ hnd) hm), x.above n c hm⟩
  exact h h₁ tk cells ⟨x.toInCall.ns, x.toInCall.keep, x.toInCall.fresh⟩ N Y
end
local macro_rules | `(tactic| walk_at "subscriptTail") => `(tactic| (k_here; (with_reducible show wpAny _ _ (subscriptTail (Expr.List _ _) _ _ _) _ _ _); refine halt_in ?_; walk_say "HALT slice"))
local macro_rules | `(tactic| walk_at "compareOp Eq ref ref") => `(tactic| (k_here; (with_reducible show wpAny _ _ (compareOp CmpOp.Eq (Value.ref _) (Value.ref _)) _ _ _); refine halt_in ?_; walk_say "HALT Eq"))
local macro_rules | `(tactic| walk_at "eval ListComp") => `(tactic| (k_here; (with_reducible show wpAny _ _ (eval (PySem.Expr.ListComp _ _ _ _) _) _ _ _); refine halt_in ?_; walk_say "HALT comp"))
noncomputable def SlawH : Prop := PySem.Challenge.rw_zn0015_01.Holds
noncomputable def kTlawH : {P : (yW→ys→ys→yM→yM→yN→yV→yV→yN→yIS→yN→yVS→yH→yN→yO→yO→Prop) // (∀ x1 x2 x3 x4 x5 x6 x7 x8 x9 x10 x11 x12 x13 x14 x15 x16, P x1 x2 x3 x4 x5 x6 x7 x8 x9 x10 x11 x12 x13 x14 x15 x16) → SlawH} := by
  refine' ⟨_, fun hPD1 => ?main⟩
  case main =>
    unfold SlawH
    refine holds_law said fun s => Mine.hd ⟨⟨s, fun w => by kernel_rfl⟩, ?_⟩
    clear s
    k_fill
    intro w s₀ s₁ mg mb G Y fa o pm cd doc dV kV ho hd hcd hD hmg hg args vals as hpre hlay hrd hwl hlo
    have KX := kIn_of Y
    have X := (Ground.X G).1
    have V := (Ground.X G).2
    refine Ground.open G ?_
    intro T B D TE TW
    try (refine guard_noD D (by decide +kernel) ?_; clear D)
    obtain ⟨_, _, M⟩ := bmod_of_top T
    have TA := at_of_top T
    try (obtain ⟨_, _, he, B0⟩ := based_of_top T rfl hmg ho hd; have he' : cd = _ := he; subst he'; clear he)
    clear hmg
    wrow_args hpre hlay hrd hwl hlo
    rename_i wi _ _ _ _ _ _ _ wa wv _ hLs _ _ _ hIs _ hc1 hc2
    refine ⟨wpC_call ?_, ?_⟩
    · have K0 := below_caller (Top.heap T)
      have he := Dflts.none hD rfl
      subst he
      have he := Dflts.noKw hD
      subst he
      refine call_cellsC (by decide) ho (fd_plain hd) (Top.nolimit T) hcd rfl (kinds_of (by kinds_ok)) (by decide) fun h₁ tk₁ cells F N0 X0 => ?_
      cells_open X0
      rename_i o2 o1 dc1 dc2
      clear hd TA
      k_drop
      refine wpC_execs_cons (wpC_of ?_)
      (try dsimp only)
      try k_fold
      refine Assign_ListComp_G (F₀ := F) (by rfl) (by with_unfolding_all rfl) (by with_unfolding_all rfl) (by decide) (by rfl) (by decide) (by rfl) (by rfl) ?_
      rename_i qz1 qz2 qz3 qz4 qz5 qz6 qz7 qz8 qz9 qz10 qz11 qz12 qz13 qz14 qz15 qz16
      revert hg KX T qz7 hLs hIs hc1 K0 F dc1 dc2 N0
      exact hPD1 w s₀ s₁ mg mb fa pm doc qz3 wi wa wv h₁ tk₁ o2 o1
    · exact good_true hg rfl (.of_keep (fun _ _ e => e)) (by exact postW_of (by wrow_shape) (by wtm_val) (by str_meet; first | done | w_fin))
noncomputable def pD1 (v : Vars) : Prop := kTlawH.1 (v.W 0) (v.s 0) (v.s 1) (v.M 0) (v.M 1) (v.N 0) (v.V 0) (v.V 1) (v.N 1) (v.IS 0) (v.N 2) (v.VS 0) (v.H 0) (v.N 3) (v.O 0) (v.O 1)
@[irreducible] noncomputable def vD1 : Vars := hk pD1
noncomputable def ktD1 : {P : (yN→yVS→yN→yH→yN→yH→yVS→yN→yVS→yH→yIS→yN→yVS→yR→yN→yO→yN→yM→yH→yN→yR→yAS→yQ→yI→yN→Prop) × (yN→yVS→yN→yH→yN→yH→yVS→yN→yVS→yH→yIS→yVS→yN→yH→yN→yH→yIS→Prop) // (∀ x1 x2 x3 x4 x5 x6 x7 x8 x9 x10 x11 x12 x13 x14 x15 x16 x17 x18 x19 x20 x21 x22 x23 x24 x25, P.1 x1 x2 x3 x4 x5 x6 x7 x8 x9 x10 x11 x12 x13 x14 x15 x16 x17 x18 x19 x20 x21 x22 x23 x24 x25) → (∀ x1 x2 x3 x4 x5 x6 x7 x8 x9 x10 x11 x12 x13 x14 x15 x16 x17, P.2 x1 x2 x3 x4 x5 x6 x7 x8 x9 x10 x11 x12 x13 x14 x15 x16 x17) → pD1 vD1} := by
  refine' ⟨((_ : ys→ys→yIS→yN→yN→yVS→yN→yH→yN→yH→yVS→yN→yVS→yH→yIS→yN→yVS→yR→yN→yO→yN→yM→yH→yN→yR→yAS→yQ→yI→yN→Prop) (vD1.s 0) (vD1.s 1) (vD1.IS 0) (vD1.N 3), (_ : ys→ys→yIS→yN→yN→yVS→yN→yH→yN→yH→yVS→yN→yVS→yH→yIS→yVS→yN→yH→yN→yH→yIS→Prop) (vD1.s 0) (vD1.s 1) (vD1.IS 0) (vD1.N 3)), fun hPD2 hPD3 => ?main⟩
  case main =>
    intro hg KX T qz7 hLs hIs hc1 K0 F dc1 dc2 N0
    generalize vD1.s 0 = g1, vD1.s 1 = g2, vD1.IS 0 = wi, vD1.N 3 = g13 at *
    k_steps
    rename Fr _ _ _ _ => F3
    rename News _ _ _ _ => N3
    refine halt_out ?_
    with_unfolding_all refine slice_from_any (s := ⟨_, _, _, _, _⟩) (vs := [_, _, _, _]) (i := wi.length) F3 N3 (.head _) (by first | rfl | (rw [ints_len hIs])) (by simp) ?_
    intro D4 h4 F4 N4 l4
    (try clear F3)
    (try clear N3)
    obtain ⟨dv, hdv⟩ := drop_ints wi.length (.cons 23 _ (.cons 40 _ (.cons 78 _ (.cons 103 _ .nil))))
    rw [← hdv.1] at N4
    have hdv2 := hdv.2
    (try clear hdv)
    k_steps
    rename_i aS vS _ FS NS hS _
    refine halt_out ?_
    obtain ⟨raw, hraw⟩ : ∃ raw, raw = List.take 6 wi ++ List.drop wi.length [23, 40, 78, 103] := ⟨_, rfl⟩
    rw [← hraw] at hS
    have hrl : 4 ≤ raw.length ∧ raw.length ≤ 6 := by
      rw [hraw, List.length_append, List.length_take, List.length_drop]
      simp only [List.length_cons, List.length_nil]
      lia
    k_dflt (refine comp_list (vs := vS) (by rfl) (by rfl) (by rfl) FS NS (.head _) (by rw [PySem.sizeLine_eq, ints_len hS]; lia) (fun (ys : List Value) nw => nw = _ ∧ ∀ j v, ys[j]? = some v → ∃ t, v = Value.int ((raw.map (fun x => x % 1000000000)).getD j 0) t) ⟨rfl, fun j v e => by simp at e⟩ ?_ ?_)
    · intro i v₁ ys nw hv1 hyl C oC D cm h tk own wr E' hJ hC hcm off hCD hwo hown F' N'
      obtain ⟨hJ1, hJ2⟩ := hJ
      obtain ⟨x, tx, hxi, rfl⟩ := ints_at hS hv1
      rename_i qz17 qz18 qz19 qz20 qz21 qz22 qz23 qz24 qz25 qz26 qz27 qz28
      revert hg KX T qz7 hLs hIs hc1 K0 dc1 dc2 hyl hC off F' N' hJ1 hJ2 hxi hcm
      exact hPD2 qz17 qz18 qz24 qz25 D4 h4 dv aS vS qz27 raw i ys nw C oC D cm h tk own wr E' x tx
    · intro s₂ ys nw hJ91 hyl hJ92 D9 h9 tk9 F9 N9 o9
      refine hideG fun nG => ?_
      obtain ⟨h9, rfl⟩ := hJ91
      obtain ⟨rfl, hys⟩ := hJ92
      (try clear FS)
      (try clear NS)
      have hNI : IntsAre ys (raw.map (fun x => x % 1000000000)) := ints_of (by rw [hyl, List.length_map, ints_len hS]) hys
      obtain ⟨ns, hns⟩ : ∃ ns, ns = raw.map (fun x => x % 1000000000) := ⟨_, rfl⟩
      rw [← hns] at hNI
      have hnl : ns.length = raw.length := by rw [hns, List.length_map]
      have hnl6 : ns.length ≤ 6 := by lia
      have hn0 : ∀ n ∈ ns, 0 ≤ n ∧ n < 1000000000 := fun n hn => by
        rw [hns] at hn
        obtain ⟨x, _, rfl⟩ := List.mem_map.mp hn
        lia
      (try clear hys)
      refine nG ?_
      (try clear nG)
      rename_i qz29 qz30 qz31 qz32 qz33 qz34 qz35 qz36 qz37 qz38 qz39 qz40 qz41
      revert hg KX T qz7 hLs hIs hc1 K0 dc1 dc2 hrl F9 N9 hNI hnl hnl6 hn0
      exact hPD3 qz29 qz30 qz36 qz37 D4 h4 dv aS vS qz39 raw ys D9 qz41 tk9 h9 ns
noncomputable def pD2 (v : Vars) : Prop := ktD1.1.1 (v.N 0) (v.VS 0) (v.N 1) (v.H 0) (v.N 2) (v.H 1) (v.VS 1) (v.N 3) (v.VS 2) (v.H 2) (v.IS 0) (v.N 4) (v.VS 3) (v.R 0) (v.N 5) (v.O 0) (v.N 6) (v.M 0) (v.H 3) (v.N 7) (v.R 1) (v.AS 0) (v.Q 0) (v.I 0) (v.N 8)
@[irreducible] noncomputable def vD2 : Vars := hk pD2
theorem tD2 : pD2 vD2 := by
  intro hg KX T qz7 hLs hIs hc1 K0 dc1 dc2 hyl hC off F' N' hJ1 hJ2 hxi hcm
  generalize vD1.s 0 = g1, vD1.s 1 = g2, vD1.N 3 = g12, vD2.R 0 = nw, vD2.N 7 = g34, vD2.I 0 = x at *
  k_steps
  rename Fr _ _ _ _ => F9
  rename News _ _ _ _ => N9
  have e3 : x.fmod (10 ^ Int.toNat 9) = x % 1000000000 := Int.fmod_eq_emod_of_nonneg (b := 1000000000) _ (by decide)
  exact ⟨_, _, nw, rfl, F9, N9, off, hJ1, snoc_get hJ2 ⟨_, by rw [hyl, e3, List.getD_eq_getElem?_getD, List.getElem?_map, hxi]; rfl⟩⟩
theorem aD2 : ∀ v, pD2 v := hkv tD2 (by unfold vD2; rfl)
noncomputable def pD3 (v : Vars) : Prop := ktD1.1.2 (v.N 0) (v.VS 0) (v.N 1) (v.H 0) (v.N 2) (v.H 1) (v.VS 1) (v.N 3) (v.VS 2) (v.H 2) (v.IS 0) (v.VS 3) (v.N 4) (v.H 3) (v.N 5) (v.H 4) (v.IS 1)
@[irreducible] noncomputable def vD3 : Vars := hk pD3
noncomputable def ktD3 : {P : (yH→yN→yH→Prop) // (∀ x1 x2 x3, P x1 x2 x3) → pD3 vD3} := by
  refine' ⟨(_ : ys→ys→yN→yN→yH→yN→yH→Prop) (vD1.s 0) (vD1.s 1) (vD1.N 3) (vD3.N 5), fun hPD4 => ?main⟩
  case main =>
    intro hg KX T qz7 hLs hIs hc1 K0 dc1 dc2 hrl F9 N9 hNI hnl hnl6 hn0
    generalize vD1.s 0 = g1, vD1.s 1 = g2, vD1.N 3 = g12, vD3.N 5 = g29 at *
    k_steps
    refine wpC_execs_cons (wpC_of ?_)
    (try dsimp only)
    k_steps
    refine wpC_execs_cons (wpC_of ?_)
    (try dsimp only)
    k_steps
    rename Fr _ _ _ _ => F10
    rename News _ _ _ _ => N10
    rename_i qz42 qz43 qz44 qz45
    revert qz7 hIs hc1 hrl hNI hnl hnl6 hn0 hg KX T hLs K0 dc1 dc2 F10 N10
    exact hPD4 qz42 qz43 qz45
noncomputable def pD4 (v : Vars) : Prop := ktD3.1 (v.H 0) (v.N 0) (v.H 1)
@[irreducible] noncomputable def vD4 : Vars := hk pD4
noncomputable def ktD4 : {P : (yH→yN→yN→yN→yN→yN→yN→yN→yN→yN→yVS→yVS→yVS→yR→Prop) // (∀ x1 x2 x3 x4 x5 x6 x7 x8 x9 x10 x11 x12 x13 x14, P x1 x2 x3 x4 x5 x6 x7 x8 x9 x10 x11 x12 x13 x14) → pD4 vD4} := by
  refine' ⟨(_ : yW→ys→ys→yN→yVS→yN→yIS→yN→yH→yN→yN→yN→yN→yN→yN→yN→yN→yN→yVS→yVS→yVS→yR→Prop) (vD1.W 0) (vD1.s 0) (vD1.s 1) (vD1.N 3) (vD3.VS 3) (vD3.N 4) (vD3.IS 1) (vD4.N 0), fun hPD5 => ?main⟩
  case main =>
    intro qz7 hIs hc1 hrl hNI hnl hnl6 hn0 hg KX T hLs K0 dc1 dc2 F10 N10
    generalize vD1.W 0 = w, vD1.s 0 = g1, vD1.s 1 = g2, vD1.N 3 = g12, vD3.VS 3 = ys, vD3.N 4 = D9, vD3.IS 1 = ns, vD4.N 0 = g27 at *
    refine halt_out ?_
    have hfm : ns.sum.fmod 100 = ns.sum % 100 := Int.fmod_eq_emod_of_nonneg _ (by decide)
    refine' Ct.use (c122 w D9 ys ns _ (40 + ns.sum.fmod 100) _ _ ?m hNI ?l ?n ?s0 ?s1) ?B F10 KX N10 T ?hk ?hd ?hu ?_
    case B => exact K0
    case m => exact .head _
    case l => lia
    case n => exact fun n hn => (hn0 n hn).1
    case s0 => ((try clear G); (try clear Y); (try clear ho); (try clear hg); (try clear KX); (try clear X); (try clear V); (try clear T); (try clear B); (try clear TE); (try clear TW); (try clear M); (try clear hcd); (try clear hLs); (try clear hIs); (try clear hc1); (try clear hc2); (try clear K0); (try clear hD); (try clear dc1); (try clear dc2); (try clear X0); (try clear l4); (try clear hdv2); (try clear hS); (try clear hraw); (try clear hrl); (try clear hyl); (try clear o9); (try clear hNI); (try clear hns); (try clear hnl); (try clear hnl6); (try clear hn0); (try clear F10); (try clear N10); (try clear hfm); lia)
    case s1 => ((try clear G); (try clear Y); (try clear ho); (try clear hg); (try clear KX); (try clear X); (try clear V); (try clear T); (try clear B); (try clear TE); (try clear TW); (try clear M); (try clear hcd); (try clear hLs); (try clear hIs); (try clear hc1); (try clear hc2); (try clear K0); (try clear hD); (try clear dc1); (try clear dc2); (try clear X0); (try clear l4); (try clear hdv2); (try clear hS); (try clear hraw); (try clear hrl); (try clear hyl); (try clear o9); (try clear hNI); (try clear hns); (try clear hnl); (try clear hnl6); (try clear hn0); (try clear F10); (try clear N10); (try clear hfm); lia)
    case hk => rfl
    case hd => decide
    case hu => decide
    rintro r' h' tk' nw' F' N' ⟨t, aR, aL, aE, nT, nR, nL, nE, rvs, lvs, evs, rest, rfl, rfl, hring, hlts, hens, hold⟩
    (try clear F10)
    (try clear N10)
    revert qz7 hIs hc1 hrl hNI hnl hnl6 hn0 hg KX T hLs K0 dc1 dc2 F' N' hring hlts hens hold
    exact hPD5 h' tk' t aR aL aE nT nR nL nE rvs lvs evs rest
noncomputable def pD5 (v : Vars) : Prop := ktD4.1 (v.H 0) (v.N 0) (v.N 1) (v.N 2) (v.N 3) (v.N 4) (v.N 5) (v.N 6) (v.N 7) (v.N 8) (v.VS 0) (v.VS 1) (v.VS 2) (v.R 0)
@[irreducible] noncomputable def vD5 : Vars := hk pD5
noncomputable def ktD5 : {P : (yR→Prop) // (∀ x1, P x1) → pD5 vD5} := by
  refine' ⟨(_ : ys→ys→yN→yO→yO→yVS→yN→yIS→yN→yN→yR→yR→Prop) (vD1.s 0) (vD1.s 1) (vD1.N 3) (vD1.O 0) (vD1.O 1) (vD3.VS 3) (vD3.N 4) (vD3.IS 1) (vD4.N 0) (vD5.N 0) (vD5.R 0), fun hPD6 => ?main⟩
  case main =>
    intro qz7 hIs hc1 hrl hNI hnl hnl6 hn0 hg KX T hLs K0 dc1 dc2 Fq4 N' hring hlts hens hold
    generalize vD1.s 0 = g1, vD1.s 1 = s₁, vD1.N 3 = g12, vD1.O 0 = o2, vD1.O 1 = o1, vD3.VS 3 = ys, vD3.N 4 = D9, vD3.IS 1 = ns, vD4.N 0 = g27, vD5.N 0 = g30, vD5.R 0 = rest at *
    have mc2 := hold (s₁.heap.objs.size + 1 + 1, o2) (by k_mem)
    have mc1 := hold (s₁.heap.objs.size + 1, o1) (by k_mem)
    have Nr : News _ _ _ rest := fun p hp => N' p (.tail _ (.tail _ (.tail _ (.tail _ hp))))
    obtain ⟨S0, hS0⟩ : ∃ S0, S0 = offL (s₁.heap.objs.size + 1 + 1) (s₁.heap.objs.size + 1) rest := ⟨_, rfl⟩
    have inS : ∀ p ∈ rest, NotCell p.2 → p ∈ S0 := by rw [hS0]; exact offL_in Nr mc2 mc1 dc1 dc2
    have offS2 : ∀ p ∈ S0, p.1 ≠ s₁.heap.objs.size + 1 + 1 := fun p hp => (offL_ne p (by rw [← hS0]; exact hp)).1
    have offS1 : ∀ p ∈ S0, p.1 ≠ s₁.heap.objs.size + 1 := fun p hp => (offL_ne p (by rw [← hS0]; exact hp)).2
    have t2 := ne_cell N' (.head _) (.tail _ (.tail _ (.tail _ (.tail _ mc2)))) dc1 (fun _ e => by cases e)
    have t1 := ne_cell N' (.head _) (.tail _ (.tail _ (.tail _ (.tail _ mc1)))) dc2 (fun _ e => by cases e)
    have e2 := ne_cell N' (.tail _ (.head _)) (.tail _ (.tail _ (.tail _ (.tail _ mc2)))) dc1 (fun _ e => by cases e)
    have e1 := ne_cell N' (.tail _ (.head _)) (.tail _ (.tail _ (.tail _ (.tail _ mc1)))) dc2 (fun _ e => by cases e)
    have r2 := ne_cell N' (.tail _ (.tail _ (.head _))) (.tail _ (.tail _ (.tail _ (.tail _ mc2)))) dc1 (fun _ e => by cases e)
    have r1 := ne_cell N' (.tail _ (.tail _ (.head _))) (.tail _ (.tail _ (.tail _ (.tail _ mc1)))) dc2 (fun _ e => by cases e)
    have l2 := ne_cell N' (.tail _ (.tail _ (.tail _ (.head _)))) (.tail _ (.tail _ (.tail _ (.tail _ mc2)))) dc1 (fun _ e => by cases e)
    have l1 := ne_cell N' (.tail _ (.tail _ (.tail _ (.head _)))) (.tail _ (.tail _ (.tail _ (.tail _ mc1)))) dc2 (fun _ e => by cases e)
    have N11 : News _ _ _ _ := fun p hp => N' p (law_sub (l' := S0) mc2 mc1 (by rw [hS0]; exact offL_sub) p hp)
    have ltsS := hlts.off inS
    have ensS := hens.off inS
    have mNs := inS _ (hold (D9, LCg.lst ys) (by k_mem)) (fun _ e => by cases e)
    (try clear N')
    (try clear Nr)
    (try clear mc1)
    (try clear mc2)
    (try clear inS)
    (try clear hS0)
    (try clear hold)
    (try clear hlts)
    (try clear hens)
    have Gm := good_run (40 + ns.sum.fmod 100) ns
    have hK := run_len (40 + ns.sum.fmod 100) ns
    revert qz7 hIs hc1 hrl hNI hnl hnl6 hn0 hg KX T hLs K0 dc1 dc2 Fq4 hring offS2 offS1 t2 t1 e2 e1 r2 r1 l2 l1 N11 ltsS ensS mNs Gm hK
    exact hPD6 S0
noncomputable def pD6 (v : Vars) : Prop := ktD5.1 (v.R 0)
@[irreducible] noncomputable def vD6 : Vars := hk pD6
noncomputable def ktD6 : {P : (yH→yH→yH→yO→yH→yO→yO→yFD→Prop) // (∀ x1 x2 x3 x4 x5 x6 x7 x8, P x1 x2 x3 x4 x5 x6 x7 x8) → pD6 vD6} := by
  refine' ⟨(_ : yW→ys→ys→yN→yN→yH→yH→yH→yO→yH→yO→yO→yFD→Prop) (vD1.W 0) (vD1.s 0) (vD1.s 1) (vD4.N 0) (vD5.N 0), fun hPD7 => ?main⟩
  case main =>
    intro qz7 hIs hc1 hrl hNI hnl hnl6 hn0 hg KX T hLs K0 dc1 dc2 Fq4 hring offS2 offS1 t2 t1 e2 e1 r2 r1 l2 l1 N11 ltsS ensS mNs Gm hK
    generalize vD1.W 0 = w, vD1.s 0 = g1, vD1.s 1 = g2, vD4.N 0 = g19, vD5.N 0 = g22 at *
    k_steps
    obtain ⟨o105, fd105, h105, hd105⟩ : ∃ (o : Obj) (fd : FuncData), (Mine.hd.heap_1 w.params).lookup 105 = some o ∧ o.data = .func fd := by
      apply fd_of
      k_is
    refine wpC_execs_cons (wpC_Assign_Name (by with_unfolding_all rfl) (wpC_Call_Name ?_))
    k_steps
    with_unfolding_all refine wpC_fn1 (o := o105) (fd := fd105) ?_
    k_steps
    rename Fr _ _ _ _ => F12
    rename News _ _ _ _ => N12
    rename_i qz46 qz47 qz48 qz49 qz50 qz51 qz52 qz53
    revert qz7 hIs hc1 hrl hNI hnl hnl6 hn0 hring ltsS mNs Gm hK hg KX T hLs K0 dc1 dc2 ensS qz50 F12 N12 qz53 h105 hd105
    exact hPD7 qz46 qz47 qz48 qz49 qz51 qz52 o105 fd105
noncomputable def pD7 (v : Vars) : Prop := ktD6.1 (v.H 0) (v.H 1) (v.H 2) (v.O 0) (v.H 3) (v.O 1) (v.O 2) (v.FD 0)
@[irreducible] noncomputable def vD7 : Vars := hk pD7
noncomputable def ktD7 : {P : (yQ→Prop) × (yI→yN→yN→yN→yO→yN→yO→yN→yO→yM→yH→yN→yQ→Prop) × (yZS→yN→yH→yN→Prop) // (∀ x1, P.1 x1) → (∀ x1 x2 x3 x4 x5 x6 x7 x8 x9 x10 x11 x12 x13, P.2.1 x1 x2 x3 x4 x5 x6 x7 x8 x9 x10 x11 x12 x13) → (∀ x1 x2 x3 x4, P.2.2 x1 x2 x3 x4) → pD7 vD7} := by
  refine' ⟨((_ : ys→ys→yN→yN→yN→yN→yVS→yQ→Prop) (vD1.s 0) (vD1.s 1) (vD4.N 0) (vD5.N 0) (vD5.N 2) (vD5.N 6) (vD5.VS 0), (_ : ys→ys→yN→yN→yN→yN→yVS→yI→yN→yN→yN→yO→yN→yO→yN→yO→yM→yH→yN→yQ→Prop) (vD1.s 0) (vD1.s 1) (vD4.N 0) (vD5.N 0) (vD5.N 2) (vD5.N 6) (vD5.VS 0), (_ : ys→ys→yN→yN→yN→yN→yVS→yZS→yN→yH→yN→Prop) (vD1.s 0) (vD1.s 1) (vD4.N 0) (vD5.N 0) (vD5.N 2) (vD5.N 6) (vD5.VS 0)), fun hPD8 hPD9 hPD10 => ?main⟩
  case main =>
    intro qz7 hIs hc1 hrl hNI hnl hnl6 hn0 hring ltsS mNs Gm hK hg KX T hLs K0 dc1 dc2 ensS qz50 F12 N12 qz53 h105 hd105
    generalize vD1.s 0 = g1, vD1.s 1 = g2, vD4.N 0 = g19, vD5.N 0 = g22, vD5.N 2 = aR, vD5.N 6 = nR, vD5.VS 0 = rvs at *
    refine halt_out ?_
    obtain ⟨zs, hz3, hzi, hzin⟩ := film_ints Gm (by lia) hring ltsS
    refine ListComp2 (sz := 3) (vs := rvs) (k := nR) (ax := aR) (zs := zs) (by with_unfolding_all rfl) (by decide) (by rfl) (by decide) (by rfl) (by rfl) (by rfl) (by decide) F12 N12 ?hi1 (.tail _ (.tail _ (.head _))) (by have := ints_len hring; lia) hz3 (by decide) (fun _ => rfl) (fun _ _ => rfl) ?hin ?hfin
    case hi1 =>
      intro Q hQ
      revert qz7 hIs hc1 hg KX T hLs K0 dc1 dc2 F12 hQ
      exact hPD8 Q
    case hin =>
      intro i v hv
      obtain ⟨x, t9, b, n9, rfl, hx0, hx1, hlx, hbS⟩ := hzin i v hv
      refine ⟨b, n9, .tail _ (.tail _ (.tail _ (.tail _ (.tail _ (.tail _ hbS))))), ?_⟩
      intro I oI C oC D oD cm h tk E' hC hcm off F14 N14
      (try clear F12)
      (try clear N12)
      revert qz7 hIs hc1 qz50 hg KX T hLs K0 dc1 dc2 hx0 hx1 hlx hC hcm N14
      exact hPD9 x t9 b I oI C oC D oD cm h tk E'
    case hfin =>
      intro D14 h14 tk14 F14 N14 l14
      (try clear F12)
      (try clear N12)
      revert qz7 hIs hc1 hrl hNI hnl hnl6 hn0 mNs Gm hK ensS qz53 h105 hd105 hring hg KX T hLs K0 dc1 dc2 hzi F14 N14
      exact hPD10 zs D14 h14 tk14
noncomputable def pD8 (v : Vars) : Prop := ktD7.1.1 (v.Q 0)
@[irreducible] noncomputable def vD8 : Vars := hk pD8
theorem tD8 : pD8 vD8 := by
  intro qz7 hIs hc1 hg KX T hLs K0 dc1 dc2 F12 hQ
  generalize vD1.s 0 = g1, vD1.s 1 = g2, vD4.N 0 = g17, vD5.N 0 = g20 at *
  k_steps
  exact hQ
theorem aD8 : ∀ v, pD8 v := hkv tD8 (by unfold vD8; rfl)
noncomputable def pD9 (v : Vars) : Prop := ktD7.1.2.1 (v.I 0) (v.N 0) (v.N 1) (v.N 2) (v.O 0) (v.N 3) (v.O 1) (v.N 4) (v.O 2) (v.M 0) (v.H 0) (v.N 5) (v.Q 0)
@[irreducible] noncomputable def vD9 : Vars := hk pD9
theorem tD9 : pD9 vD9 := by
  intro qz7 hIs hc1 qz50 hg KX T hLs K0 dc1 dc2 hx0 hx1 hlx hC hcm N14
  generalize vD1.s 0 = g1, vD1.s 1 = g2, vD4.N 0 = g14, vD5.N 0 = g17, vD9.N 5 = g47 at *
  k_steps
theorem aD9 : ∀ v, pD9 v := hkv tD9 (by unfold vD9; rfl)
noncomputable def pD10 (v : Vars) : Prop := ktD7.1.2.2 (v.ZS 0) (v.N 0) (v.H 0) (v.N 1)
@[irreducible] noncomputable def vD10 : Vars := hk pD10
noncomputable def ktD10 : {P : (yH→yN→yN→Prop) // (∀ x1 x2 x3, P x1 x2 x3) → pD10 vD10} := by
  refine' ⟨(_ : ys→ys→yN→yN→yN→yH→yN→yN→Prop) (vD1.s 0) (vD1.s 1) (vD4.N 0) (vD5.N 0) (vD10.N 1), fun hPD11 => ?main⟩
  case main =>
    intro qz7 hIs hc1 hrl hNI hnl hnl6 hn0 mNs Gm hK ensS qz53 h105 hd105 hring hg KX T hLs K0 dc1 dc2 hzi F14 N14
    generalize vD1.s 0 = g1, vD1.s 1 = g2, vD4.N 0 = g19, vD5.N 0 = g22, vD10.N 1 = g46 at *
    k_steps
    refine KBa.make_K F14 N14 (by rfl) ⟨_, (N14 _ (.head _)).1, rfl, _, rfl⟩ hzi (film_in Gm (by lia) (by lia)) (by rw [film_len]; lia) ?_
    intro h15 tb15 tk15 F15 N15 _
    (try clear F14)
    (try clear N14)
    k_steps
    · rename Fr _ _ _ _ => F16
      exact KX.keeps F16.keep _ _ h105
    rename Fr _ _ _ _ => F16
    rename News _ _ _ _ => N16
    try clear F15 N15
    rename_i qz54
    revert qz7 hIs hc1 hrl hNI hnl hnl6 hn0 mNs Gm hK ensS qz53 h105 hd105 hring hg KX T hLs K0 dc1 dc2 F16 N16
    exact hPD11 h15 tb15 tk15
noncomputable def pD11 (v : Vars) : Prop := ktD10.1 (v.H 0) (v.N 0) (v.N 1)
@[irreducible] noncomputable def vD11 : Vars := hk pD11
noncomputable def ktD11 : {P : (yBY→yH→yN→yN→yN→yO→Prop) // (∀ x1 x2 x3 x4 x5 x6, P x1 x2 x3 x4 x5 x6) → pD11 vD11} := by
  refine' ⟨(_ : yW→ys→ys→yIS→yN→yN→yBY→yH→yN→yN→yN→yO→Prop) (vD1.W 0) (vD1.s 0) (vD1.s 1) (vD3.IS 1) (vD4.N 0) (vD11.N 1), fun hPD12 => ?main⟩
  case main =>
    intro qz7 hIs hc1 hrl hNI hnl hnl6 hn0 mNs Gm hK ensS qz53 h105 hd105 hring hg KX T hLs K0 dc1 dc2 F16 N16
    generalize vD1.W 0 = w, vD1.s 0 = g1, vD1.s 1 = g2, vD3.IS 1 = ns, vD4.N 0 = g19, vD11.N 1 = g40 at *
    obtain ⟨fb, hfb⟩ : ∃ fb, fb = bytesL (filmL (40 + ns.sum.fmod 100) (runM (40 + ns.sum.fmod 100) ns)) := ⟨_, rfl⟩
    have hfl : fb.length = 3 * (runM (40 + ns.sum.fmod 100) ns).ring.length := by rw [hfb]; unfold bytesL; rw [List.length_map, film_len]
    have el : (3 * (((runM (40 + ns.sum.fmod 100) ns).ring.length : Nat) : Int)) = (fb.length : Int) := by ((try clear G); (try clear Y); (try clear ho); (try clear hg); (try clear KX); (try clear X); (try clear V); (try clear T); (try clear B); (try clear TE); (try clear TW); (try clear M); (try clear hcd); (try clear hLs); (try clear hIs); (try clear hc1); (try clear hc2); (try clear K0); (try clear hD); (try clear dc1); (try clear dc2); (try clear X0); (try clear l4); (try clear hdv2); (try clear hS); (try clear hraw); (try clear hrl); (try clear hyl); (try clear o9); (try clear hNI); (try clear hns); (try clear hnl6); (try clear hn0); (try clear hfm); (try clear hring); (try clear offS2); (try clear offS1); (try clear t2); (try clear t1); (try clear e2); (try clear e1); (try clear r2); (try clear r1); (try clear l2); (try clear l1); (try clear ltsS); (try clear ensS); (try clear mNs); (try clear Gm); (try clear h105); (try clear hd105); (try clear hz3); (try clear hzi); (try clear hzin); (try clear l14); (try clear F16); (try clear N16); (try clear hfb); lia)
    have ebs : byteArr (filmL (40 + ns.sum.fmod 100) (runM (40 + ns.sum.fmod 100) ns)) = fb.toArray := by rw [hfb]; rfl
    rw [el, ebs]
    refine' CtC.use (c105 w fb _ _ _ ?l0 ?l1) ?B F16 KX N16 T ?hk ?hd ?hu ?_
    case B => exact K0
    case l0 => lia
    case l1 => ((try clear G); (try clear Y); (try clear ho); (try clear hg); (try clear KX); (try clear X); (try clear V); (try clear T); (try clear B); (try clear TE); (try clear TW); (try clear M); (try clear hcd); (try clear hLs); (try clear hIs); (try clear hc1); (try clear hc2); (try clear K0); (try clear hD); (try clear dc1); (try clear dc2); (try clear X0); (try clear l4); (try clear hdv2); (try clear hS); (try clear hraw); (try clear hrl); (try clear hyl); (try clear o9); (try clear hNI); (try clear hns); (try clear hnl6); (try clear hn0); (try clear hfm); (try clear hring); (try clear offS2); (try clear offS1); (try clear t2); (try clear t1); (try clear e2); (try clear e1); (try clear r2); (try clear r1); (try clear l2); (try clear l1); (try clear ltsS); (try clear ensS); (try clear mNs); (try clear Gm); (try clear h105); (try clear hd105); (try clear hz3); (try clear hzi); (try clear hzin); (try clear l14); (try clear F16); (try clear N16); (try clear hfb); (try clear el); (try clear ebs); lia)
    case hk => rfl
    case hd => decide
    case hu => decide
    rintro r' h17 tk17 nw17 F17 N17 ⟨t17, D17, o17, rfl, rfl⟩
    (try clear F16)
    (try clear N16)
    revert qz7 hIs hc1 hrl mNs qz53 hd105 hNI hnl hnl6 hn0 Gm hK ensS h105 hring hg KX T hLs K0 dc1 dc2 hfb F17 N17
    exact hPD12 fb h17 tk17 t17 D17 o17
noncomputable def pD12 (v : Vars) : Prop := ktD11.1 (v.BY 0) (v.H 0) (v.N 0) (v.N 1) (v.N 2) (v.O 0)
@[irreducible] noncomputable def vD12 : Vars := hk pD12
noncomputable def ktD12 : {P : (yH→Prop) // (∀ x1, P x1) → pD12 vD12} := by
  refine' ⟨(_ : ys→ys→yN→yO→yFD→yN→yN→yH→Prop) (vD1.s 0) (vD1.s 1) (vD4.N 0) (vD7.O 2) (vD7.FD 0) (vD11.N 1) (vD12.N 0), fun hPD13 => ?main⟩
  case main =>
    intro qz7 hIs hc1 hrl mNs qz53 hd105 hNI hnl hnl6 hn0 Gm hK ensS h105 hring hg KX T hLs K0 dc1 dc2 hfb F17 N17
    generalize vD1.s 0 = g1, vD1.s 1 = g2, vD4.N 0 = g19, vD7.O 2 = o105, vD7.FD 0 = fd105, vD11.N 1 = g39, vD12.N 0 = g42 at *
    k_steps
    refine wpC_execs_cons (wpC_Assign_Name (by with_unfolding_all rfl) (wpC_Call_Name ?_))
    k_steps
    with_unfolding_all refine wpC_fn1 (o := o105) (fd := fd105) ?_
    k_steps
    rename Fr _ _ _ _ => F18
    rename News _ _ _ _ => N18
    refine halt_out ?_
    rename_i qz55
    revert qz7 hIs hc1 hrl mNs qz53 hNI hnl hnl6 hn0 Gm hK ensS hring hfb hd105 h105 hg KX T hLs K0 dc1 dc2 F18 N18
    exact hPD13 qz55
noncomputable def pD13 (v : Vars) : Prop := ktD12.1 (v.H 0)
@[irreducible] noncomputable def vD13 : Vars := hk pD13
noncomputable def ktD13 : {P : (yN→yVS→yN→yO→yN→yM→yH→yN→yR→yAS→yQ→yI→yN→yE→yN→yN→yN→yN→yN→yN→yN→Prop) × (yVS→yH→yN→yH→yN→Prop) // (∀ x1 x2 x3 x4 x5 x6 x7 x8 x9 x10 x11 x12 x13 x14 x15 x16 x17 x18 x19 x20 x21, P.1 x1 x2 x3 x4 x5 x6 x7 x8 x9 x10 x11 x12 x13 x14 x15 x16 x17 x18 x19 x20 x21) → (∀ x1 x2 x3 x4 x5, P.2 x1 x2 x3 x4 x5) → pD13 vD13} := by
  refine' ⟨((_ : ys→ys→yVS→yIS→yN→yN→yVS→yN→yN→yN→yVS→yN→yO→yN→yM→yH→yN→yR→yAS→yQ→yI→yN→yE→yN→yN→yN→yN→yN→yN→yN→Prop) (vD1.s 0) (vD1.s 1) (vD3.VS 3) (vD3.IS 1) (vD4.N 0) (vD5.N 1) (vD5.VS 0) (vD11.N 1) (vD12.N 0), (_ : ys→ys→yVS→yIS→yN→yN→yVS→yN→yN→yVS→yH→yN→yH→yN→Prop) (vD1.s 0) (vD1.s 1) (vD3.VS 3) (vD3.IS 1) (vD4.N 0) (vD5.N 1) (vD5.VS 0) (vD11.N 1) (vD12.N 0)), fun hPD14 hPD15 => ?main⟩
  case main =>
    intro qz7 hIs hc1 hrl mNs qz53 hNI hnl hnl6 hn0 Gm hK ensS hring hfb hd105 h105 hg KX T hLs K0 dc1 dc2 F18 N18
    generalize vD1.s 0 = g1, vD1.s 1 = g2, vD3.VS 3 = ys, vD3.IS 1 = ns, vD4.N 0 = g19, vD5.N 1 = t, vD5.VS 0 = rvs, vD11.N 1 = g39, vD12.N 0 = g42 at *
    refine ListComp_G (F₀ := F18) (by with_unfolding_all rfl) (by decide) (by rfl) (by decide) ?_
    k_steps
    refine halt_out ?_
    have hrl2 := ints_len hring
    refine comp_list (vs := rvs) (by rfl) (by rfl) (by rfl) F18 N18 (.tail _ (.tail _ (.tail _ (.tail _ (.head _))))) (by rw [PySem.sizeLine_eq]; lia) (fun (ys : List Value) nw => nw = _ ∧ ∀ j v, ys[j]? = some v → ∃ t, v = Value.int (((runM (40 + ns.sum.fmod 100) ns).ring.map (ccAt (runM (40 + ns.sum.fmod 100) ns))).getD j 0) t) ⟨rfl, fun j v e => by simp at e⟩ ?elt ?fin
    case elt =>
      intro i v₁ ys2 nw hv1 hyl2 C oC D cm h tk own wr E' hJ hC hcm off hCD hwo hown F' N'
      obtain ⟨hJ1, hJ2⟩ := hJ
      subst hJ1
      obtain ⟨x, tx, hxi, rfl⟩ := ints_at hring hv1
      have hxm := List.mem_of_getElem? hxi
      have hxr := Gm.rng x hxm
      obtain ⟨u, e, hu, he, hE⟩ := ensS.at (i := x.toNat) (by have := Gm.el; ((try clear G); (try clear Y); (try clear ho); (try clear hg); (try clear KX); (try clear X); (try clear V); (try clear T); (try clear B); (try clear TE); (try clear TW); (try clear M); (try clear hcd); (try clear hLs); (try clear hIs); (try clear hc1); (try clear hc2); (try clear K0); (try clear hD); (try clear dc1); (try clear dc2); (try clear X0); (try clear l4); (try clear hdv2); (try clear hS); (try clear hraw); (try clear hrl); (try clear hyl); (try clear o9); (try clear hNI); (try clear hns); (try clear hnl6); (try clear hn0); (try clear hfm); (try clear hring); (try clear offS2); (try clear offS1); (try clear t2); (try clear t1); (try clear e2); (try clear e1); (try clear r2); (try clear r1); (try clear l2); (try clear l1); (try clear ltsS); (try clear ensS); (try clear mNs); (try clear Gm); (try clear h105); (try clear hd105); (try clear hz3); (try clear hzi); (try clear hzin); (try clear l14); (try clear hfb); (try clear hfl); (try clear el); (try clear ebs); (try clear F18); (try clear N18); (try clear hrl2); (try clear hyl2); (try clear hC); (try clear hCD); (try clear hwo); (try clear hown); (try clear F'); (try clear hJ2); (try clear off); (try clear N'); (try clear hxi); (try clear hv1); (try clear hcm); (try clear hxm); lia))
      obtain ⟨te, de, oe, kvs, ne, q1, q2, q3, q4, rfl, mt, md, _⟩ := hE
      have hx0 := hxr.1
      have hx1 : x < 1048576 := by lia
      (try clear F18)
      (try clear N18)
      have hN' : Halt (News _ _ _ _) := halt_in N'
      have N2' := news_own N'
      (try clear N')
      rename_i qz56
      revert qz7 hIs hc1 qz53 hg KX T hLs K0 dc1 dc2 hyl2 hC F' hJ2 off hxi hcm he hu mt hx0 hx1 hN' N2'
      exact hPD14 i ys2 C oC D cm h tk own wr E' x tx e te de ne q1 q2 q3 q4
    case fin =>
      rintro s₂ ys2 nw ⟨h9, rfl⟩ hyl2 ⟨rfl, hys2⟩
      intro D20 h20 tk20 F20 N20 o20
      (try clear F18)
      (try clear N18)
      have hci : IntsAre ys2 ((runM (40 + ns.sum.fmod 100) ns).ring.map (ccAt (runM (40 + ns.sum.fmod 100) ns))) := ints_of (by rw [hyl2, List.length_map]; omega) hys2
      (try clear hys2)
      revert qz7 hIs hc1 hrl qz53 hd105 h105 mNs hNI hnl hnl6 hn0 hK ensS hring hfb hg KX T hLs K0 dc1 dc2 hrl2 hyl2 F20 N20 hci
      exact hPD15 ys2 h9 D20 h20 tk20
noncomputable def pD14 (v : Vars) : Prop := ktD13.1.1 (v.N 0) (v.VS 0) (v.N 1) (v.O 0) (v.N 2) (v.M 0) (v.H 0) (v.N 3) (v.R 0) (v.AS 0) (v.Q 0) (v.I 0) (v.N 4) (v.E 0) (v.N 5) (v.N 6) (v.N 7) (v.N 8) (v.N 9) (v.N 10) (v.N 11)
@[irreducible] noncomputable def vD14 : Vars := hk pD14
theorem tD14 : pD14 vD14 := by
  intro qz7 hIs hc1 qz53 hg KX T hLs K0 dc1 dc2 hyl2 hC F' hJ2 off hxi hcm he hu mt hx0 hx1 hN' N2'
  generalize vD1.s 0 = g1, vD1.s 1 = g2, vD3.IS 1 = ns, vD4.N 0 = g17, vD11.N 1 = g35, vD12.N 0 = g38, vD14.N 3 = g50, vD14.I 0 = x, vD14.E 0 = e at *
  k_steps
  have ecc : ccAt (runM (40 + ns.sum.fmod 100) ns) x = e.cc := by unfold ccAt; rw [List.getD_eq_getElem?_getD, he]; rfl
  exact ⟨_, _, _, rfl, F', halt_out hN', off, rfl, snoc_get hJ2 ⟨_, by rw [hyl2, List.getD_eq_getElem?_getD, List.getElem?_map, hxi]; show _ = Value.int (ccAt _ x) _; rw [ecc]⟩⟩
theorem aD14 : ∀ v, pD14 v := hkv tD14 (by unfold vD14; rfl)
noncomputable def pD15 (v : Vars) : Prop := ktD13.1.2 (v.VS 0) (v.H 0) (v.N 0) (v.H 1) (v.N 1)
@[irreducible] noncomputable def vD15 : Vars := hk pD15
noncomputable def ktD15 : {P : (yH→yN→yN→Prop) // (∀ x1 x2 x3, P x1 x2 x3) → pD15 vD15} := by
  refine' ⟨(_ : ys→ys→yN→yN→yN→yN→yH→yN→yN→Prop) (vD1.s 0) (vD1.s 1) (vD4.N 0) (vD11.N 1) (vD12.N 0) (vD15.N 1), fun hPD16 => ?main⟩
  case main =>
    intro qz7 hIs hc1 hrl qz53 hd105 h105 mNs hNI hnl hnl6 hn0 hK ensS hring hfb hg KX T hLs K0 dc1 dc2 hrl2 hyl2 F20 N20 hci
    generalize vD1.s 0 = g1, vD1.s 1 = g2, vD4.N 0 = g20, vD11.N 1 = g40, vD12.N 0 = g43, vD15.N 1 = g52 at *
    k_steps
    refine KBa.make_K F20 N20 (by rfl) ⟨_, (N20 _ (.head _)).1, rfl, _, rfl⟩ hci (cc_in _ _ hnl6) (by rw [List.length_map]; lia) ?_
    intro h21 tb21 tk21 F21 N21 _
    (try clear F20)
    (try clear N20)
    k_steps
    · rename Fr _ _ _ _ => F22
      exact KX.keeps F22.keep _ _ h105
    rename Fr _ _ _ _ => F22
    rename News _ _ _ _ => N22
    rename_i qz57
    revert qz7 hIs hc1 hrl qz53 mNs hNI hnl hnl6 hn0 hK ensS hfb hg KX T hLs K0 dc1 dc2 F22 N22
    exact hPD16 h21 tb21 tk21
noncomputable def pD16 (v : Vars) : Prop := ktD15.1 (v.H 0) (v.N 0) (v.N 1)
@[irreducible] noncomputable def vD16 : Vars := hk pD16
noncomputable def ktD16 : {P : (yBY→yH→yN→yN→yN→yO→Prop) // (∀ x1 x2 x3 x4 x5 x6, P x1 x2 x3 x4 x5 x6) → pD16 vD16} := by
  refine' ⟨(_ : yW→ys→ys→yIS→yN→yN→yBY→yH→yN→yN→yN→yO→Prop) (vD1.W 0) (vD1.s 0) (vD1.s 1) (vD3.IS 1) (vD4.N 0) (vD16.N 1), fun hPD17 => ?main⟩
  case main =>
    intro qz7 hIs hc1 hrl qz53 mNs hNI hnl hnl6 hn0 hK ensS hfb hg KX T hLs K0 dc1 dc2 F22 N22
    generalize vD1.W 0 = w, vD1.s 0 = g1, vD1.s 1 = g2, vD3.IS 1 = ns, vD4.N 0 = g19, vD16.N 1 = g44 at *
    obtain ⟨cb, hcb⟩ : ∃ cb, cb = bytesL ((runM (40 + ns.sum.fmod 100) ns).ring.map (ccAt (runM (40 + ns.sum.fmod 100) ns))) := ⟨_, rfl⟩
    have hcl : cb.length = (runM (40 + ns.sum.fmod 100) ns).ring.length := by rw [hcb]; unfold bytesL; rw [List.length_map, List.length_map]
    have ecs : byteArr ((runM (40 + ns.sum.fmod 100) ns).ring.map (ccAt (runM (40 + ns.sum.fmod 100) ns))) = cb.toArray := by rw [hcb]; rfl
    rw [← hcl, ecs]
    refine' CtC.use (c105 w cb _ _ _ ?l0 ?l1) ?B F22 KX N22 T ?hk ?hd ?hu ?_
    case B => exact K0
    case l0 => lia
    case l1 => ((try clear G); (try clear Y); (try clear ho); (try clear hg); (try clear KX); (try clear X); (try clear V); (try clear T); (try clear B); (try clear TE); (try clear TW); (try clear M); (try clear hcd); (try clear hLs); (try clear hIs); (try clear hc1); (try clear hc2); (try clear K0); (try clear hD); (try clear dc1); (try clear dc2); (try clear X0); (try clear l4); (try clear hdv2); (try clear hS); (try clear hraw); (try clear hrl); (try clear hyl); (try clear o9); (try clear hNI); (try clear hns); (try clear hnl6); (try clear hn0); (try clear hfm); (try clear hring); (try clear offS2); (try clear offS1); (try clear t2); (try clear t1); (try clear e2); (try clear e1); (try clear r2); (try clear r1); (try clear l2); (try clear l1); (try clear ltsS); (try clear ensS); (try clear mNs); (try clear Gm); (try clear h105); (try clear hd105); (try clear hz3); (try clear hzi); (try clear hzin); (try clear l14); (try clear hfb); (try clear hfl); (try clear el); (try clear ebs); (try clear hrl2); (try clear hyl2); (try clear o20); (try clear hci); (try clear F22); (try clear N22); (try clear hcb); (try clear ecs); lia)
    case hk => rfl
    case hd => decide
    case hu => decide
    rintro r' h23 tk23 nw23 F23 N23 ⟨t23, D23, o23, rfl, rfl⟩
    (try clear F22)
    (try clear N22)
    revert qz7 hIs hc1 hrl qz53 mNs hNI hnl hnl6 hn0 ensS hfb hg KX T hLs K0 dc1 dc2 hcb F23 N23
    exact hPD17 cb h23 tk23 t23 D23 o23
noncomputable def pD17 (v : Vars) : Prop := ktD16.1 (v.BY 0) (v.H 0) (v.N 0) (v.N 1) (v.N 2) (v.O 0)
@[irreducible] noncomputable def vD17 : Vars := hk pD17
noncomputable def ktD17 : {P : (yH→yH→yN→yN→yN→yVS→yR→Prop) // (∀ x1 x2 x3 x4 x5 x6 x7, P x1 x2 x3 x4 x5 x6 x7) → pD17 vD17} := by
  refine' ⟨(_ : yW→ys→ys→yIS→yN→yN→yN→yVS→yR→yBY→yN→yBY→yN→yH→yH→yN→yN→yN→yVS→yR→Prop) (vD1.W 0) (vD1.s 0) (vD1.s 1) (vD3.IS 1) (vD4.N 0) (vD5.N 4) (vD5.N 8) (vD5.VS 2) (vD6.R 0) (vD12.BY 0) (vD16.N 1) (vD17.BY 0) (vD17.N 0), fun hPD18 => ?main⟩
  case main =>
    intro qz7 hIs hc1 hrl qz53 mNs hNI hnl hnl6 hn0 ensS hfb hg KX T hLs K0 dc1 dc2 hcb F23 N23
    generalize vD1.W 0 = w, vD1.s 0 = g1, vD1.s 1 = g2, vD3.IS 1 = ns, vD4.N 0 = g19, vD5.N 4 = aE, vD5.N 8 = nE, vD5.VS 2 = evs, vD6.R 0 = S0, vD12.BY 0 = fb, vD16.N 1 = g43, vD17.BY 0 = cb, vD17.N 0 = g46 at *
    k_steps
    refine wpC_execs_cons (wpC_of ?_)
    k_steps
    rename Fr _ _ _ _ => F24
    rename News _ _ _ _ => N24
    refine halt_out ?_
    have ask := frieze_asks (40 + ns.sum.fmod 100) ns hnl6 (by lia) (by lia)
    dsimp only at ask
    rw [← hcb, ← hfb] at ask
    obtain ⟨a1, a2, a3, a4, a5, a6, a7, a8, a9⟩ := ask
    refine' Ct.use (c127 w cb.reverse fb.reverse _ _ (40 + ns.sum.fmod 100) (colsL (runM (40 + ns.sum.fmod 100) ns)) (Ef (runD (40 + ns.sum.fmod 100) ns)) _ a1 a2 a3 a4 a5 ?s0 ?s1 a6 a7 a8) ?B F24 KX N24 T ?hk ?hd ?hu ?_
    case B => exact K0
    case s0 => lia
    case s1 => lia
    case hk => rfl
    case hd => decide
    case hu => decide
    rintro r' h25 tk25 nw25 F25 N25 ⟨aW, nW, wvs, S1, rfl, rfl, hrows, hS1⟩
    have mE1 := hS1 _ (show (aE, ({ cls := .type "list", data := .seq evs.toArray nE } : Obj)) ∈ _ by k_mem)
    have sS : ∀ p ∈ S0, p ∈ S1 := fun p hp => hS1 p (by repeat (first | exact hp | apply List.Mem.tail))
    have mN1 := sS _ mNs
    have ens1 := ensS.mono sS
    (try clear F24)
    (try clear N24)
    rename_i qz58
    revert qz7 hIs hc1 hrl hNI hnl hnl6 hn0 hfb hg KX T hLs K0 dc1 dc2 a9 F25 N25 hrows mE1 mN1 ens1
    exact hPD18 qz58 h25 tk25 aW nW wvs S1
noncomputable def pD18 (v : Vars) : Prop := ktD17.1 (v.H 0) (v.H 1) (v.N 0) (v.N 1) (v.N 2) (v.VS 0) (v.R 0)
@[irreducible] noncomputable def vD18 : Vars := hk pD18
theorem tD18 : pD18 vD18 := by
  intro qz7 hIs hc1 hrl hNI hnl hnl6 hn0 hfb hg KX T hLs K0 dc1 dc2 a9 F25 N25 hrows mE1 mN1 ens1
  generalize vD1.W 0 = w, vD1.s 0 = g1, vD1.s 1 = g2, vD3.VS 3 = ys, vD3.N 4 = D9, vD3.IS 1 = ns, vD4.N 0 = g19, vD12.BY 0 = fb, vD17.N 0 = g27, vD18.N 0 = g31 at *
  k_steps
  rename Fr _ _ _ _ => F26
  rename News _ _ _ _ => N26
  refine halt_out ?_
  refine' Ct.use (c139 w D9 ys ns ys.length (40 + ns.sum.fmod 100) _ _ ?m hNI ?n0 hnl6 ?nn ?s0 ?s1) ?B F26 KX N26 T ?hk ?hd ?hu ?_
  case B => exact K0
  case m => exact .tail _ (.tail _ mN1)
  case n0 => lia
  case nn => exact fun n hn => (hn0 n hn).1
  case s0 => lia
  case s1 => lia
  case hk => rfl
  case hd => decide
  case hu => decide
  rintro r' h27 tk27 nw27 F27 N27 ⟨t2, aE2, aRw2, nT2, nE2, nR2, evs2, rvs2, tb2, rfl, mt2, mE2, mR2, hE2, hR2, hold2⟩
  have GD := goodD_run (40 + ns.sum.fmod 100) ns
  have Z := fz_run (40 + ns.sum.fmod 100) ns
  have hfilm := film_due (sp := 40 + ns.sum.fmod 100) GD Z
  have hrw := rows_eq GD Z
  have hEq := ents_eq (40 + ns.sum.fmod 100) ns
  rw [runD_m] at mt2 hE2 hR2 hfilm hrw
  have ebb : byteArr (filmL (40 + ns.sum.fmod 100) (runM (40 + ns.sum.fmod 100) ns)).reverse = fb.reverse.toArray := by rw [hfb, bytesL_rev]; rfl
  rw [hfilm, ebb] at mt2
  rw [a9] at hrows
  rw [hrw] at hrows
  refine law_eq (w := w) N27 (hold2 _ (.head _)) mt2 (hold2 _ (.tail _ (.tail _ mE1))) mE2 (ens1.mono fun p hp => hold2 p (.tail _ (.tail _ hp))) hE2 hEq.1 hEq.2 (hold2 _ (.tail _ (.head _))) mR2 (hrows.mono fun p hp => hold2 p (.tail _ (.tail _ hp))) hR2 (Nat.le_of_ble_eq_true rfl) (Nat.le_of_ble_eq_true rfl) (Nat.le_of_ble_eq_true rfl) (Nat.le_of_ble_eq_true rfl) ?_
  exact good_true hg rfl (.of_keep F27.keep) (by exact postW_of (by wrow_shape) (by wtm_val) (by str_meet; first | done | w_fin))
theorem aD18 : ∀ v, pD18 v := hkv tD18 (by unfold vD18; rfl)
theorem tD17 : pD17 vD17 := ktD17.2 (fun x1 x2 x3 x4 x5 x6 x7 => aD18 {d0v with H := sl x1 [x2], N := sl x3 [x4, x5], VS := sl x6 [], R := sl x7 []})
theorem aD17 : ∀ v, pD17 v := hkv tD17 (by unfold vD17; rfl)
theorem tD16 : pD16 vD16 := ktD16.2 (fun x1 x2 x3 x4 x5 x6 => aD17 {d0v with H := sl x2 [], N := sl x3 [x4, x5], O := sl x6 [], BY := sl x1 []})
theorem aD16 : ∀ v, pD16 v := hkv tD16 (by unfold vD16; rfl)
theorem tD15 : pD15 vD15 := ktD15.2 (fun x1 x2 x3 => aD16 {d0v with H := sl x1 [], N := sl x2 [x3]})
theorem aD15 : ∀ v, pD15 v := hkv tD15 (by unfold vD15; rfl)
theorem tD13 : pD13 vD13 := ktD13.2 (fun x1 x2 x3 x4 x5 x6 x7 x8 x9 x10 x11 x12 x13 x14 x15 x16 x17 x18 x19 x20 x21 => aD14 {d0v with H := sl x7 [], N := sl x1 [x3, x5, x8, x13, x15, x16, x17, x18, x19, x20, x21], O := sl x4 [], VS := sl x2 [], I := sl x12 [], M := sl x6 [], E := sl x14 [], R := sl x9 [], Q := sl x11 [], AS := sl x10 []}) (fun x1 x2 x3 x4 x5 => aD15 {d0v with H := sl x2 [x4], N := sl x3 [x5], VS := sl x1 []})
theorem aD13 : ∀ v, pD13 v := hkv tD13 (by unfold vD13; rfl)
theorem tD12 : pD12 vD12 := ktD12.2 (fun x1 => aD13 {d0v with H := sl x1 []})
theorem aD12 : ∀ v, pD12 v := hkv tD12 (by unfold vD12; rfl)
theorem tD11 : pD11 vD11 := ktD11.2 (fun x1 x2 x3 x4 x5 x6 => aD12 {d0v with H := sl x2 [], N := sl x3 [x4, x5], O := sl x6 [], BY := sl x1 []})
theorem aD11 : ∀ v, pD11 v := hkv tD11 (by unfold vD11; rfl)
theorem tD10 : pD10 vD10 := ktD10.2 (fun x1 x2 x3 => aD11 {d0v with H := sl x1 [], N := sl x2 [x3]})
theorem aD10 : ∀ v, pD10 v := hkv tD10 (by unfold vD10; rfl)
theorem tD7 : pD7 vD7 := ktD7.2 (fun x1 => aD8 {d0v with Q := sl x1 []}) (fun x1 x2 x3 x4 x5 x6 x7 x8 x9 x10 x11 x12 x13 => aD9 {d0v with H := sl x11 [], N := sl x2 [x3, x4, x6, x8, x12], O := sl x5 [x7, x9], I := sl x1 [], M := sl x10 [], Q := sl x13 []}) (fun x1 x2 x3 x4 => aD10 {d0v with H := sl x3 [], N := sl x2 [x4], ZS := sl x1 []})
theorem aD7 : ∀ v, pD7 v := hkv tD7 (by unfold vD7; rfl)
theorem tD6 : pD6 vD6 := ktD6.2 (fun x1 x2 x3 x4 x5 x6 x7 x8 => aD7 {d0v with H := sl x1 [x2, x3, x5], O := sl x4 [x6, x7], FD := sl x8 []})
theorem aD6 : ∀ v, pD6 v := hkv tD6 (by unfold vD6; rfl)
theorem tD5 : pD5 vD5 := ktD5.2 (fun x1 => aD6 {d0v with R := sl x1 []})
theorem aD5 : ∀ v, pD5 v := hkv tD5 (by unfold vD5; rfl)
theorem tD4 : pD4 vD4 := ktD4.2 (fun x1 x2 x3 x4 x5 x6 x7 x8 x9 x10 x11 x12 x13 x14 => aD5 {d0v with H := sl x1 [], N := sl x2 [x3, x4, x5, x6, x7, x8, x9, x10], VS := sl x11 [x12, x13], R := sl x14 []})
theorem aD4 : ∀ v, pD4 v := hkv tD4 (by unfold vD4; rfl)
theorem tD3 : pD3 vD3 := ktD3.2 (fun x1 x2 x3 => aD4 {d0v with H := sl x1 [x3], N := sl x2 []})
theorem aD3 : ∀ v, pD3 v := hkv tD3 (by unfold vD3; rfl)
theorem tD1 : pD1 vD1 := ktD1.2 (fun x1 x2 x3 x4 x5 x6 x7 x8 x9 x10 x11 x12 x13 x14 x15 x16 x17 x18 x19 x20 x21 x22 x23 x24 x25 => aD2 {d0v with H := sl x4 [x6, x10, x19], N := sl x1 [x3, x5, x8, x12, x15, x17, x20, x25], O := sl x16 [], VS := sl x2 [x7, x9, x13], I := sl x24 [], IS := sl x11 [], M := sl x18 [], R := sl x14 [x21], Q := sl x23 [], AS := sl x22 []}) (fun x1 x2 x3 x4 x5 x6 x7 x8 x9 x10 x11 x12 x13 x14 x15 x16 x17 => aD3 {d0v with H := sl x4 [x6, x10, x14, x16], N := sl x1 [x3, x5, x8, x13, x15], VS := sl x2 [x7, x9, x12], IS := sl x11 [x17]})
theorem aD1 : ∀ v, pD1 v := hkv tD1 (by unfold vD1; rfl)
theorem TlawH : SlawH := kTlawH.2 (fun x1 x2 x3 x4 x5 x6 x7 x8 x9 x10 x11 x12 x13 x14 x15 x16 => aD1 {d0v with W := sl x1 [], s := sl x2 [x3], H := sl x13 [], N := sl x6 [x9, x11, x14], O := sl x15 [x16], V := sl x7 [x8], VS := sl x12 [], IS := sl x10 [], M := sl x4 [x5]})
theorem lawH : SlawH := TlawH
end
end
end
end
end
end
end
end
end Mine
theorem PySem.Challenge.cw_zn0015_01_holds : PySem.Challenge.rw_zn0015_01.Holds :=
  Mine.lawH
