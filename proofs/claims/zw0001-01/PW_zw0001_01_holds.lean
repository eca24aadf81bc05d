import PyProof.Rows.All
import Wide.All
import OpenK.AllK
import Wide.FinOn
import Lean
import PySem.Challenge.RW_zw0001_01
set_option Elab.async false

section
open PySem PySem.W PyProof.Rows
namespace Mine
open_top hd for PySem.Challenge.rw_zw0001_01
end Mine
end

section
open PySem PySem.W PySem.Calls PyProof.Rows
open PySem.Sem (wp)
namespace Mine

/-- a code that may stand on the stack of our runs: no decoder that holds its first argument -/
def ndc : Code → Bool
  | .builtin id _ => !Builtin.Bytes.decodersThatHold.contains id
  | _ => true
def NDB (l : List (Code × Pos)) : Prop := ∀ x ∈ l, ndc x.1 = true

/-- like wpAny, over the contexts without such decoders alone -/
def wpN {α : Type} (M : Model) (A : Around) (t : Sem α) (Q : α → Shared → Prop) (E : Value → Shared → Prop) (s : Shared) : Prop :=
  ∀ Γ p, Γ.In A → ndc Γ.code = true → NDB Γ.below → wp M Γ t (fun a _ s' => Q a s') (fun e _ s' => E e s') p s
def codeN (M : Model) (A : Around) (c : Code) (R : Result → Shared → Prop) (s : Shared) : Prop :=
  ∀ Γ p, Γ.code = c → Γ.Below A → NDB Γ.below → wpCode M Γ R p s

section
variable {α β : Type} {M : Model} {A : Around} {E : Value → Shared → Prop} {s : Shared}
theorem wpN_of {t : Sem α} {Q : α → Shared → Prop} (h : wpAny M A t Q E s) : wpN M A t Q E s := fun Γ p hΓ _ _ => h Γ p hΓ
theorem codeN_of {c : Code} {R : Result → Shared → Prop} (h : codeAny M A c R s) : codeN M A c R s := fun Γ p hc hΓ _ => h Γ p hc hΓ
theorem wpN_mono {t : Sem α} {Q Q' : α → Shared → Prop} {E' : Value → Shared → Prop} (h : wpN M A t Q E s) (hQ : ∀ a s, Q a s → Q' a s) (hE : ∀ e s, E e s → E' e s) : wpN M A t Q' E' s :=
  fun Γ p hΓ hc hb => Sem.wp_mono M Γ t (fun a _ s => hQ a s) (fun e _ s => hE e s) p s (h Γ p hΓ hc hb)
theorem wpN_pure {a : α} {Q : α → Shared → Prop} (h : Q a s) : wpN M A (pure a) Q E s := fun _ _ _ _ _ => h
theorem wpN_bind {m : Sem α} {f : α → Sem β} {Q : β → Shared → Prop} (h : wpN M A m (fun a s' => wpN M A (f a) Q E s') E s) : wpN M A (m >>= f) Q E s :=
  fun Γ p hΓ hc hb => by
    rw [Sem.wp_bind']
    exact Sem.wp_mono M Γ m (fun a p' s' h' => h' Γ p' hΓ hc hb) (fun _ _ _ h' => h') p s (h Γ p hΓ hc hb)
/-- a step that the library serves, then the rest -/
theorem wpN_step {m : Sem α} {f : α → Sem β} {Q : β → Shared → Prop} (h : wpAny M A m (fun a s' => wpN M A (f a) Q E s') E s) : wpN M A (m >>= f) Q E s := wpN_bind (wpN_of h)
theorem wpN_tryCatch {m : Sem α} {k : Value → Sem α} {Q : α → Shared → Prop} (h : wpN M A m Q (fun e s' => wpN M A (k e) Q E s') s) : wpN M A (tryCatch m k) Q E s :=
  fun Γ p hΓ hc hb => by
    rw [Sem.wp_tryCatch']
    exact Sem.wp_mono M Γ m (fun _ _ _ h' => h') (fun e p' s' h' => h' Γ p' hΓ hc hb) p s (h Γ p hΓ hc hb)
theorem wpN_onRaise {m : Sem α} {k : Value → Sem Unit} {Q : α → Shared → Prop} (h : wpN M A m Q (fun e s' => wpAny M A (k e) (fun _ s'' => E e s'') E s') s) : wpN M A (m.onRaise k) Q E s :=
  fun Γ p hΓ hc hb => by
    rw [Sem.wp_onRaise]
    exact Sem.wp_mono M Γ m (fun _ _ _ h' => h') (fun e p' s' h' => h' Γ p' hΓ) p s (h Γ p hΓ hc hb)
theorem wpN_holding {vs : List Value} {m : Sem α} {Q : α → Shared → Prop} (h : wpN M A m Q E s) : wpN M A (holding vs m) Q E s :=
  fun Γ p hΓ hc hb => by rw [Sem.wp_holding]; exact h Γ p hΓ hc hb
theorem wpN_attempt {m : Sem α} {Q : Except Value α → Shared → Prop} (h : wpN M A m (fun a => Q (.ok a)) (fun e => Q (.error e)) s) : wpN M A m.attempt Q E s :=
  fun Γ p hΓ hc hb => by rw [Sem.wp_attempt]; exact h Γ p hΓ hc hb
theorem codeN_mono {c : Code} {R R' : Result → Shared → Prop} (h : codeN M A c R s) (hR : ∀ r s, R r s → R' r s) : codeN M A c R' s :=
  fun Γ p hc hΓ hb => wpCode_mono hR (h Γ p hc hΓ hb)
theorem wpN_run {c : Code} {h : Option Value} {Q : Flow → Shared → Prop}
    (hc : codeN M (A.mark h) c (fun r s' => match r with | .ok f => Q f s' | .error e => E e s') s) (hnb : h ≠ some byPass := by intro x; cases x) : wpN M A (run c h) Q E s :=
  fun Γ p hΓ hn hb => by
    rw [Sem.wp_run]
    exact hc _ p rfl (hΓ.enter c h p hnb) (fun x hx => by
      rcases List.mem_cons.mp hx with rfl | hx
      · exact hn
      · exact hb x hx)
theorem wpN_runValue {c : Code} {Q : Value → Shared → Prop}
    (hc : codeN M A c (fun r s' => match r with | .ok (.ret v) => Q v s' | .ok _ => False | .error e => E e s') s) : wpN M A (runValue c) Q E s :=
  fun Γ p hΓ hn hb => by
    rw [Sem.wp_runValue]
    exact hc _ p rfl (hΓ.enter c none p (by intro x; cases x)) (fun x hx => by
      rcases List.mem_cons.mp hx with rfl | hx
      · exact hn
      · exact hb x hx)
theorem wpN_call {f : Value} {pos : List Value} {kw : List (Str × Value)} {Q : Value → Shared → Prop}
    (hc : codeN M A (.call f ⟨pos, kw⟩) (fun r s' => match r with | .ok (.ret v) => Q v s' | .ok _ => False | .error e => E e s') s) : wpN M A (call f pos kw) Q E s := wpN_runValue hc
theorem codeN_of_tree {c : Code} {R : Result → Shared → Prop} (hn : ndc c = true)
    (h : wpN M (A.under c) (M.den c) (fun fin s' => match fin with | .done f => R (.ok f) s' | .again c' => c'.quiet = true ∧ codeN M A c' R s') (fun e s' => R (.error e) s') s) : codeN M A c R s :=
  fun Γ p hc hΓ hb => by
    rw [wpCode_iff_wp, hc]
    refine Sem.wp_mono M Γ _ (fun fin p' s' h' => ?_) (fun _ _ _ h' => h') p s (h Γ p (hc ▸ hΓ.in) (by rw [hc]; exact hn) hb)
    cases fin with
    | done f => exact h'
    | again c' => exact ⟨h'.1, h'.2 (Γ.goto c') p' rfl (hΓ.goto c') hb⟩

theorem wpN_exported {self : Value} {Q : Bool → Shared → Prop} (hg : A.guards = some []) (h : Q false s) : wpN M A (Builtin.Bytes.exported self) Q E s := fun Γ p hΓ hc hb => by
  have key : ∀ x ∈ (Γ.code, p) :: Γ.below, ndc x.1 = true ∧ x.1.isGuard = false := by
    have hgs : guardsOf ((Γ.code, p) :: Γ.below) = [] := by rw [guardsOf_cons]; exact hΓ.2.2.2.1 [] hg
    intro x hx
    refine ⟨?_, ?_⟩
    · rcases List.mem_cons.mp hx with rfl | hx
      · exact hc
      · exact hb x hx
    · cases hq : x.1.isGuard with
      | false => rfl
      | true =>
        have : x.1 ∈ guardsOf ((Γ.code, p) :: Γ.below) := List.mem_filter.mpr ⟨List.mem_map_of_mem hx, hq⟩
        rw [hgs] at this; cases this
  unfold Builtin.Bytes.exported
  generalize hf : (fun x : Code × Pos => match x with
    | (.builtin "bytearray.__contains__" ⟨v :: _, _⟩, _) | (.builtin "bytearray.__mod__" ⟨v :: _, _⟩, _)
    | (.builtin "bytearray.__rmod__" ⟨_ :: v :: _, _⟩, _) | (.builtin "_struct.pack_into.held" ⟨v :: _, _⟩, _) => Builtin.Bytes.sameRef v self
    | (.builtin "bytearray.find.held" ⟨_ :: _ :: held, _⟩, _) => held.any (Builtin.Bytes.sameRef self)
    | (.builtin id ⟨v :: _, _⟩, _) => Builtin.Bytes.sameRef v self && Builtin.Bytes.decodersThatHold.contains id
    | _ => false) = f
  show Q (((Γ.code, p) :: Γ.below).any f) s
  have : ((Γ.code, p) :: Γ.below).any f = false := by
    refine List.any_eq_false.mpr fun x hx => ?_
    obtain ⟨h1, h2⟩ := key x hx
    subst hf
    obtain ⟨c, q⟩ := x
    dsimp only at h1 h2 ⊢
    split
    · rename_i heq
      cases heq
      exact absurd (show guardIds.contains "bytearray.__contains__" = false from h2) (by decide +kernel)
    · rename_i heq
      cases heq
      exact absurd (show guardIds.contains "bytearray.__mod__" = false from h2) (by decide +kernel)
    · rename_i heq
      cases heq
      exact absurd (show guardIds.contains "bytearray.__rmod__" = false from h2) (by decide +kernel)
    · rename_i heq
      cases heq
      exact absurd (show guardIds.contains "_struct.pack_into.held" = false from h2) (by decide +kernel)
    · rename_i heq
      cases heq
      exact absurd (show guardIds.contains "bytearray.find.held" = false from h2) (by decide +kernel)
    · rename_i heq
      cases heq
      simp only [ndc, Bool.not_eq_true'] at h1
      rw [h1, Bool.and_false]; exact Bool.false_ne_true
    · exact Bool.false_ne_true
  rw [this]; exact h
end

section
variable {prog : Program} {w : World} {A : Around} {E : Value → Shared → Prop} {s : Shared} {R : Result → Shared → Prop}
theorem codeN_func {body : List Stmt} {env : Env}
    (h : wpN (model prog w) (A.deeper env) (execs body env) (fun f s' => R (.ok (.ret (match f with | .ret v => v | _ => .none))) s')
      (fun e s' => wpAny (model prog w) (A.deeper env) (leaving env e) (fun _ s'' => R (.error e) s'') (fun e' s'' => R (.error e') s'') s') s) :
    codeN (model prog w) A (.func body env) R s := by
  refine codeN_of_tree rfl ?_
  show wpN _ (A.deeper env) (do point; match ← (execs body env).onRaise (leaving env) with | .ret v => ret v | _ => ret .none) _ _ s
  refine wpN_step (wpAny_point (wpN_bind (wpN_onRaise (wpN_mono h (fun f s' h' => ?_) fun _ _ h' => h'))))
  cases f <;> exact wpN_pure h'
theorem codeN_call_function {a : Addr} {args : Args} {o : Obj} {fd : FuncData} {body : List Stmt} (hroom : A.depth < recursionLimit)
    (ho : s.heap.get? a = some o) (hd' : o.data = .func fd) (hco : fd.scope.isCoroutine = false) (hgen : fd.scope.isGenerator = false) (hbody : fd.body = .stmts body) (hcd : s.heap.CodeRec fd.code fd.qualname)
    (h : wpAny (model prog w) A.in1 (bindArgs fd args) (fun binds s₁ =>
      wpAny (model prog w) A.in1 (newFunctionEnv fd.scope fd.globals fd.closure binds (fd.qualname ++ ".<locals>.") (some a) fd.code none fd.builtins)
        (fun env s₂ => s₂.heap.NoLimit ∧ codeN (model prog w) A (.func body env) R s₂) (fun e s' => R (.error e) s') s₁) (fun e s' => R (.error e) s') s) :
    codeN (model prog w) A (.call (.ref a) args) R s := by
  refine codeN_of_tree rfl ?_
  show wpN _ A.in1 (callAny (.ref a) args) _ _ s
  simp only [callAny]
  refine wpN_step (wpAny_load ho ?_)
  obtain ⟨c, oc, vs, tq, hc, hoc, hdc, hq⟩ := hcd
  simp only [hd', callFunction, hco, hgen, hbody, hc]
  rw [hc] at h
  refine wpN_step (m := field (.ref c) 1) (wpAny_field hoc hdc hq ?_)
  refine wpN_step (wpAny_pure ?_)
  refine wpN_step (wpAny_mono h (fun binds s₁ h₁ => ?_) fun _ _ h' => h')
  refine wpN_step (wpAny_mono h₁ (fun env s₂ h₂ => ?_) fun _ _ h' => h')
  exact wpN_step (wpAny_enterFrame h₂.1 hroom (wpN_pure (And.intro rfl h₂.2)))
end
end Mine
end

section
open PySem PySem.W PySem.Calls PyProof.Rows
open PySem.Sem (wp)
set_option maxRecDepth 100000
namespace Mine
theorem ba_mro : mroOf (.type "bytearray") = pure [.type "bytearray", .type "object"] := by rw [mroOf_type]; kernel_rfl
theorem ba_lookup_new : typeLookup (.type "bytearray") "__new__" = pure (some (.builtin "bytearray.__new__")) := by rw [typeLookup_type, builtinLookup_eq_fast]; kernel_rfl
theorem ba_slot_init : Slot "bytearray" "__init__" "bytearray.__init__" :=
  .of (owner := "bytearray") (n := "__init__") (by rw [typeLookup_type, builtinLookup_eq_fast]; kernel_rfl) (by decide +kernel) (by decide +kernel) (by decide +kernel)
    (by first | exact .inl (by decide +kernel) | exact .inr (by decide +kernel)) (by rw [isSubtype_type]; kernel_rfl)
theorem ba_called : TypeCalled "bytearray" "bytearray.__new__" "bytearray.__init__" :=
  ⟨by decide +kernel, by decide +kernel, ⟨_, _, ba_mro⟩, madeBy_type ba_mro ba_lookup_new (by decide +kernel), by decide +kernel, by rw [isSubtype_type]; kernel_rfl, ba_slot_init⟩
theorem ba_typeCall (a : Value) : checkTypeCall "bytearray" ⟨[a], []⟩ = pure () := by kernel_rfl
theorem ba_newCall (a : Value) : checkBuiltinCall "bytearray.__new__" ⟨[.type "bytearray", a], []⟩ = pure () := by kernel_rfl
theorem ba_plain_new : plainId "bytearray.__new__" = true := by decide +kernel
theorem ba_plain_init : plainId "bytearray.__init__" = true := by decide +kernel
theorem ba_entry_new : entryFor table "bytearray.__new__" = some Builtin.«list.__new__» := entryFor_alias (id' := "list.__new__") (by decide +kernel) (by decide +kernel) (by decide +kernel) (by kernel_rfl)
theorem ba_entry_init : entryFor table "bytearray.__init__" = some Builtin.«bytearray.__init__» := by first | exact entryFor_of_fast (by kernel_rfl) | exact entryFor_of_tree (by kernel_rfl)
theorem ba_bind (v : Value) : Builtin.Bytes.bindOptional "bytearray.__init__" "bytearray" ["source", "encoding", "errors"] [v] [] = pure [some v, none, none] := by kernel_rfl
set_option maxRecDepth 1000000 in
set_option maxHeartbeats 4000000 in
theorem ba_owner : ("bytearray.__new__".splitOn ".__new__").headD "" = "bytearray" := by simp +decide [String.splitOn, String.splitOnAux]
theorem ba_ndc_init {args : Args} : ndc (.builtin "bytearray.__init__" args) = true := by
  show (!Builtin.Bytes.decodersThatHold.contains "bytearray.__init__") = true
  decide +kernel
theorem ba_owners : Manifest.owners.lookup (String.ofList ['y', 'a', 'r', 'r', 'a', 'e', 't', 'y', 'b'].reverse) = some Manifest.sig_bytearray := by kernel_rfl
theorem ba_args (a : Value) (t : Tok) : argsOk "bytearray.__init__" ⟨[a, .int 2 t], []⟩ := by
  unfold argsOk
  rw [signature?_of (id := "bytearray.__init__") (n := ['_', '_', 't', 'i', 'n', 'i', '_', '_']) (o := ['y', 'a', 'r', 'r', 'a', 'e', 't', 'y', 'b']) (by kernel_rfl) ba_owners]; kernel_rfl
theorem ba_lookup_release : typeLookup (.type "bytearray") "__release_buffer__" = pure (some (.builtin "bytearray.__release_buffer__")) := by rw [typeLookup_type, builtinLookup_eq_fast]; kernel_rfl
theorem ba_sub_self : isSubtype (.type "bytearray") (.type "bytearray") = pure true := by rw [isSubtype_type]; kernel_rfl
section
variable {prog : Program} {w : World} {A : Around} {E : Value → Shared → Prop} {s : Shared} {R : Result → Shared → Prop}
theorem codeN_builtin {id : String} {args : Args} {b : Builtin} (hn : ndc (.builtin id args) = true) (hb : entryFor table id = some b)
    (h : wpN (model prog w) (A.under (.builtin id args)) (b args) (fun fin s' => match fin with | .done f => R (.ok f) s' | .again c' => c'.quiet = true ∧ codeN (model prog w) A c' R s') (fun e s' => R (.error e) s') s) :
    codeN (model prog w) A (.builtin id args) R s := by
  refine codeN_of_tree hn ?_
  have hden : (model prog w).den (.builtin id args) = b args := by
    show (match entryFor table id with | some b => b args | none => unsupported ((withoutEnding? id "#data").getD id)) = _
    rw [hb]
  rw [hden]; exact h
theorem wpN_if_false {α : Type} {M : Model} {c : Bool} {a b : Sem α} {Q : α → Shared → Prop} (hc : c = false) (h : wpN M A b Q E s) : wpN M A (if c = true then a else b) Q E s := by
  subst hc
  exact h
theorem wpN_if_true {α : Type} {M : Model} {c : Bool} {a b : Sem α} {Q : α → Shared → Prop} (hc : c = true) (h : wpN M A a Q E s) : wpN M A (if c = true then a else b) Q E s := by
  subst hc
  exact h
theorem ba_new (a : Value) {Q₁ : Value → Shared → Prop}
    (h : Q₁ (.ref s.heap.objs.size) { s with heap := s.heap.push { cls := .type "bytearray", data := .bytearray #[] } }) :
    codeAny (model prog w) A (.call (.builtin "bytearray.__new__") ⟨[.type "bytearray", a], []⟩) (wants Q₁ E) s := by
  refine codeAny_of_tree ?_
  show wpAny _ A.in1 (do checkBuiltinCall "bytearray.__new__" ⟨[.type "bytearray", a], []⟩; again (.builtin "bytearray.__new__" ⟨[.type "bytearray", a], []⟩)) _ _ s
  refine wpAny_bind (wpAny_of_eq (ba_newCall a) (wpAny_pure ⟨plainId_quiet ba_plain_new _, codeAny_builtin_stack ba_entry_new rfl fun p st => ?_⟩))
  rw [Around.under_plainId ba_plain_new _]
  have hsub := ba_sub_self
  have hown := ba_owner
  obtain ⟨hp, g, d, tk, os⟩ := s
  simp only [hown]
  wp_walk
  exact h

theorem ba_ownRelease {a : Addr} {Q : Bool → Shared → Prop} (hT : s.TypeIs (.ref a) "bytearray") (h : Q false s) : wpAny (model prog w) A (Builtin.Bytes.ownRelease (.ref a)) Q E s := by
  unfold Builtin.Bytes.ownRelease Builtin.Bytes.slotIsOwn
  refine wpAny_bind (wpAny_bind (wpAny_specialOf hT ba_lookup_release ?_))
  dsimp only
  refine bm_if_false (by decide +kernel) ?_
  refine wpAny_isInstance hT (by rw [show "bytearray.__release_buffer__".dropRight ("__release_buffer__".length + 1) = "bytearray" from by decide +kernel]; exact ba_sub_self) ?_
  exact wpAny_pure h
theorem ba_write {a : Addr} {b : Array UInt8} {n : Nat} {f : Array UInt8 → Array UInt8} {Q : Unit → Shared → Prop} (hb : s.heap.get? a = some { cls := .type "bytearray", data := .bytearray b n }) (hz : (f b).size ≤ sizeLine)
    (h : ∀ h', Heap.SameBut a s.heap h' → h'.get? a = some { cls := .type "bytearray", data := .bytearray (f b) n } → Q () { s with heap := h' }) : wpAny (model prog w) A (updateBytearray a f) Q E s := by
  unfold updateBytearray
  refine wpAny_bind (wpAny_load hb ?_)
  show wpAny _ _ (update a (Obj.mapBytearray f) >>= fun _ => lookBehind a) _ _ _
  refine wpAny_bind (wpAny_update hb ?_)
  have hS := Heap.get?_update_self (Obj.mapBytearray f) hb rfl
  refine wpAny_lookBehind hS ?_ (h _ (Heap.SameBut.update ..) hS)
  show (if (f b).size > sizeLine then some "bytearray:memory" else none) = none
  rw [if_neg (Nat.not_lt.mpr hz)]
theorem ba_type_call {t : Tok} {Q : Value → Shared → Prop} (hg : A.guards = some [])
    (h : ∀ h', (∀ b o, s.heap.get? b = some o → h'.get? b = some o) → h'.get? s.heap.objs.size = some { cls := .type "bytearray", data := .bytearray #[0, 0] } → Q (.ref s.heap.objs.size) { s with heap := h' }) :
    wpN (model prog w) A (call (.type "bytearray") [.int 2 t]) Q E s := by
  refine wpN_call (codeN_of_tree rfl ?_)
  show wpN _ _ (callAny (.type "bytearray") _) _ _ _
  refine wpN_pure ⟨Code.quiet_builtin _ (by decide +kernel), codeN_builtin rfl F.entry_type_call ?_⟩
  rw [Around.under_plain (weight_type_call_type "bytearray" [.int 2 t] []) rfl]
  have h1 := ba_called.notType
  have h2 := ba_called.canCreate
  unfold Builtin.«type.__call__»
  dsimp only
  rw [h1]
  refine wpN_if_false rfl ?_
  rw [h2]
  refine wpN_if_false rfl ?_
  refine wpN_step (wpAny_of_eq (ba_typeCall _) ?_)
  refine wpN_step (wpAny_of_eq ba_mro ?_)
  refine wpN_if_false rfl ?_
  refine wpN_step (wpAny_of_eq ba_called.made ?_)
  dsimp only
  refine wpN_step (wpAny_pure ?_)
  refine wpN_step (wpAny_holding (wpAny_call (codeAny_mono (ba_new (Q₁ := fun v s' => v = .ref s.heap.objs.size ∧ s' = { s with heap := s.heap.push { cls := .type "bytearray", data := .bytearray #[] } }) (E := fun _ _ => False) _ ⟨rfl, rfl⟩) fun r s₁ hr => ?_)))
  cases r with
  | error e => exact hr.elim
  | ok fl =>
    cases fl with
    | ret obj =>
      obtain ⟨rfl, rfl⟩ := hr
      dsimp only
      have hT : ({ s with heap := s.heap.push { cls := .type "bytearray", data := .bytearray #[] } } : Shared).TypeIs (.ref s.heap.objs.size) "bytearray" := ⟨_, Heap.get?_push_size _ rfl, rfl⟩
      refine wpN_step (wpAny_isInstance hT ba_sub_self ?_)
      refine wpN_if_false rfl ?_
      refine wpN_bind (wpN_holding ?_)
      unfold callSpecial?
      refine wpN_step (wpAny_specialOf hT ba_slot_init.lookup ?_)
      dsimp only
      refine wpN_holding ?_
      refine wpN_step (wpAny_of_eq (ba_slot_init.bind _) ?_)
      dsimp only
      refine wpN_bind (wpN_call (codeN_of_tree rfl ?_))
      show wpN _ _ (callAny (.builtin "bytearray.__init__") _) _ _ _
      show wpN _ _ (do checkBuiltinCall "bytearray.__init__" ⟨[.ref s.heap.objs.size, .int 2 t], []⟩; again (.builtin "bytearray.__init__" ⟨[.ref s.heap.objs.size, .int 2 t], []⟩)) _ _ _
      refine wpN_step (ba_slot_init.check _ _ _ _ _ _ _ _ hT (ba_args _ _) ?_)
      refine wpN_pure ⟨plainId_quiet ba_plain_init _, codeN_builtin ba_ndc_init ba_entry_init ?_⟩
      rw [Around.under_plainId ba_plain_init _]
      unfold Builtin.«bytearray.__init__»
      dsimp only
      have hg₀ : ({ s with heap := s.heap.push { cls := .type "bytearray", data := .bytearray #[] } } : Shared).heap.get? s.heap.objs.size = some { cls := .type "bytearray", data := .bytearray #[] } := Heap.get?_push_size _ rfl
      refine wpN_step (ba_ownRelease hT ?_)
      refine wpN_if_false rfl ?_
      refine wpN_step (wpAny_of_eq (ba_bind _) ?_)
      dsimp only
      refine wpN_step (wpAny_of_eq (a := ()) rfl ?_)
      refine wpN_step (wpAny_of_eq (a := ()) rfl ?_)
      refine wpN_bind ?_
      unfold Builtin.Bytes.exportsOf
      refine wpN_bind (wpN_exported hg ?_)
      dsimp only
      refine wpN_bind (wpN_step (wpAny_load hg₀ ?_))
      dsimp only
      refine wpN_pure (wpN_pure ?_)
      refine wpN_if_false (by decide) ?_
      -- write self fun _ => #[]
      refine wpN_step ?_
      show wpAny _ _ (updateBytearray s.heap.objs.size fun _ => #[]) _ _ _
      refine ba_write hg₀ (by decide) fun h₁ hs₁ hb₁ => ?_
      refine wpN_step (wpAny_of_eq (a := none) rfl ?_)
      refine wpN_if_false rfl ?_
      refine wpN_step (wpAny_of_eq (a := ()) rfl ?_)
      refine wpN_step (wpAny_specialOf (typeIs_int _ _ _) F.slot_int_index.lookup ?_)
      refine wpN_if_true rfl ?_
      refine wpN_bind (wpN_attempt (wpN_of (wpAny_of_eq (a := 2) rfl ?_)))
      dsimp only
      refine wpN_if_false (by decide) ?_
      show wpN _ _ (if (2 : Int) < 0 then _ else _) _ _ _
      rw [if_neg (by decide)]
      refine wpN_if_false (by decide) ?_
      refine wpN_if_false (by decide) ?_
      refine wpN_step (wpAny_rule ?_)
      show wpN _ _ (if (2 : Int) > 0 then _ else _) _ _ _
      rw [if_pos (by decide)]
      refine wpN_step ?_
      show wpAny _ _ (updateBytearray s.heap.objs.size fun _ => Array.replicate (Int.toNat 2) 0) _ _ _
      refine ba_write hb₁ (by decide) fun h₂ hs₂ hb₂ => ?_
      refine wpN_pure ?_
      dsimp only
      refine wpN_pure ?_
      dsimp only
      refine wpN_if_false (by decide) ?_
      refine wpN_pure ?_
      exact h h₂ (fun b o e => hs₂.extBut b o (Nat.ne_of_lt (Heap.lt_size e)) (hs₁.extBut b o (Nat.ne_of_lt (Heap.lt_size e)) (Heap.get?_push_of_some _ e))) hb₂
    | _ => exact hr.elim
end
end Mine
end

section
open PySem PySem.W PySem.Calls PyProof.Rows
open PySem.Sem (wp)
set_option maxRecDepth 100000
namespace Mine
section
variable {α β : Type} {M : Model} {A : Around} {E : Value → Shared → Prop} {s : Shared} {env : Env}
abbrev noE : Value → Shared → Prop := fun _ _ => False
/-- nothing is raised: whatever is wanted of a raise -/
theorem wpN_calm {t : Sem α} {Q : α → Shared → Prop} (h : wpN M A t Q noE s) : wpN M A t Q E s := wpN_mono h (fun _ _ q => q) fun _ _ q => q.elim
theorem wpN_onRaise' {m : Sem α} {k : Value → Sem Unit} {Q : α → Shared → Prop} (h : wpN M A m Q noE s) : wpN M A (m.onRaise k) Q E s :=
  wpN_onRaise (wpN_mono h (fun _ _ q => q) fun _ _ q => q.elim)
theorem wpN_keep {vs : List Value} {m : Sem α} {Q : α → Shared → Prop} (h : wpN M A m Q E s) : wpN M A (m.keep vs) Q E s :=
  fun Γ p hΓ hc hb => by rw [Sem.wp_keep]; exact h Γ p hΓ hc hb

theorem wpN_execs_cons {st : Stmt} {rest : List Stmt} {Q : Flow → Shared → Prop} (h : wpN M A (exec st env) (fun f s' => match f with | .next => wpN M A (execs rest env) Q E s' | f => Q f s') E s) :
    wpN M A (execs (st :: rest) env) Q E s := by
  rw [execs_cons]
  refine wpN_bind (wpN_mono h (fun f s' h' => ?_) fun _ _ q => q)
  cases f <;> first | exact h' | exact wpN_pure h'
theorem wpN_Assign_Name {x : Str} {pos' : Pos} {value : Expr} {pos : Pos} {Q : Flow → Shared → Prop} (h : wpN M A (eval value env) (fun v s₁ => wpAny M A (storeName env x v) (fun _ => Q .next) E s₁) E s)
    (hs : swapsWith value (some (.Name x pos')) pos.line env = pure false := by rfl) : wpN M A (exec (.Assign [.Name x pos'] value pos) env) Q E s := by
  rw [exec_Assign_Name env x pos' value pos hs]
  exact wpN_step (wpAny_standAt (wpN_bind (wpN_mono h (fun v s₁ h₁ => wpN_step (wpAny_standAt (wpN_step (wpAny_bindName (wpAny_mono h₁ (fun _ _ q => wpN_pure q) fun _ _ q => q))))) fun _ _ q => q)))
theorem wpN_If {test : Expr} {body orelse : List Stmt} {pos : Pos} {Q : Flow → Shared → Prop}
    (h : wpN M A (isTrue test env (eval test env)) (fun b s₂ => if b then wpN M A (execs body env) Q E s₂ else wpN M A (execs orelse env) Q E s₂) E s) : wpN M A (exec (.If test body orelse pos) env) Q E s := by
  rw [exec_If]
  refine wpN_step (wpAny_standAt (wpN_bind (wpN_mono h (fun b s₂ h₂ => ?_) fun _ _ q => q)))
  cases b <;> exact h₂
theorem wpN_Return {e : Expr} {pos : Pos} {Q : Flow → Shared → Prop} (h : wpN M A (eval e env) (fun v => Q (.ret v)) E s) : wpN M A (exec (.Return (some e) pos) env) Q E s := by
  rw [exec_Return_some]
  exact wpN_step (wpAny_standAt (wpN_bind (wpN_mono h (fun v s₂ h₂ => wpN_pure h₂) fun _ _ q => q)))
theorem wpN_runOwn {c : Code} {Q : Flow → Shared → Prop} (hc : codeN M A c (fun r s' => match r with | .ok f => Q f s' | .error _ => False) s) : wpN M A (runOwn c env none) Q E s := by
  unfold runOwn
  refine wpN_onRaise' (wpN_run ?_)
  exact codeN_mono hc fun r s' h => by cases r <;> exact h
theorem wpN_For {target iter : Expr} {body orelse : List Stmt} {pos : Pos} {Q : Flow → Shared → Prop}
    (h : wpN M A (eval iter env) (fun x s₁ => wpN M A (pyIter x) (fun it s₂ => codeN M A (.forLoop target it body orelse env) (fun r s' => match r with | .ok f => Q f s' | .error _ => False) s₂) E s₁) E s)
    (hs : ∀ x, foldedSetIterable iter env x = pure x := by intro _; rfl) : wpN M A (exec (.For target iter body orelse pos) env) Q E s := by
  rw [exec_For]
  exact wpN_step (wpAny_standAt (wpN_bind (wpN_mono h (fun x s₁ h₁ => wpN_step (wpAny_of_eq (hs x) (wpN_step (wpAny_standAt (wpN_bind (wpN_holding
    (wpN_mono h₁ (fun it s₂ h₂ => wpN_runOwn h₂) fun _ _ h' => h'))))))) fun _ _ h' => h')))

theorem wpN_spliced_nil {Q : List Value → Shared → Prop} (h : Q [] s) : wpN M A (spliced []) Q E s := wpN_pure h
theorem wpN_spliced_cons {x : Sem Value} {rest : List (Bool × Sem Value)} {Q : List Value → Shared → Prop}
    (h : wpN M A x (fun v s₁ => wpN M A (spliced rest) (fun vs s₂ => Q (v :: vs) s₂) E s₁) E s) : wpN M A (spliced ((false, x) :: rest)) Q E s := by
  rw [spliced]
  refine wpN_bind (wpN_mono h (fun v s₁ h₁ => ?_) fun _ _ x => x)
  simp only [Bool.false_eq_true, if_false]
  exact wpN_step (wpAny_pure (wpN_bind (wpN_holding (wpN_mono h₁ (fun vs s₂ h₂ => wpN_pure h₂) fun _ _ x => x))))
theorem wpN_evalArgs_plain {f : Value} {x : Sem Value} {rest : List (Bool × Sem Value)} {Q : Args → Shared → Prop}
    (h : wpN M A (spliced ((false, x) :: rest)) (fun vs s' => Q ⟨vs, []⟩ s') E s) : wpN M A (evalArgs f true ((false, x) :: rest) []) Q E s := by
  unfold evalArgs
  show wpN M A (spliced ((false, x) :: rest) >>= _) Q E s
  refine wpN_bind (wpN_mono h (fun vs s' h' => ?_) fun _ _ x => x)
  refine wpN_holding ?_
  exact wpN_step (wpAny_pure (wpN_step (wpAny_pure (wpN_pure h'))))
theorem wpN_callWith_of {P : Heap → Prop} {f : Value} {first : List Value} {pos : Pos} {args : List (Bool × Sem Value)} {keywords : List (Option Str × Sem Value)} {Q : Value → Shared → Prop} (hplain : (args.any (·.1) || keywords.any (·.1.isNone)) = false)
    (hk : ∀ h, P h → ∃ k, (k = Keeper.frame ∨ k = Keeper.machine ∨ k = Keeper.boundFrame) ∧ Looks M h (keeperOf f) k)
    (h : wpN M A (evalArgs f true args keywords) (fun a s₁ => P s₁.heap ∧ wpN M A (call f (first ++ a.pos) a.kw) Q E s₁) E s) : wpN M A (callWith pos f first args keywords) Q E s := by
  unfold callWith
  refine wpN_bind (wpN_holding (wpN_mono h (fun a s₁ h₁ => wpN_step (wpAny_standAt ?_)) fun _ _ x => x))
  obtain ⟨k, hk', L⟩ := hk _ h₁.1
  simp only [hplain]
  refine wpN_step (L.here ?_)
  have tail : ∀ {t : Sem Value}, wpN M A t Q E s₁ → wpN M A (t >>= fun r => holding [r] point >>= fun _ => pure r) Q E s₁ :=
    fun ht => wpN_bind (wpN_mono ht (fun r s₂ hr => wpN_bind (wpN_holding (wpN_of (wpAny_point (wpN_pure hr))))) fun _ _ x => x)
  have marked (mk : Value) : wpN M A (callMarked mk f (first ++ a.pos) a.kw) Q E s₁ := by unfold callMarked; exact wpN_keep h₁.2
  rcases hk' with rfl | rfl | rfl <;> dsimp only <;> first | exact tail h₁.2 | (split <;> first | exact tail h₁.2 | exact tail (marked _))
theorem keeps_type (T : String) (h : Heap) (_ : True) : ∃ k, (k = Keeper.frame ∨ k = Keeper.machine ∨ k = Keeper.boundFrame) ∧ Looks M h (keeperOf (.type T)) k := ⟨.machine, .inr (.inl rfl), fun _ _ _ _ _ q => wpAny_pure q⟩
/-- a call of a def by its name, one argument and more -/
theorem wpN_Call_def {K : Frag} {f : Expr} {fv : Value} {pos : Pos} {e : Expr} {rest : List Expr} {Q : Value → Shared → Prop} (hk : keepIn K fv = true)
    (hf : ∀ (Q' : Value → Shared → Prop), Q' fv s → wpAny M A (eval f env) Q' E s)
    (h : wpN M A (spliced (backTo pos (starEach (e :: rest) env))) (fun vs s₁ => K.In s₁.heap ∧ wpN M A (call fv vs) Q E s₁) E s)
    (heq : eval (.Call f (e :: rest) [] pos) env = (do callWith pos (← eval f env) [] (backTo pos (starEach (e :: rest) env)) (backToKw pos (keywordEach [] env))) := by rfl)
    (he : starEach (e :: rest) env = (false, eval e env) :: starEach rest env := by rfl) (hplain : (backTo pos (starEach rest env)).any (·.1) = false := by rfl) :
    wpN M A (eval (.Call f (e :: rest) [] pos) env) Q E s := by
  rw [heq]
  refine wpN_step (hf _ ?_)
  rw [he] at h ⊢
  refine wpN_callWith_of (by show ((false || (backTo pos (starEach rest env)).any (·.1)) || false) = false; rw [hplain]; rfl) (keeps_K hk) (wpN_evalArgs_plain h)
theorem wpN_Call_type {T : String} {f : Expr} {pos : Pos} {e : Expr} {rest : List Expr} {Q : Value → Shared → Prop}
    (hf : ∀ (Q' : Value → Shared → Prop), Q' (.type T) s → wpAny M A (eval f env) Q' E s)
    (h : wpN M A (spliced (backTo pos (starEach (e :: rest) env))) (fun vs s₁ => wpN M A (call (.type T) vs) Q E s₁) E s)
    (heq : eval (.Call f (e :: rest) [] pos) env = (do callWith pos (← eval f env) [] (backTo pos (starEach (e :: rest) env)) (backToKw pos (keywordEach [] env))) := by rfl)
    (he : starEach (e :: rest) env = (false, eval e env) :: starEach rest env := by rfl) (hplain : (backTo pos (starEach rest env)).any (·.1) = false := by rfl) :
    wpN M A (eval (.Call f (e :: rest) [] pos) env) Q E s := by
  rw [heq]
  refine wpN_step (hf _ ?_)
  rw [he] at h ⊢
  refine wpN_callWith_of (P := fun _ => True) (by show ((false || (backTo pos (starEach rest env)).any (·.1)) || false) = false; rw [hplain]; rfl) (keeps_type T) (wpN_evalArgs_plain (wpN_mono h (fun _ _ q => ⟨trivial, q⟩) fun _ _ q => q))
end

section
variable {prog : Program} {w : World} {A : Around} {E : Value → Shared → Prop} {s : Shared} {R : Result → Shared → Prop}
theorem codeN_loop {M : Model} {c : Code} (hq : c.quiet = true) (hn : ndc c = true) (I : Nat → Shared → Prop)
    (turn : ∀ n s, I n s → wpN M (A.under c) (M.den c) (fun fin s' => match fin with
        | .done f => R (.ok f) s'
        | .again c' => (c' = c ∧ ∃ m, m < n ∧ I m s') ∨ (c'.quiet = true ∧ codeN M A c' R s')) (fun e s' => R (.error e) s') s)
    (n : Nat) (h : I n s) : codeN M A c R s := by
  induction n using Nat.strongRecOn generalizing s with
  | ind n ih =>
    refine codeN_of_tree hn (wpN_mono (turn n s h) (fun fin s' hf => ?_) fun _ _ h' => h')
    cases fin with
    | done f => exact hf
    | again c' =>
      rcases hf with ⟨rfl, m, hm, hI⟩ | hf
      · exact ⟨hq, ih m hm hI⟩
      · exact hf
theorem codeN_forLoop {target : Expr} {it : Value} {body : List Stmt} {env : Env} (I : Nat → Shared → Prop)
    (turn : ∀ n s, I n s → wpN (model prog w) A (pyNext it) (fun r s₁ => match r with
      | none => R (.ok .next) s₁
      | some v => wpN (model prog w) A (letOwnedTupleGo target it v) (fun _ s₁' =>
          wpN (model prog w) A (assign target env v) (fun _ s₂ => wpN (model prog w) A (execs body env) (fun f s₃ => match f with
            | .next | .cont => ∃ m, m < n ∧ I m s₃
            | .brk => R (.ok .next) s₃
            | .ret v => R (.ok (.ret v)) s₃) noE s₂) noE s₁') noE s₁) noE s)
    (n : Nat) (h : I n s) : codeN (model prog w) A (.forLoop target it body [] env) R s := by
  refine codeN_loop rfl rfl I (fun n s hI => ?_) n h
  show wpN _ A ((forTurn target it body [] env).onRaise (fun x => do noteFrame x env; theTreesLotGoes x)) _ _ s
  refine wpN_onRaise' ?_
  simp only [forTurn]
  refine wpN_step (wpAny_standAt (wpN_bind (wpN_onRaise' (wpN_mono (turn n s hI) (fun r s₁ h₁ => ?_) fun _ _ h' => h'))))
  cases r with
  | none => exact wpN_pure (.inr ⟨rfl, codeN_of (codeAny_block (wpAny_pure h₁))⟩)
  | some v =>
    refine wpN_bind (wpN_mono h₁ (fun _ s₁' h₁' => ?_) fun _ _ h' => h')
    refine wpN_bind (wpN_mono h₁' (fun _ s₂ h₂ => wpN_bind (wpN_mono h₂ (fun f s₃ h₃ => ?_) fun _ _ h' => h')) fun _ _ h' => h')
    cases f with
    | next => exact wpN_pure (.inl ⟨rfl, h₃⟩)
    | cont => exact wpN_pure (.inl ⟨rfl, h₃⟩)
    | brk => exact wpN_pure h₃
    | ret v => exact wpN_pure h₃
end

section
variable {prog : Program} {w : World} {A A₀ : Around} {E : Value → Shared → Prop} {s : Shared} {K : Frag} {L : Addr} {h₀ base : Heap} {m mg mb : Str → Option Value} {news : List (Addr × Obj)} {p : Program} {loose : List Str} {mean : ExcName → Option Value}
theorem codeN_call_def {R : Result → Shared → Prop} {a : Addr} {o : Obj} {fd : FuncData} {body : List Stmt} {args : Args} {binds : List (Str × Value)}
    (hroom : A.depth < recursionLimit) (ho : s.heap.get? a = some o) (hdata : o.data = .func fd) (hlim : s.heap.NoLimit) (hcd : s.heap.CodeRec fd.code fd.qualname)
    (hbody : fd.body = .stmts body) (hbind : BindsTo s fd args binds)
    (hcell : ∀ x ∈ fd.scope.names, x.2 ≠ .cell) (hloc : ∀ x ∈ binds, fd.scope.names.lookup x.1 = some .local)
    (h : ∀ h₀, h₀.Ns s.heap.objs.size (fun x => binds.reverse.lookup x) → (∀ b o, s.heap.get? b = some o → h₀.get? b = some o) →
      wpN (model prog w) (A.deeper (callEnv fd s.heap.objs.size a)) (execs body (callEnv fd s.heap.objs.size a)) (fun f s' => R (.ok (.ret (match f with | .ret v => v | _ => .none))) s') noE
        { s with heap := h₀, toks := s.toks + binds.length })
    (hco : fd.scope.isCoroutine = false := by rfl) (hgen : fd.scope.isGenerator = false := by rfl) (hk : fd.scope.kind = .function := by rfl) :
    codeN (model prog w) A (.call (.ref a) args) R s := by
  refine codeN_call_function hroom ho hdata hco hgen hbody hcd (hbind _ _ _ _ ?_)
  refine wpAny_newFunctionEnv hcell hloc (fun h₀ hns₀ hsb₀ => ⟨hlim.fresh _ hsb₀, codeN_func (wpN_calm (h h₀ hns₀ fun b o e => ?_))⟩) hk
  exact hsb₀.extBut b o (Nat.ne_of_lt (Heap.lt_size e)) (Heap.get?_push_of_some _ e)
abbrev Grow (h h' : Heap) : Prop := ∀ b o, h.get? b = some o → h'.get? b = some o
/-- a def is entered; all that stood stays (the caller's ledger is the callee's ground) -/
theorem code_defN {env : Env} {outer : List Env} {R : Result → Shared → Prop} {name qual : Str} {params : Arguments} {body : List Stmt} {scope : Scope} {dV kV doc pm cdv ct oc : Value} {an od : Option Addr} {osl : Array (Option Value)} {f : Addr} {args : Args} {binds : List (Str × Value)}
    (B : Below A₀ base outer h₀) (F : Fr h₀ L s.heap m) (X₀ : K.In h₀) (T : Top p loose mean mg mb h₀) (hA : A.frames = some (env :: outer)) (hf : env.frame = some L) (hke : env.scope.kind = .function)
    (ho : K.lookup f = some ⟨oc, od, .func (fnOf name qual params body scope dV kV doc pm an cdv ct), osl⟩) (hcd : codeIn K cdv qual = true) (hroom : A.depth < recursionLimit)
    (hbind : BindsTo s (fnOf name qual params body scope dV kV doc pm an cdv ct) args binds) (hloc : ∀ y ∈ binds, scope.names.lookup y.1 = some .local)
    (h : ∀ g L' h₁, g = s.heap → Fr g L' h₁ (fun y => binds.reverse.lookup y) → News g L' h₁ [] → Below A base (env :: outer) g → K.In g → Top p loose mean mg mb g →
      wpN (model prog w) (A.deeper (envOf qual scope L' f cdv)) (execs body (envOf qual scope L' f cdv))
        (fun fl s' => R (.ok (.ret (match fl with | .ret v => v | _ => .none))) s') noE
        { s with heap := h₁, toks := s.toks + binds.length })
    (hco : scope.isCoroutine = false) (hgen : scope.isGenerator = false) (hk : scope.kind = .function)
    (hcell : ∀ x ∈ scope.names, x.2 ≠ .cell) : codeN (model prog w) A (.call (.ref f) args) R s := by
  obtain ⟨FG, BG, st, lv⟩ := groundX (R := R) B F News.nil hA hf hke
  refine codeN_call_def (fd := fnX name qual params body scope [] dV kV doc pm an cdv ct) (body := body) (binds := binds) hroom ((X₀.keeps F.keep) _ _ ho) rfl (T.nolimit.keeps F.keep) (codeRec_of (X₀.keeps F.keep) hcd) rfl hbind hcell hloc (fun h₁ hns hk₁ => ?_) hco hgen hk
  exact h _ s.heap.objs.size h₁ rfl ⟨hns, hk₁, Nat.le_refl _⟩ News.nil ⟨BG.stack, fun b o e => F.keep b o (B.stays b o e), pushX B F hf hke |>.frames⟩ (X₀.keeps F.keep) (T.keeps F.keep)
end
end Mine
end

section
open PySem PySem.W PySem.Calls PyProof.Rows
open PySem.Sem (wp)
set_option maxRecDepth 100000
namespace Mine
theorem ba_slot_setitem : Slot "bytearray" "__setitem__" "bytearray.__setitem__" :=
  .of (owner := "bytearray") (n := "__setitem__") (by rw [typeLookup_type, builtinLookup_eq_fast]; kernel_rfl) (by decide +kernel) (by decide +kernel) (by decide +kernel)
    (by first | exact .inl (by decide +kernel) | exact .inr (by decide +kernel)) (by rw [isSubtype_type]; kernel_rfl)
theorem ba_entry_setitem : entryFor table "bytearray.__setitem__" = some Builtin.«bytearray.__setitem__» := by first | exact entryFor_of_fast (by kernel_rfl) | exact entryFor_of_tree (by kernel_rfl)
theorem ba_args_setitem (a b c : Value) : argsOk "bytearray.__setitem__" ⟨[a, b, c], []⟩ := by
  unfold argsOk
  rw [signature?_of (id := "bytearray.__setitem__") (n := ['_', '_', 'm', 'e', 't', 'i', 't', 'e', 's', '_', '_']) (o := ['y', 'a', 'r', 'r', 'a', 'e', 't', 'y', 'b']) (by kernel_rfl) ba_owners]; kernel_rfl
section
variable {prog : Program} {w : World} {A : Around} {E : Value → Shared → Prop} {s : Shared} {R : Result → Shared → Prop}
theorem ba_setItem {a : Addr} {k : Int} {t : Tok} {v : Int} {u : Tok} {b : Array UInt8} {n : Nat} {Q : Unit → Shared → Prop} (hb : s.heap.get? a = some { cls := .type "bytearray", data := .bytearray b n }) (h0 : 0 ≤ k) (hk : k < b.size) (hz : b.size ≤ sizeLine)
    (hv0 : 0 ≤ v) (hv : v < 256)
    (h : ∀ h', Heap.SameBut a s.heap h' → h'.get? a = some { cls := .type "bytearray", data := .bytearray (b.setIfInBounds k.toNat v.toNat.toUInt8) n } → Q () { s with heap := h' }) : wpAny (model prog w) A (setItem (.ref a) (.int k t) (.int v u)) Q E s := by
  have hT : s.TypeIs (.ref a) "bytearray" := ⟨_, hb, rfl⟩
  unfold setItem
  refine wpAny_holding ?_
  refine wpAny_bind (wpAny_sequenceKey hT (by decide) ?_)
  refine wpAny_bind (wpAny_callSpecial?_slot (name := Str.ofString "__setitem__") hT ba_slot_setitem
    (wpAny_call_entry ba_slot_setitem hT ba_entry_setitem ?_ (ba_args_setitem _ _ _)))
  unfold Builtin.«bytearray.__setitem__»
  refine bm_if_false rfl ?_
  dsimp only
  unfold Builtin.Bytes.subscript?
  refine wpAny_bind (wpAny_bind (wpAny_specialOf (typeIs_int _ _ _) F.slot_int_index.lookup ?_))
  refine bm_if_false rfl ?_
  refine wpAny_bind (wpAny_of_eq (a := k) rfl ?_)
  rw [sizeLine_eq] at hz
  refine bm_if_false (by simp only [Builtin.Bytes.fitsIndex, Bool.not_eq_false', Bool.and_eq_true, decide_eq_true_eq]; omega) ?_
  refine wpAny_pure ?_
  dsimp only
  unfold Builtin.Bytes.byteValue
  refine wpAny_bind (wpAny_bind (wpAny_of_eq (a := v) rfl ?_))
  refine bm_if_false (by simp only [Bool.or_eq_false_iff, decide_eq_false_iff_not]; omega) ?_
  refine wpAny_pure ?_
  refine wpAny_bind ?_
  unfold Builtin.Bytes.payload Builtin.Bytes.payload?
  refine wpAny_bind (wpAny_bind (wpAny_load hb ?_))
  refine wpAny_pure ?_
  dsimp only
  refine wpAny_pure ?_
  have hs : seqIndex? k b.size = some k.toNat := by
    unfold seqIndex?
    simp only [show ¬ k < 0 from by omega, if_false]
    split <;> first | rfl | (rename_i h; simp only [Bool.and_eq_true, decide_eq_true_eq, not_and] at h; omega)
  rw [hs]
  dsimp only
  refine wpAny_bind ?_
  show wpAny _ _ (updateBytearray a _) _ _ _
  refine ba_write hb (by rw [Array.size_setIfInBounds, sizeLine_eq]; exact hz) fun h' hs' hb' => ?_
  refine wpAny_pure ?_
  refine ⟨.none, rfl, ?_⟩
  exact wpAny_pure (h h' hs' hb')
theorem ba_no_bytes : typeLookup (.type "bytearray") "__bytes__" = pure none := by rw [typeLookup_type, builtinLookup_eq_fast]; kernel_rfl
theorem ba_no_index : typeLookup (.type "bytearray") "__index__" = pure none := by rw [typeLookup_type, builtinLookup_eq_fast]; kernel_rfl
theorem ba_lookup_buffer : typeLookup (.type "bytearray") "__buffer__" = pure (some (.builtin "bytearray.__buffer__")) := by rw [typeLookup_type, builtinLookup_eq_fast]; kernel_rfl
theorem ba_bytes_new {a : Addr} {b : Array UInt8} {n : Nat} {Q : Value → Shared → Prop} (hb : s.heap.get? a = some { cls := .type "bytearray", data := .bytearray b n }) (hz : b.size ≤ sizeLine)
    (hQ : ∀ t k, Q (.bytes b t) { s with toks := k }) :
    codeAny (model prog w) A (.call (.builtin "bytes.__new__") ⟨[.type "bytes", .ref a], []⟩) (wants Q E) s := by
  refine codeAny_of_tree ?_
  show wpAny _ A.in1 (do checkBuiltinCall "bytes.__new__" ⟨[.type "bytes", .ref a], []⟩; again (.builtin "bytes.__new__" ⟨[.type "bytes", .ref a], []⟩)) _ _ s
  refine wpAny_bind (wpAny_of_eq (F.bm_newCall _) (wpAny_pure ⟨plainId_quiet F.bm_plain _, codeAny_builtin F.bm_entry ?_⟩))
  rw [Around.under_plainId F.bm_plain _]
  have hT : s.TypeIs (.ref a) "bytearray" := ⟨_, hb, rfl⟩
  unfold Builtin.«bytes.__new__»
  refine wpAny_bind (wpAny_of_eq (a := true) rfl ?_)
  refine bm_if_false rfl ?_
  refine wpAny_bind (wpAny_of_eq F.bm_sub ?_)
  refine bm_if_false rfl ?_
  refine wpAny_bind (wpAny_of_eq (F.bm_bind _) ?_)
  refine wpAny_bind (wpAny_of_eq (a := ()) rfl ?_)
  refine wpAny_bind (wpAny_of_eq (a := ()) rfl ?_)
  refine bm_if_false rfl ?_
  refine wpAny_bind (wpAny_specialOf hT ba_no_bytes ?_)
  refine wpAny_bind (wpAny_bind ?_)
  show wpAny _ _ (load a >>= _) _ _ _
  refine wpAny_bind (wpAny_load hb ?_)
  refine wpAny_pure (wpAny_pure ?_)
  refine bm_if_false rfl ?_
  refine wpAny_bind (wpAny_specialOf hT ba_no_index ?_)
  refine bm_if_true rfl ?_
  refine wpAny_bind ?_
  unfold Builtin.Bytes.buffer?
  refine wpAny_bind (wpAny_specialOf hT ba_lookup_buffer ?_)
  dsimp only
  refine wpAny_bind ?_
  unfold Builtin.Bytes.slotIsOwn
  refine wpAny_bind (wpAny_specialOf hT ba_lookup_buffer ?_)
  dsimp only
  refine bm_if_false (by decide +kernel) ?_
  refine wpAny_isInstance hT (by rw [show "bytearray.__buffer__".dropRight ("__buffer__".length + 1) = "bytearray" from by decide +kernel]; exact ba_sub_self) ?_
  refine bm_if_false rfl ?_
  refine wpAny_bind (wpAny_specialOf hT ba_lookup_buffer ?_)
  refine wpAny_bind (ba_ownRelease hT ?_)
  refine bm_if_false rfl ?_
  refine wpAny_bind ?_
  unfold Builtin.Bytes.payload Builtin.Bytes.payload?
  refine wpAny_bind (wpAny_bind (wpAny_load hb ?_))
  refine wpAny_pure ?_
  dsimp only
  refine wpAny_pure (wpAny_pure ?_)
  dsimp only
  refine wpAny_bind (wpAny_rule ?_)
  refine wpAny_bind (wpAny_mkBytes ?_ hz)
  show wpAny _ _ (if (Value.type "bytes" == Value.type "bytes") = true then _ else _) _ _ _
  refine bm_if_true (by decide) ?_
  first
    | exact wpAny_pure (hQ _ _)
    | exact wpAny_bind (wpAny_pure (wpAny_pure (hQ _ _)))
theorem ba_bytes {a : Addr} {b : Array UInt8} {n : Nat} {Q : Value → Shared → Prop} (hb : s.heap.get? a = some { cls := .type "bytearray", data := .bytearray b n }) (hz : b.size ≤ sizeLine)
    (hQ : ∀ t k, Q (.bytes b t) { s with toks := k }) : wpAny (model prog w) A (call (.type "bytes") [.ref a]) Q E s := by
  refine callType_codes (Q₁ := fun obj s₁ => s₁.TypeIs obj "bytes" ∧ Q obj s₁) F.bm_called (F.bm_typeCall _) F.entry_object_init
    (ba_bytes_new hb hz fun t k => ⟨PySem.W.typeIs_bytes _ _ _, hQ t k⟩) fun obj s₁ h₁ => ?_
  exact ⟨h₁.1, F.args_object_init_2 obj _, object_init_meets F.bm_called.init.lookup F.bm_called.made (by decide) prog w A.in1 _ s₁ ⟨h₁.1, rfl, h₁.2⟩⟩
theorem codeN_for_step {target : Expr} {it : Value} {body : List Stmt} {env : Env}
    (h : wpN (model prog w) A (pyNext it) (fun r s₁ => match r with
      | none => R (.ok .next) s₁
      | some v => wpN (model prog w) A (letOwnedTupleGo target it v) (fun _ s₁' =>
          wpN (model prog w) A (assign target env v) (fun _ s₂ => wpN (model prog w) A (execs body env) (fun f s₃ => match f with
            | .next | .cont => codeN (model prog w) A (.forLoop target it body [] env) R s₃
            | .brk => R (.ok .next) s₃
            | .ret v => R (.ok (.ret v)) s₃) noE s₂) noE s₁') noE s₁) noE s) : codeN (model prog w) A (.forLoop target it body [] env) R s := by
  refine codeN_of_tree rfl ?_
  show wpN _ A ((forTurn target it body [] env).onRaise (fun x => do noteFrame x env; theTreesLotGoes x)) _ _ s
  refine wpN_onRaise' ?_
  simp only [forTurn]
  refine wpN_step (wpAny_standAt (wpN_bind (wpN_onRaise' (wpN_mono h (fun r s₁ h₁ => ?_) fun _ _ h' => h'))))
  cases r with
  | none => exact wpN_pure ⟨rfl, codeN_of (codeAny_block (wpAny_pure h₁))⟩
  | some v =>
    refine wpN_bind (wpN_mono h₁ (fun _ s₁' h₁' => ?_) fun _ _ h' => h')
    refine wpN_bind (wpN_mono h₁' (fun _ s₂ h₂ => wpN_bind (wpN_mono h₂ (fun f s₃ h₃ => ?_) fun _ _ h' => h')) fun _ _ h' => h')
    cases f with
    | next => exact wpN_pure ⟨rfl, h₃⟩
    | cont => exact wpN_pure ⟨rfl, h₃⟩
    | brk => exact wpN_pure h₃
    | ret v => exact wpN_pure h₃
variable {h₀ : Heap} {L : Addr} {m : Str → Option Value} {news : List (Addr × Obj)}
abbrev rit (x left step : Int) : Obj := { cls := .type "range_iterator", data := .fields #[rawInt x, rawInt left, rawInt step] }
/-- the ledger's head changes -/
theorem News.head {h h' : Heap} {a : Addr} {o o' : Obj} (N : News h₀ L h ((a, o) :: news)) (hs : Heap.SameBut a h h') (e : h'.get? a = some o') (hne : ∀ p ∈ news, p.1 ≠ a) : News h₀ L h' ((a, o') :: news) := fun p hp => by
  have na := N _ (List.mem_cons_self)
  rcases List.mem_cons.mp hp with rfl | hp
  · exact ⟨e, na.2⟩
  · have z := N p (List.mem_cons_of_mem _ hp)
    exact ⟨(hs.2 _ (hne p hp)).trans z.1, z.2⟩
theorem News.mid {h h' : Heap} {a : Addr} {o o' : Obj} {pre : List (Addr × Obj)} (N : News h₀ L h (pre ++ (a, o) :: news)) (hs : Heap.SameBut a h h') (e : h'.get? a = some o') (hpre : ∀ p ∈ pre, p.1 ≠ a) (hne : ∀ p ∈ news, p.1 ≠ a) : News h₀ L h' (pre ++ (a, o') :: news) := fun p hp => by
  have na := N _ (List.mem_append_right _ List.mem_cons_self)
  rcases List.mem_append.mp hp with hp | hp
  · have z := N p (List.mem_append_left _ hp)
    exact ⟨(hs.2 _ (hpre p hp)).trans z.1, z.2⟩
  · rcases List.mem_cons.mp hp with rfl | hp
    · exact ⟨e, na.2⟩
    · have z := N p (List.mem_append_right _ (List.mem_cons_of_mem _ hp))
      exact ⟨(hs.2 _ (hne p hp)).trans z.1, z.2⟩
theorem iter_range {r : Addr} {a b c : Int} {t u v : Tok} {Q : Value → Shared → Prop} (hr : IsRange s.heap r a b c t u v) (hsmall : Builtin.Range.small a b c = true) (F : Fr h₀ L s.heap m) (N : News h₀ L s.heap news)
    (hQ : ∀ I h', Fr h₀ L h' m → News h₀ L h' ((I, rit a (Builtin.Range.rangeSize a b c) c) :: news) → (∀ p ∈ news, p.1 < I) → Q (.ref I) { s with heap := h' }) :
    wpAny (model prog w) A (pyIter (.ref r)) Q E s :=
  wpAny_pyIter_range hr hsmall (hQ _ _ (F.push _) (N.push F _) fun p hp => Heap.lt_size (N p hp).1)
theorem next_range_item {I : Addr} {x left step : Int} {Q : Option Value → Shared → Prop} (F : Fr h₀ L s.heap m) (N : News h₀ L s.heap ((I, rit x left step) :: news)) (hne : ∀ p ∈ news, p.1 ≠ I) (hl : 0 < left)
    (h : ∀ h', Fr h₀ L h' m → News h₀ L h' ((I, rit (x + step) (left - 1) step) :: news) → Q (some (.int x s.toks)) { s with heap := h', toks := s.toks + 1 }) : wpAny (model prog w) A (pyNext (.ref I)) Q E s := by
  have na := N _ (List.mem_cons_self)
  exact wpAny_pyNext_range_item na.1 hl fun h' hit hs => h h' (F.change hs na.2.1 na.2.2) (News.head N hs hit hne)
theorem next_range_end {I : Addr} {x left step : Int} {Q : Option Value → Shared → Prop} (hh : A.handled = none) (F : Fr h₀ L s.heap m) (N : News h₀ L s.heap ((I, rit x left step) :: news)) (hne : ∀ p ∈ news, p.1 ≠ I) (hl : left ≤ 0)
    (h : ∀ h', Fr h₀ L h' m → News h₀ L h' news → Q none { s with heap := h' }) : wpAny (model prog w) A (pyNext (.ref I)) Q E s := by
  have na := N _ (List.mem_cons_self)
  exact wpAny_pyNext_range_end hh na.1 hl fun h' hs => h h'
    ⟨F.ns.at' fun o e => hs L o (Ne.symm na.2.1) e, fun b o e => hs b o (fun q => by rw [q, na.2.2] at e; cases e) (F.keep b o e), F.above⟩
    fun p hp => ⟨hs _ _ (hne p hp) (N p (List.mem_cons_of_mem _ hp)).1, (N p (List.mem_cons_of_mem _ hp)).2⟩
end
end Mine
end

section
open PySem PySem.W PySem.Calls PyProof.Rows
namespace Mine
section
variable {prog : Program} {w : World} {A : Around} {E : Value → Shared → Prop} {s : Shared} {h₀ : Heap} {L : Addr} {m : Str → Option Value}
theorem ba_setItemN {a I J : Addr} {oI oJ : Obj} {k : Int} {t : Tok} {v : Int} {u : Tok} {b : Array UInt8} {n : Nat} {Q : Unit → Shared → Prop} (F : Fr h₀ L s.heap m) (N : News h₀ L s.heap [(J, oJ), (I, oI), (a, { cls := .type "bytearray", data := .bytearray b n })])
    (hJ : J ≠ a) (hI : I ≠ a) (h0 : 0 ≤ k) (hk : k < b.size) (hz : b.size ≤ sizeLine) (hv0 : 0 ≤ v) (hv : v < 256)
    (h : ∀ h', Fr h₀ L h' m → News h₀ L h' [(J, oJ), (I, oI), (a, { cls := .type "bytearray", data := .bytearray (b.setIfInBounds k.toNat v.toNat.toUInt8) n })] → Q () { s with heap := h' }) : wpAny (model prog w) A (setItem (.ref a) (.int k t) (.int v u)) Q E s := by
  have na := N (a, { cls := .type "bytearray", data := .bytearray b n }) (List.mem_cons_of_mem _ (List.mem_cons_of_mem _ List.mem_cons_self))
  refine ba_setItem na.1 h0 hk hz hv0 hv fun h' hs hb => h h' (F.change hs na.2.1 na.2.2) ?_
  exact News.mid (pre := [(J, oJ), (I, oI)]) (news := []) N hs hb (by simp [hJ, hI]) (by simp)
theorem ba_bytesN {a : Addr} {b : Array UInt8} {n : Nat} {Q : Value → Shared → Prop} (N : News h₀ L s.heap [(a, { cls := .type "bytearray", data := .bytearray b n })]) (hz : b.size ≤ sizeLine)
    (hQ : ∀ t k, Q (.bytes b t) { s with toks := k }) : wpAny (model prog w) A (call (.type "bytes") [.ref a]) Q E s := ba_bytes (N _ List.mem_cons_self).1 hz hQ
end
set_option maxRecDepth 100000 in
set_option maxHeartbeats 8000000 in
theorem swapN : ∀ (w : World) (mean : ExcName → Option Value) (mg mb : Str → Option Value) (dp un : Nat) (cn : Str) (cs : Scope) (a : Addr) (ccd : Value) (cl : List (Str × Addr)) (outer : List Env) (A₀ : Around) (base h₀ : Heap) (L : Addr) (m : Str → Option Value) (s : Shared) (x y : UInt8) (t t2 : Tok)
    (Q E : Value → Shared → Prop) (_ : Below A₀ base outer h₀) (_ : Fr h₀ L s.heap m) (_ : (Mine.hd.heap_39 w.params).In h₀) (_ : Top Mine.hd.view_39 (looseW Mine.hd.view_39 []) mean mg mb h₀) (_ : cs.kind = .function)
    (_ : dp + 1 < recursionLimit) (_ : un + 8 < cLine)
    (_ : ∀ t h' tk', Grow s.heap h' → Q (.bytes #[y, x] t) { s with heap := h', toks := tk' }),
    wpN (model PySem.Challenge.rw_zw0001_01.prog w) (ktrTop dp un (some []) cn cs L a ccd cl outer) (call (.ref 21) [.bytes #[x, y] t, .int 2 t2]) Q E s := by
  k_fill
  intro w mean mg mb dp un cn cs a ccd cl outer A₀ base h₀ L m s x y t t2 Q E B F X T hk hd hu hret
  refine wpN_call ?_
  with_unfolding_all (refine' code_defN ?k1 ?k2 ?k3 ?k5 ?kA ?kF ?kK ?k6 ?k7 ?k8 ?k9 ?kB ?_ ?c2 ?c3 ?c4 ?c5; (case kA => exact rfl); (case kF => exact rfl); (case kK => assumption); (case k1 => k_asm); (case k2 => k_asm); (case k3 => k_asm); (case k5 => k_asm); (case k6 => k_is); (case k7 => k_is); (case k8 => ktr_room); (case k9 => exact BindsTo.of_eq rfl); (case c5 => decide); (case kB => exact locs rfl); (case c2 => exact rfl); (case c3 => exact rfl); (case c4 => exact rfl); k_whole; intro g' L' h' hG F' N' B' X' T'; (try dsimp only))
  clear B X T F
  refine wpN_execs_cons (wpN_Assign_Name (wpN_Call_type (T := "bytearray") ?_ ?_))
  · intro Q' hQ'
    k_steps
    exact hQ'
  · refine wpN_of ?_
    k_steps
    refine ba_type_call rfl fun h₂ hk₂ hb₂ => ?_
    have F₂ := F'.keeps hk₂
    have N₂ : News g' L' h₂ [(h'.objs.size, { cls := .type "bytearray", data := .bytearray #[0, 0] })] := fun p hp => by
      rcases List.mem_singleton.mp hp with rfl
      exact ⟨hb₂, Nat.ne_of_gt F'.ns.lt, next_is_new F'⟩
    generalize h'.objs.size = ba at N₂ ⊢
    clear hk₂ hb₂ F' N'
    k_steps
    refine wpN_execs_cons (wpN_For (wpN_of ?_))
    k_steps
    rename IsRange _ _ _ _ _ _ _ _ => hr
    rename Fr _ _ _ _ => F₃
    rename News _ _ _ _ => N₃
    have hr' : IsRange _ _ 0 2 2 _ _ _ := hr
    refine wpN_of (iter_range hr' (by decide) F₃ N₃ fun I h₄ F₄ N₄ hI => ?_)
    have hIa : I ≠ ba := Nat.ne_of_gt (hI (ba, _) List.mem_cons_self)
    clear hI F₃ N₃ hr hr'
    refine codeN_for_step (wpN_of (next_range_item F₄ N₄ (by simpa using hIa.symm) (by decide) fun h₅ F₅ N₅ => ?_))
    dsimp only
    refine wpN_of (wpAny_of_eq (a := ()) rfl ?_)
    refine wpN_of ?_
    clear F₄ N₄
    k_steps
    refine wpN_execs_cons (wpN_For (wpN_of ?_))
    k_steps
    rename IsRange _ _ _ _ _ _ _ _ => hr
    rename Fr _ _ _ _ => F₃
    rename News _ _ _ _ => N₃
    have hr' : IsRange _ _ 0 2 1 _ _ _ := hr
    refine wpN_of (iter_range hr' (by decide) F₃ N₃ fun J h₄ F₄ N₄ hJ => ?_)
    have hJa : J ≠ ba := Nat.ne_of_gt (hJ (ba, _) (List.mem_cons_of_mem _ List.mem_cons_self))
    have hJI : J ≠ I := Nat.ne_of_gt (hJ (I, _) List.mem_cons_self)
    clear hJ F₃ N₃ hr hr'
    refine codeN_for_step (wpN_of (next_range_item F₄ N₄ (by simp [hJa.symm, hJI.symm]) (by decide) fun h₅ F₅ N₅ => ?_))
    dsimp only
    refine wpN_of (wpAny_of_eq (a := ()) rfl ?_)
    refine wpN_of ?_
    clear F₄ N₄
    k_steps
    refine wpN_of ?_
    k_steps
    rename Fr _ _ _ _ => F₅
    rename News _ _ _ _ => N₅
    refine ba_setItemN F₅ N₅ hJa hIa (by decide) (by decide) (by decide) (Int.natCast_nonneg _) (Int.ofNat_lt.mpr (UInt8.toNat_lt _)) fun h₆ F₆ N₆ => ?_
    clear F₅ N₅
    k_steps
    dsimp only
    refine codeN_for_step (wpN_of (next_range_item F₆ N₆ (by simp [hJa.symm, hJI.symm]) (by decide) fun h₇ F₇ N₇ => ?_))
    dsimp only
    refine wpN_of (wpAny_of_eq (a := ()) rfl ?_)
    refine wpN_of ?_
    clear F₆ N₆
    k_steps
    refine wpN_of ?_
    k_steps
    rename Fr _ _ _ _ => F₅
    rename News _ _ _ _ => N₅
    refine ba_setItemN F₅ N₅ hJa hIa (by decide) (by rw [Array.size_setIfInBounds]; decide) (by rw [Array.size_setIfInBounds]; decide) (Int.natCast_nonneg _) (Int.ofNat_lt.mpr (UInt8.toNat_lt _)) fun h₆ F₆ N₆ => ?_
    clear F₅ N₅
    k_steps
    dsimp only
    refine codeN_for_step (wpN_of (next_range_end rfl F₆ N₆ (by simp [hJa.symm, hJI.symm]) (by decide) fun h₇ F₇ N₇ => ?_))
    clear F₆ N₆
    dsimp only
    refine wpN_of ?_
    k_steps
    dsimp only
    refine codeN_for_step (wpN_of (next_range_end rfl F₇ N₇ (by simp [hIa.symm]) (by decide) fun h₈ F₈ N₈ => ?_))
    clear F₇ N₇
    dsimp only
    refine wpN_of ?_
    k_steps
    refine ba_bytesN N₈ (by rw [Array.size_setIfInBounds, Array.size_setIfInBounds]; decide) fun t₉ k₉ => ?_
    have hend : ∀ b : Array UInt8, b = #[y, x] → Q (.bytes b t₉) { s with heap := h₈, toks := k₉ } := fun b e => by
      subst e
      exact hret t₉ h₈ k₉ fun b o e => F₈.keep b o (hG ▸ e)
    refine hend _ ?_
    show (#[0, 0].setIfInBounds 1 ((x.toNat : Int)).toNat.toUInt8).setIfInBounds 0 ((y.toNat : Int)).toNat.toUInt8 = #[y, x]
    simp
end Mine
end

section
open PySem PySem.W PySem.Calls PyProof.Rows
open PySem.Sem (wp)
set_option maxRecDepth 100000
namespace Mine
section
variable {prog : Program} {w : World} {A : Around} {E : Value → Shared → Prop} {s : Shared} {R : Result → Shared → Prop} {h₀ : Heap} {L : Addr} {m : Str → Option Value} {news : List (Addr × Obj)}
theorem wpAny_calm {α : Type} {M : Model} {t : Sem α} {Q : α → Shared → Prop} (h : wpAny M A t Q noE s) : wpAny M A t Q E s := wpAny_mono h (fun _ _ q => q) fun _ _ q => q.elim
theorem codeAny_for_step {target : Expr} {it : Value} {body : List Stmt} {env : Env}
    (h : wpAny (model prog w) A (pyNext it) (fun r s₁ => match r with
      | none => R (.ok .next) s₁
      | some v => wpAny (model prog w) A (letOwnedTupleGo target it v) (fun _ s₁' =>
          wpAny (model prog w) A (assign target env v) (fun _ s₂ => wpAny (model prog w) A (execs body env) (fun f s₃ => match f with
            | .next | .cont => codeAny (model prog w) A (.forLoop target it body [] env) R s₃
            | .brk => R (.ok .next) s₃
            | .ret v => R (.ok (.ret v)) s₃) noE s₂) noE s₁') noE s₁) noE s) : codeAny (model prog w) A (.forLoop target it body [] env) R s := by
  refine codeAny_of_tree ?_
  show wpAny _ A ((forTurn target it body [] env).onRaise (fun x => do noteFrame x env; theTreesLotGoes x)) _ _ s
  refine wpAny_onRaise (wpAny_calm ?_)
  simp only [forTurn]
  refine wpAny_bind (wpAny_standAt (wpAny_bind (wpAny_onRaise (wpAny_calm (wpAny_mono h (fun r s₁ h₁ => ?_) fun _ _ h' => h')))))
  cases r with
  | none => exact wpAny_pure ⟨rfl, codeAny_block (wpAny_pure h₁)⟩
  | some v =>
    refine wpAny_bind (wpAny_mono h₁ (fun _ s₁' h₁' => ?_) fun _ _ h' => h')
    refine wpAny_bind (wpAny_mono h₁' (fun _ s₂ h₂ => wpAny_bind (wpAny_mono h₂ (fun f s₃ h₃ => ?_) fun _ _ h' => h')) fun _ _ h' => h')
    cases f with
    | next => exact wpAny_pure ⟨rfl, h₃⟩
    | cont => exact wpAny_pure ⟨rfl, h₃⟩
    | brk => exact wpAny_pure h₃
    | ret v => exact wpAny_pure h₃
theorem wpAny_For' {target iter : Expr} {body orelse : List Stmt} {env : Env} {pos : Pos} {Q : Flow → Shared → Prop}
    (h : wpAny (model prog w) A (eval iter env) (fun x s₁ => wpAny (model prog w) A (pyIter x) (fun it s₂ => codeAny (model prog w) A (.forLoop target it body orelse env) (fun r s' => match r with | .ok f => Q f s' | .error _ => False) s₂) E s₁) E s)
    (hs : ∀ x, foldedSetIterable iter env x = pure x := by intro _; rfl) : wpAny (model prog w) A (exec (.For target iter body orelse pos) env) Q E s :=
  wpAny_For (wpAny_mono h (fun _ _ q => wpAny_mono q (fun _ _ q => codeAny_mono q fun r s h => by cases r <;> first | exact h | exact h.elim) fun _ _ q => q) fun _ _ q => q) hs
def IsIt (o : Obj) (l : Addr) (i : Nat) : Prop := o.cls = .type "list_iterator" ∧ o.data = .fields #[.ref l, .int i 0]
/-- the list's iterator goes onto the ledger -/
theorem iter_list {l : Addr} {its : Array Value} {Q : Value → Shared → Prop} (hl : s.heap.IsList l its) (F : Fr h₀ L s.heap m) (N : News h₀ L s.heap news)
    (hQ : ∀ I oI h', IsIt oI l 0 → Fr h₀ L h' m → News h₀ L h' ((I, oI) :: news) → (∀ p ∈ news, p.1 < I) → (∀ b o, s.heap.get? b = some o → b < I) → Grow s.heap h' → Q (.ref I) { s with heap := h' }) : wpAny (model prog w) A (pyIter (.ref l)) Q E s :=
  wpAny_pyIter_list hl (hQ _ _ _ ⟨rfl, rfl⟩ (F.push _) (N.push F _) (fun p hp => Heap.lt_size (N p hp).1) (fun _ _ e => Heap.lt_size e) fun _ _ e => Heap.get?_push_of_some _ e)
theorem News.but {h h' : Heap} {a : Addr} (N : News h₀ L h news) (hs : ∀ b o, b ≠ a → h.get? b = some o → h'.get? b = some o) (hne : ∀ p ∈ news, p.1 ≠ a) : News h₀ L h' news :=
  fun p hp => ⟨hs _ _ (hne p hp) (N p hp).1, (N p hp).2⟩
theorem Fr.but {h h' : Heap} {a : Addr} (F : Fr h₀ L h m) (hs : ∀ b o, b ≠ a → h.get? b = some o → h'.get? b = some o) (hL : a ≠ L) (hn : h₀.get? a = none) : Fr h₀ L h' m :=
  ⟨F.ns.at' fun o e => hs L o (Ne.symm hL) e, fun b o e => hs b o (fun q => by rw [q, hn] at e; cases e) (F.keep b o e), F.above⟩
theorem next_list_item {I l : Addr} {oI : Obj} {its : Array Value} {i : Nat} {v : Value} {Q : Option Value → Shared → Prop} (hI : IsIt oI l i) (F : Fr h₀ L s.heap m) (N : News h₀ L s.heap ((I, oI) :: news)) (hne : ∀ p ∈ news, p.1 ≠ I) (hl : s.heap.IsList l its) (hv : its[i]? = some v)
    (h : ∀ oI' h', IsIt oI' l (i + 1) → Fr h₀ L h' m → News h₀ L h' ((I, oI') :: news) → Heap.SameBut I s.heap h' → Q (some v) { s with heap := h' }) : wpAny (model prog w) A (pyNext (.ref I)) Q E s := by
  have na := N _ (List.mem_cons_self)
  refine wpAny_pyNext_list_item ⟨_, na.1, hI.1, hI.2⟩ hl hv fun h' hit hs => ?_
  obtain ⟨o', e', hc', hd'⟩ := hit
  exact h o' h' ⟨hc', hd'⟩ (F.change hs na.2.1 na.2.2) (News.head N hs e' hne) hs
theorem next_list_end {I l : Addr} {oI : Obj} {its : Array Value} {i : Nat} {Q : Option Value → Shared → Prop} (hh : A.handled = none) (hI : IsIt oI l i) (F : Fr h₀ L s.heap m) (N : News h₀ L s.heap ((I, oI) :: news)) (hne : ∀ p ∈ news, p.1 ≠ I) (hl : s.heap.IsList l its) (hv : its[i]? = none)
    (h : ∀ h', Fr h₀ L h' m → News h₀ L h' news → (∀ b o, b ≠ I → s.heap.get? b = some o → h'.get? b = some o) → Q none { s with heap := h' }) : wpAny (model prog w) A (pyNext (.ref I)) Q E s := by
  have na := N _ (List.mem_cons_self)
  refine wpAny_pyNext_list_end hh ⟨_, na.1, hI.1, hI.2⟩ hl hv fun h' hs => ?_
  exact h h' (Fr.but F hs na.2.1 na.2.2) (News.but (fun p hp => N p (List.mem_cons_of_mem _ hp)) hs hne) hs
/-- a pair is taken apart -/
theorem assign_pair {env : Env} {e1 e2 : Expr} {k : Nat} {pos : Pos} {t : Addr} {v1 v2 : Value} {Q : Unit → Shared → Prop} (hh : A.handled = none) (F : Fr h₀ L s.heap m) (N : News h₀ L s.heap news) (ht : IsTup s.heap t #[v1, v2])
    (hs1 : assignEach [e1, e2] env = [(false, assign e1 env), (false, assign e2 env)])
    (h : ∀ h', Fr h₀ L h' m → News h₀ L h' news → Grow s.heap h' → wpAny (model prog w) A (assign e1 env v1) (fun _ s₁ => wpAny (model prog w) A (assign e2 env v2) Q E s₁) E { s with heap := h' }) :
    wpAny (model prog w) A (assign (.Tuple [e1, e2] k pos) env (.ref t)) Q E s := by
  refine assign_Tuple_tuple hh ht (by rw [hs1]; rfl) (by rw [hs1]; rfl) fun h' he => ?_
  rw [hs1]
  have k : Grow s.heap h' := fun b o e => he b o (Nat.ne_of_lt (Heap.lt_size e)) e
  refine assignInOrder_cons (wpAny_mono (h h' (F.keeps k) (N.grown k) k) (fun _ s₁ h₁ => ?_) fun _ _ q => q)
  exact assignInOrder_cons (wpAny_mono h₁ (fun _ s₂ h₂ => assignInOrder_nil h₂) fun _ _ q => q)
theorem owned_list {I l t : Addr} {oI : Obj} {i : Nat} {elts : List Expr} {x1 : Nat} {pos : Pos} {Q : Unit → Shared → Prop} (hI : IsIt oI l i) (e : s.heap.get? I = some oI) (h : Q () s) :
    wpAny (model prog w) A (letOwnedTupleGo (.Tuple elts x1 pos) (.ref I) (.ref t)) Q E s := wpAny_letOwnedTupleGo_listiter (l := l) (i := i) ⟨_, e, hI.1, hI.2⟩ h
end
end Mine
end

section
open PySem PySem.W PySem.Calls PyProof.Rows
namespace Mine
/-- parts of the given program, by their place -/
def fnBody (n : Nat) : List Stmt := match PySem.Challenge.pw_zw0001_01.main.body[n]? with
  | some (.FunctionDef _ _ b _ _ _ _ _ _ _) => b
  | _ => []
def fnScope (n : Nat) : Scope := match PySem.Challenge.pw_zw0001_01.main.body[n]? with
  | some (.FunctionDef _ _ _ _ _ _ s _ _ _) => s
  | _ => default
def forBody (b : List Stmt) (n : Nat) : List Stmt := match b[n]? with
  | some (.For _ _ c _ _) => c
  | _ => []
def PairAt (h : Heap) (v : Value) (p : Nat × Nat) : Prop := ∃ a t u, v = .ref a ∧ IsTup h a #[.int (p.1 : Int) t, .int (p.2 : Int) u]
def PairsAt (h : Heap) (its : List Value) (ps : List (Nat × Nat)) : Prop := its.length = ps.length ∧ ∀ (i : Nat) (v : Value) (p : Nat × Nat), its[i]? = some v → ps[i]? = some p → PairAt h v p
def GoodPair (p : Nat × Nat) : Prop := p.1 < p.2 ∧ p.2 < 4
/-- a comparison of two places -/
def swp (r : List UInt8) (p : Nat × Nat) : List UInt8 := if r.getD p.2 0 < r.getD p.1 0 then (r.set p.1 (r.getD p.2 0)).set p.2 (r.getD p.1 0) else r
def net (ps : List (Nat × Nat)) (r : List UInt8) : List UInt8 := ps.foldl swp r
theorem PairAt.grow {h h' : Heap} {v : Value} {p : Nat × Nat} (k : Grow h h') (x : PairAt h v p) : PairAt h' v p := by
  obtain ⟨a, t, u, e, o, ho, r⟩ := x
  exact ⟨a, t, u, e, o, k _ _ ho, r⟩
theorem swp_length (r : List UInt8) (p : Nat × Nat) : (swp r p).length = r.length := by unfold swp; split <;> simp
theorem net_length (ps : List (Nat × Nat)) : ∀ r : List UInt8, (net ps r).length = r.length := by
  induction ps with
  | nil => intro r; rfl
  | cons p ps ih => intro r; show (net ps (swp r p)).length = _; rw [ih, swp_length]
theorem swp_no {r : List UInt8} {i j : Nat} (h : ¬ (r.getD j 0 < r.getD i 0)) : swp r (i, j) = r := if_neg h
theorem swp_yes {r : List UInt8} {i j : Nat} (hr : r.length = 4) (hij : i < j) (hj : j < 4) (h : r.getD j 0 < r.getD i 0) :
    r.take i ++ [r.getD j 0] ++ (r.drop (i + 1)).take (j - (i + 1)) ++ [r.getD i 0] ++ r.drop (j + 1) = swp r (i, j) := by
  match r, hr with
  | [a, b, c, d], _ =>
    have hi : i = 0 ∨ i = 1 ∨ i = 2 := by omega
    have hj' : j = 1 ∨ j = 2 ∨ j = 3 := by omega
    rcases hi with rfl | rfl | rfl <;> rcases hj' with rfl | rfl | rfl <;> first | omega | (unfold swp; rw [if_pos h]; rfl)

section
open Builtin
def pick (r : List UInt8) (lo hi : Option Int) : List UInt8 := (r.drop (lo.elim 0 (clipAt r.length))).take (hi.elim r.length (clipAt r.length) - lo.elim 0 (clipAt r.length))
theorem pick_to {r : List UInt8} {i : Nat} (h : i ≤ r.length) : pick r none (some (i : Int)) = r.take i := by
  unfold pick
  simp only [Option.elim, clipAt_nat, List.drop_zero, Nat.sub_zero]
  rw [Nat.min_eq_left h]
theorem pick_from {r : List UInt8} {i : Nat} (h : i < r.length) : pick r (some ((i : Int) + 1)) none = r.drop (i + 1) := by
  unfold pick
  rw [show ((i : Int) + 1) = ((i + 1 : Nat) : Int) from rfl]
  simp only [Option.elim, clipAt_nat]
  rw [Nat.min_eq_left (by omega : i + 1 ≤ r.length), List.take_of_length_le (by rw [List.length_drop]; exact Nat.le_refl _)]
theorem pick_mid {r : List UInt8} {i j : Nat} (h : i < r.length) (hj : j ≤ r.length) : pick r (some ((i : Int) + 1)) (some (j : Int)) = (r.drop (i + 1)).take (j - (i + 1)) := by
  unfold pick
  rw [show ((i : Int) + 1) = ((i + 1 : Nat) : Int) from rfl]
  simp only [Option.elim, clipAt_nat]
  rw [Nat.min_eq_left (by omega : i + 1 ≤ r.length), Nat.min_eq_left hj]
theorem pick_one {r : List UInt8} {i : Nat} (h : i < r.length) : pick r (some (i : Int)) (some ((i : Int) + 1)) = [r.getD i 0] := by
  unfold pick
  rw [show ((i : Int) + 1) = ((i + 1 : Nat) : Int) from rfl]
  simp only [Option.elim, clipAt_nat]
  rw [Nat.min_eq_left (by omega : i ≤ r.length), Nat.min_eq_left (by omega : i + 1 ≤ r.length), show i + 1 - i = 1 by omega, List.drop_eq_getElem_cons h, List.take_succ_cons, List.take_zero, List.getD_eq_getElem?_getD, List.getElem?_eq_getElem h]
  rfl
variable {prog : Program} {w : World} {A : Around} {E : Value → Shared → Prop} {s : Shared} {value slice : PySem.Expr} {r q : List UInt8} {t : Tok} {h₀ : Heap} {L : Addr} {m : PySem.Str → Option Value} {news : List (Addr × Obj)} {l u : Value} {lo hi : Option Int} {Q : Value → Shared → Prop}
theorem my_slice (hF : Fr h₀ L s.heap m) (hN : News h₀ L s.heap news) (hl : IsPart l lo) (hu : IsPart u hi) (hz : r.length ≤ 16777216) (e : pick r lo hi = q)
    (h : ∀ h' t' k, Fr h₀ L h' m → News h₀ L h' news → Q (.bytes q.toArray t') { s with heap := h', toks := k })
    (hs : subscripted slice false (.bytes r.toArray t) (.ref s.heap.objs.size) = operate [.ref s.heap.objs.size, .bytes r.toArray t] (getItem (.bytes r.toArray t) (.ref s.heap.objs.size)) := by with_unfolding_all rfl)
    (ht : ∀ x, letTemporaryGo value (.bytes r.toArray t) x = pure () := by intro _; with_unfolding_all rfl) :
    wpAny (model prog w) A (subscriptTail value slice (.bytes r.toArray t) (.ref s.heap.objs.size)) Q E { s with heap := s.heap.push { cls := .type "slice", data := .fields #[l, u, .none] } } := by
  have key : KBy.picked r.toArray lo hi = q.toArray := by rw [KBc.picked_eq, ← e]; simp [pick]
  refine tail_of_ItemOn ⟨"bytes", _, FB.slot_bytes_getitem.lookup, typeIs_bytes _ _ _, getItem_meets (typeIs_bytes _ _ _) (by decide) FB.slot_bytes_getitem FB.entry_bytes_getitem (FB.args_bytes_getitem_2 _ _) (KBc.meets_slice2 r.toArray t _ hl hu)
    ⟨Heap.IsSliceOf.new _ _ _ _, Nat.le_trans (KBc.size_picked_le _ lo hi) (by rw [List.size_toArray, sizeLine_eq]; exact hz), fun t' k => ?_⟩⟩ hs ht
  rw [key]
  exact h _ _ _ (hF.push _) (News.pushKeep hN _)
theorem my_item {i : Nat} {ui : Tok} (hr : i < r.length) (hz : r.length ≤ 16777216) (h : ∀ n u k, n = ((r.getD i 0).toNat : Int) → 0 ≤ n → n < 256 → Q (.int n u) { s with toks := k })
    (hs : subscripted slice false (.bytes r.toArray t) (.int i ui) = operate [.bytes r.toArray t, .int i ui] (getItem (.bytes r.toArray t) (.int i ui)) := by with_unfolding_all rfl)
    (ht : ∀ x, letTemporaryGo value (.bytes r.toArray t) x = pure () := by intro _; with_unfolding_all rfl) : wpAny (model prog w) A (subscriptTail value slice (.bytes r.toArray t) (.int i ui)) Q E s := by
  refine KBy.item_N (by omega) (by omega) (by omega) ?_ hs ht
  rw [Int.toNat_natCast]
  exact h _ _ _ rfl (Int.natCast_nonneg _) (Int.ofNat_lt.mpr (UInt8.toNat_lt _))
end
end Mine
end

section
open PySem PySem.W PySem.Calls PyProof.Rows
namespace Mine
abbrev toldNews (w : World) (x dx l D I : Addr) (oI : Obj) (tk0 t0 t1 : Tok) : List (Addr × Obj) :=
  [(x, instObj 45 dx), (dx, dictOf [⟨PyData.keyHash w.params (Str.ofString "comp_select_list"), .str (Str.ofString "comp_select_list") tk0, .ref l⟩] 1), (l, W.listOf #[.ref D] 0), (D, { cls := .type "tuple", data := .seq [Value.int 0 t0, Value.int 1 t1].toArray }), (I, oI)]
theorem tell1 {a b : UInt8} (h : (([a].getD (Int.toNat 0) 0).toNat : Int) < (([b].getD (Int.toNat 0) 0).toNat : Int)) : (if a < b then (-1 : Int) else if b < a then 1 else 0) = -1 := by
  have h' : a < b := UInt8.lt_iff_toNat_lt.mpr (Int.ofNat_lt.mp h)
  rw [if_pos h']
theorem tell2 {a b : UInt8} (n : ¬(([a].getD (Int.toNat 0) 0).toNat : Int) < (([b].getD (Int.toNat 0) 0).toNat : Int)) (h : (([b].getD (Int.toNat 0) 0).toNat : Int) < (([a].getD (Int.toNat 0) 0).toNat : Int)) : (if a < b then (-1 : Int) else if b < a then 1 else 0) = 1 := by
  have h' : b < a := UInt8.lt_iff_toNat_lt.mpr (Int.ofNat_lt.mp h)
  have n' : ¬ a < b := fun q => n (Int.ofNat_lt.mpr (UInt8.lt_iff_toNat_lt.mp q))
  rw [if_neg n', if_pos h']
theorem tell3 {a b : UInt8} (n : ¬(([a].getD (Int.toNat 0) 0).toNat : Int) < (([b].getD (Int.toNat 0) 0).toNat : Int)) (h : ¬(([b].getD (Int.toNat 0) 0).toNat : Int) < (([a].getD (Int.toNat 0) 0).toNat : Int)) : (if a < b then (-1 : Int) else if b < a then 1 else 0) = 0 := by
  have h' : ¬ b < a := fun q => h (Int.ofNat_lt.mpr (UInt8.lt_iff_toNat_lt.mp q))
  have n' : ¬ a < b := fun q => n (Int.ofNat_lt.mpr (UInt8.lt_iff_toNat_lt.mp q))
  rw [if_neg n', if_neg h']
set_option maxRecDepth 100000 in
set_option maxHeartbeats 8000000 in
theorem compare_tells : ∀ (w : World) (mean : ExcName → Option Value) (mg mb : Str → Option Value) (env0 env1 : Env) (b0 g : Heap) (L : Addr) (m : Str → Option Value) (s : Shared) (x dx l D I : Addr) (oI : Obj) (tk0 t0 t1 : Tok) (a b : UInt8) (ta tb : Tok) (Q E : Value → Shared → Prop)
    (_ : Below (callerA.deeper env0) b0 [env0] g) (_ : (Mine.hd.heap_39 w.params).In g) (_ : Top Mine.hd.view_39 (looseW Mine.hd.view_39 []) mean mg mb g) (_ : env1.frame = some L) (_ : env1.scope.kind = .function)
    (_ : Fr g L s.heap m) (_ : News g L s.heap (toldNews w x dx l D I oI tk0 t0 t1))
    (_ : ∀ h' tk' t, Fr g L h' m → News g L h' (toldNews w x dx l D I oI tk0 t0 t1) → Q (.int (if a < b then -1 else if b < a then 1 else 0) t) { s with heap := h', toks := tk' }),
    wpAny (model PySem.Challenge.rw_zw0001_01.prog w) ((callerA.deeper env0).deeper env1) (call (.ref 42) [.ref x, .bytes [a].toArray ta, .bytes [b].toArray tb]) Q E s := by
  k_fill
  intro w mean mg mb env0 env1 b0 g L m s x dx l D I oI tk0 t0 t1 a b ta tb Q E B X T hf hk F N hret
  dsimp only [toldNews] at N hret
  have hret' : ∀ c, (if a < b then (-1 : Int) else if b < a then 1 else 0) = c → ∀ h' tk' t, Fr g L h' m → News g L h' (toldNews w x dx l D I oI tk0 t0 t1) → Q (.int c t) { s with heap := h', toks := tk' } := by
    intro c e; subst e; exact hret
  dsimp only [toldNews] at hret'
  clear hret
  refine wpAny_calm ?_
  refine wpAny_call ?_
  k_dflt (refine' code_def ?k1 ?k2 ?k3 ?k4 ?k5 ?kA ?kF ?kK ?k6 ?k7 ?k8 ?k9 ?kB ?_ ?c2 ?c3 ?c4 ?c5; (case kA => exact rfl); (case kF => exact hf); (case kK => exact hk); (case k1 => k_asm); (case k2 => k_asm); (case k3 => k_asm); (case k4 => k_asm); (case k5 => k_asm); (case k6 => k_is); (case k7 => k_is); (case k8 => k_room); (case k9 => exact BindsTo.of_eq rfl); (case c5 => decide); (case kB => exact locs rfl); (case c2 => exact rfl); (case c3 => exact rfl); (case c4 => exact rfl); k_whole; intro g' L' h' FG' F' N' B' X' T'; (try dsimp only))
  refine wpAny_mono (E := noE) ?_ (fun _ _ q => q) fun _ _ q => q.elim
  refine wpAny_execs_cons (wpAny_For' ?_)
  k_steps
  refine iter_list ⟨_, (N' (l, W.listOf #[.ref D] 0) (by simp)).1, rfl, _, rfl⟩ F' N' fun J oJ h₂ hJ F₂ N₂ hne hn2 _ => ?_
  have hD0 := (N₂ (l, W.listOf #[.ref D] 0) (by simp)).1
  have hD1 := (N₂ (D, { cls := .type "tuple", data := .seq [Value.int 0 t0, Value.int 1 t1].toArray }) (by simp)).1
  refine codeAny_for_step (next_list_item hJ F₂ N₂ (fun p hp => Nat.ne_of_lt (hne p hp)) ⟨_, hD0, rfl, _, rfl⟩ (v := .ref D) rfl ?_)
  intro oJ' h₃ hJ' F₃ N₃ s₃
  refine owned_list hJ' (N₃ _ List.mem_cons_self).1 ?_
  refine assign_pair rfl F₃ N₃ (v1 := .int 0 t0) (v2 := .int 1 t1) ⟨_, (N₃ (D, { cls := .type "tuple", data := .seq [Value.int 0 t0, Value.int 1 t1].toArray }) (by simp)).1, rfl, _, rfl⟩ rfl ?_
  intro h₄ F₄ N₄ k₄
  k_steps
  · rename Fr g L _ m => kF; rename News g L _ _ => kN
    have hc := tell1 (a := a) (b := b) (by assumption)
    exact hret' _ hc _ _ _ kF fun p hp => kN p (List.mem_cons_of_mem _ hp)
  · rename Fr g L _ m => kF; rename News g L _ _ => kN
    have hc := tell2 (a := a) (b := b) (by assumption) (by assumption)
    exact hret' _ hc _ _ _ kF fun p hp => kN p (List.mem_cons_of_mem _ hp)
  · have hc := tell3 (a := a) (b := b) (by assumption) (by assumption)
    rename Fr g' L' _ _ => F₅; rename News g' L' _ _ => N₅
    show codeAny _ _ _ _ _
    have hD5 := (N₅ (l, W.listOf #[.ref D] 0) (by simp)).1
    refine codeAny_for_step (next_list_end rfl hJ' F₅ N₅ (fun p hp => Nat.ne_of_lt (hne p hp)) ⟨_, hD5, rfl, _, rfl⟩ rfl ?_)
    intro h₆ F₆ N₆ k₆
    dsimp only
    k_steps
    rename Fr g L _ m => kF; rename News g L _ _ => kN
    exact hret' _ hc _ _ _ kF kN
end Mine
end

section
open PySem PySem.W PySem.Calls PyProof.Rows
namespace Mine
abbrev sMap (told : Addr) (vp vo v1 : Option Value) (r : List UInt8) (tr : Tok) (m₁ : Str → Option Value) : Str → Option Value := fun y =>
  if y = Str.ofString "pair" then vp else if y = Str.ofString "other" then vo else if y = Str.ofString "one" then v1 else if y = Str.ofString "row" then some (.bytes r.toArray tr) else if y = Str.ofString "told" then some (.ref told) else m₁ y
abbrev sEnv (L : Addr) : Env := envOf (Str.ofString "_law_sorted") (fnScope 5) L 56 (.ref 55)
theorem pick_a (a b : UInt8) : pick [a, b] none (some 1) = [a] := rfl
theorem pick_b (a b : UInt8) : pick [a, b] (some 1) none = [b] := rfl
local macro_rules | `(tactic| walk_at "subscriptTail") => `(tactic| (k_here; (with_reducible show wpAny _ _ (subscriptTail _ (Expr.Slice _ _ none _) (Value.bytes _ _) (Value.ref _)) _ _ _); (with_reducible rename Fr _ _ _ _ => F'); (with_reducible rename News _ _ _ _ => N'); (refine' my_slice (s := ⟨_, _, _, _, _⟩) F' N' ?p1 ?p2 ?z ?e ?_; (case p1 => constructor); (case p2 => constructor); (case z => ((try simp only [List.length_cons, List.length_nil]); omega)); (case e => first | exact pick_a _ _ | exact pick_b _ _ | exact pick_one (by omega) | exact pick_to (by omega) | exact pick_mid (by omega) (by omega) | exact pick_from (by omega) | exact rfl)); intro _ _ _ _ _))
local macro_rules | `(tactic| walk_at "subscriptTail") => `(tactic| (k_here; (with_reducible show wpAny _ _ (subscriptTail _ _ (Value.bytes (List.toArray _) _) (Value.int (Nat.cast _) _)) _ _ _); (refine my_item (by omega) (by omega) ?_); intro n9 u9 k9 e9 lo9 hi9))
local macro_rules | `(tactic| walk_at "binaryOp Add bytes bytes") => `(tactic| (k_here; (with_reducible show wpAny _ _ (binaryOp Operator.Add (Value.bytes (List.toArray _) _) (Value.bytes (List.toArray _) _)) _ _ _); (refine bytes_add_K (by (try simp only [List.size_toArray, List.length_append, List.length_take, List.length_drop, List.length_cons, List.length_nil]); omega) rfl ?_); intro _ _))
local macro_rules | `(tactic| walk_at "call ref") => `(tactic| (k_here; (with_reducible show wpAny _ (Around.deeper (Around.deeper callerA _) _) (call (Value.ref 42) [Value.ref _, Value.bytes _ _, Value.bytes _ _]) _ _ _); (with_reducible rename Fr _ _ _ _ => F8); (with_reducible rename News _ _ _ _ => N8); (refine compare_tells _ _ _ _ _ _ _ _ _ _ ⟨_, _, _, _, _⟩ _ _ _ _ _ _ _ _ _ _ _ _ _ _ _ (by assumption) (by assumption) (by assumption) rfl rfl F8 N8 ?_); clear F8 N8; intro _ _ _ _ _))
theorem told_pos {a b : UInt8} (h : (0 : Int) < if a < b then (-1 : Int) else if b < a then 1 else 0) : b < a := by
  split at h
  · omega
  · split at h
    · assumption
    · omega
theorem told_not {a b : UInt8} (h : ¬ (0 : Int) < if a < b then (-1 : Int) else if b < a then 1 else 0) : ¬ b < a := by
  intro q
  have n' : ¬ a < b := fun e => Nat.lt_asymm (UInt8.lt_iff_toNat_lt.mp q) (UInt8.lt_iff_toNat_lt.mp e)
  rw [if_neg n', if_pos q] at h
  exact h (by decide)
theorem byte_of {n : Int} {c : UInt8} (e : n = (c.toNat : Int)) : n.toNat.toUInt8 = c := by subst e; simp
theorem Fr.eqv {h₀ h : Heap} {L : Addr} {m m' : Str → Option Value} (F : Fr h₀ L h m) (e : ∀ y, m y = m' y) : Fr h₀ L h m' := (funext e : m = m') ▸ F
theorem smap_set {told : Addr} {vp vo v1 : Option Value} {r q q' : List UInt8} {tr tr' : Tok} {m₁ : Str → Option Value} {vv : Value} (e : q = q') (y : Str) :
    (if y = Str.ofString "row" then some (Value.bytes q.toArray tr') else if y = Str.ofString "pair" then some vv else sMap told vp vo v1 r tr m₁ y) = sMap told (some vv) vo v1 q' tr' m₁ y := by
  subst e
  unfold sMap
  by_cases h : y = Str.ofString "row"
  · subst h
    rw [if_pos rfl, if_neg (by decide), if_neg (by decide), if_neg (by decide), if_pos rfl]
  · rw [if_neg h]
    by_cases h2 : y = Str.ofString "pair"
    · rw [if_pos h2, if_pos h2]
    · rw [if_neg h2, if_neg h2, if_neg h2, if_neg h]
      simp only [if_neg h]
set_option maxRecDepth 100000 in
set_option maxHeartbeats 8000000 in
theorem sorted_turn : ∀ (w : World) (mean : ExcName → Option Value) (mg mb : Str → Option Value) (env0 : Env) (b0 g : Heap) (L : Addr) (m₁ : Str → Option Value) (s : Shared) (x dx l D I : Addr) (oI : Obj) (tk0 t0 t1 : Tok) (i j : Nat) (r : List UInt8) (ti tj tr : Tok) (vp : Option Value) (Q : Flow → Shared → Prop)
    (_ : i < j) (_ : j < 4) (_ : r.length = 4) (_ : Below (callerA.deeper env0) b0 [env0] g) (_ : (Mine.hd.heap_39 w.params).In g) (_ : Top Mine.hd.view_39 (looseW Mine.hd.view_39 []) mean mg mb g)
    (_ : Fr g L s.heap (sMap x vp (some (.int j tj)) (some (.int i ti)) r tr m₁)) (_ : News g L s.heap (toldNews w x dx l D I oI tk0 t0 t1))
    (_ : ∀ h' tk' vp' tr', Fr g L h' (sMap x vp' (some (.int j tj)) (some (.int i ti)) (swp r (i, j)) tr' m₁) → News g L h' (toldNews w x dx l D I oI tk0 t0 t1) → Q .next { s with heap := h', toks := tk' }),
    wpN (model PySem.Challenge.rw_zw0001_01.prog w) ((callerA.deeper env0).deeper (sEnv L)) (execs (forBody (fnBody 5) 1) (sEnv L)) Q noE s := by
  k_fill
  intro w mean mg mb env0 b0 g L m₁ s x dx l D I oI tk0 t0 t1 i j r ti tj tr vp Q hij hj hr B X T F N hret
  have hB : forBody (fnBody 5) 1 = forBody (fnBody 5) 1 := rfl
  conv at hB => rhs; whnf
  have hS : fnScope 5 = fnScope 5 := rfl
  conv at hS => rhs; whnf
  unfold sEnv
  rw [hB, hS]
  clear hB hS
  dsimp only [toldNews] at N hret
  refine wpN_execs_cons (wpN_If (wpN_of ?_))
  k_steps
  · have hlt := told_pos (by assumption)
    rename Fr _ _ _ _ => F₂; rename News _ _ _ _ => N₂
    refine wpN_execs_cons (wpN_Assign_Name (wpN_Call_def (K := Mine.hd.heap_39 w.params) (fv := .ref 21) (by k_is) ?_ ?_))
    · intro Q' hQ'
      k_steps
      exact hQ'
    · refine wpN_of ?_
      k_steps
      have e1 := byte_of (c := r.getD i 0) (by assumption)
      have e2 := byte_of (c := r.getD j 0) (by assumption)
      rw [e1, e2]
      clear e1 e2
      rename Fr _ _ _ _ => F₂; rename News _ _ _ _ => N₂
      with_unfolding_all refine swapN w mean mg mb _ _ _ _ _ _ _ _ _ _ _ _ _ _ _ _ _ _ _ _ B F₂ X T rfl (by exact (by decide : 302 + 1 + 1 < recursionLimit)) (by exact (by decide : 7 + 3 + 8 < cLine)) ?_
      intro t₃ h₃ k₃ hG
      have F₃ := F₂.keeps hG
      have N₃ := N₂.grown hG
      clear F₂ N₂
      k_steps
      refine wpN_of ?_
      k_steps
      dsimp only
      refine wpN_of ?_
      k_steps
      rename Fr _ _ _ _ => F₄; rename News _ _ _ _ => N₄
      exact hret _ _ _ _ (Fr.eqv F₄ fun y => smap_set (swp_yes hr hij hj hlt) y) fun p hp => N₄ p (List.mem_cons_of_mem _ hp)
  · have hge := told_not (by assumption)
    rename Fr _ _ _ _ => F₂; rename News _ _ _ _ => N₂
    refine wpN_of ?_
    k_steps
    have e := swp_no hge
    rw [e] at hret
    dsimp only
    refine wpN_of ?_
    k_steps
    exact hret _ _ _ _ F₂ N₂
end Mine
end

section
open PySem PySem.W PySem.Calls PyProof.Rows
namespace Mine
def forTarget (b : List Stmt) (n : Nat) : Expr := match b[n]? with
  | some (.For t _ _ _ _) => t
  | _ => default
abbrev told4 (w : World) (x dx l D : Addr) (tk0 t0 t1 : Tok) : List (Addr × Obj) :=
  [(x, instObj 45 dx), (dx, dictOf [⟨PyData.keyHash w.params (Str.ofString "comp_select_list"), .str (Str.ofString "comp_select_list") tk0, .ref l⟩] 1), (l, W.listOf #[.ref D] 0), (D, { cls := .type "tuple", data := .seq [Value.int 0 t0, Value.int 1 t1].toArray })]
theorem News.last {h₀ h : Heap} {L : Addr} {a : List (Addr × Obj)} {p : Addr × Obj} (N : News h₀ L h (p :: a)) : News h₀ L h (a ++ [p]) := fun q hq => N q (by
  rcases List.mem_append.mp hq with e | e
  · exact List.mem_cons_of_mem _ e
  · rw [List.mem_singleton.mp e]; exact List.mem_cons_self)
theorem News.first {h₀ h : Heap} {L : Addr} {a : List (Addr × Obj)} {p : Addr × Obj} (N : News h₀ L h (a ++ [p])) : News h₀ L h (p :: a) := fun q hq => N q (by
  rcases List.mem_cons.mp hq with e | e
  · rw [e]; exact List.mem_append_right _ (List.mem_singleton.mpr rfl)
  · exact List.mem_append_left _ e)
theorem smap_two {told : Addr} {vp vo v1 : Option Value} {r : List UInt8} {tr : Tok} {m₁ : Str → Option Value} {wo w1 : Value} (y : Str) :
    (if y = Str.ofString "other" then some wo else if y = Str.ofString "one" then some w1 else sMap told vp vo v1 r tr m₁ y) = sMap told vp (some wo) (some w1) r tr m₁ y := by
  unfold sMap
  by_cases h : y = Str.ofString "pair"
  · subst h
    rw [if_neg (by decide), if_neg (by decide), if_pos rfl, if_pos rfl]
  · rw [if_neg h, if_neg h]
    by_cases h2 : y = Str.ofString "other"
    · rw [if_pos h2, if_pos h2]
    · rw [if_neg h2, if_neg h2, if_neg h2]
      by_cases h3 : y = Str.ofString "one"
      · rw [if_pos h3, if_pos h3]
      · rw [if_neg h3, if_neg h3, if_neg h3]
theorem net_snoc {ps : List (Nat × Nat)} {row : List UInt8} {i : Nat} {p : Nat × Nat} (h : ps[i]? = some p) : net (ps.take (i + 1)) row = swp (net (ps.take i) row) p := by
  unfold net
  rw [List.take_succ, h]
  simp [List.foldl_append]
set_option maxRecDepth 100000 in
set_option maxHeartbeats 8000000 in
theorem sorted_loop : ∀ (w : World) (mean : ExcName → Option Value) (mg mb : Str → Option Value) (env0 : Env) (b0 g : Heap) (L : Addr) (m₁ : Str → Option Value) (x dx l D I c : Addr) (its : List Value) (tk0 t0 t1 : Tok) (ps : List (Nat × Nat)) (row : List UInt8) (R : Result → Shared → Prop)
    (_ : Below (callerA.deeper env0) b0 [env0] g) (_ : (Mine.hd.heap_39 w.params).In g) (_ : Top Mine.hd.view_39 (looseW Mine.hd.view_39 []) mean mg mb g)
    (_ : g.IsList c its.toArray) (_ : PairsAt g its ps) (_ : ∀ p ∈ ps, GoodPair p) (_ : row.length = 4) (_ : ∀ p ∈ told4 w x dx l D tk0 t0 t1, p.1 ≠ I)
    (n i : Nat) (s : Shared) (oI : Obj) (vp vo v1 : Option Value) (tr : Tok) (_ : i + n = ps.length) (_ : IsIt oI c i)
    (_ : Fr g L s.heap (sMap x vp vo v1 (net (ps.take i) row) tr m₁)) (_ : News g L s.heap (toldNews w x dx l D I oI tk0 t0 t1))
    (_ : ∀ h' tk' vp' vo' v1' tr', Fr g L h' (sMap x vp' vo' v1' (net ps row) tr' m₁) → News g L h' (told4 w x dx l D tk0 t0 t1) → R (.ok .next) { s with heap := h', toks := tk' }),
    codeN (model PySem.Challenge.rw_zw0001_01.prog w) ((callerA.deeper env0).deeper (sEnv L)) (.forLoop (forTarget (fnBody 5) 1) (.ref I) (forBody (fnBody 5) 1) [] (sEnv L)) R s := by
  k_fill
  intro w mean mg mb env0 b0 g L m₁ x dx l D I c its tk0 t0 t1 ps row R B X T hc hps hgood hrow hne n
  have hT : forTarget (fnBody 5) 1 = forTarget (fnBody 5) 1 := rfl
  conv at hT => rhs; whnf
  have hS : sEnv = sEnv := rfl
  induction n with
  | zero =>
    intro i s oI vp vo v1 tr hi hI F N hret
    have hg : s.heap.IsList c its.toArray := by obtain ⟨o, e, r⟩ := hc; exact ⟨o, F.keep _ _ e, r⟩
    refine codeN_for_step (wpN_of (next_list_end rfl hI F (News.first (a := told4 w x dx l D tk0 t0 t1) N) hne hg ?_ ?_))
    · rw [List.getElem?_toArray, List.getElem?_eq_none]
      rw [hps.1]; omega
    · intro h' F' N' _
      dsimp only
      have e : ps.take i = ps := by rw [List.take_of_length_le]; omega
      rw [e] at F'
      exact hret _ _ _ _ _ _ F' N'
  | succ n ih =>
    intro i s oI vp vo v1 tr hi hI F N hret
    have hg : s.heap.IsList c its.toArray := by obtain ⟨o, e, r⟩ := hc; exact ⟨o, F.keep _ _ e, r⟩
    have hil : i < its.length := by rw [hps.1]; omega
    have hpl : i < ps.length := by omega
    have hv : its[i]? = some its[i] := List.getElem?_eq_getElem hil
    have hp : ps[i]? = some ps[i] := List.getElem?_eq_getElem hpl
    obtain ⟨a, ta, tb, ea, hta⟩ := hps.2 i _ _ hv hp
    obtain ⟨hp1, hp2⟩ := hgood _ (List.getElem_mem hpl)
    rw [ea] at hv
    refine codeN_for_step (wpN_of (next_list_item hI F (News.first (a := told4 w x dx l D tk0 t0 t1) N) hne hg (v := .ref a) (by rw [List.getElem?_toArray]; exact hv) ?_))
    intro oI' h₁ hI' F₁ N₁ _
    dsimp only
    rw [hT]
    refine wpN_of (owned_list hI' (N₁ _ List.mem_cons_self).1 ?_)
    have hta' : IsTup h₁ a #[.int (ps[i].1 : Int) ta, .int (ps[i].2 : Int) tb] := by obtain ⟨o, e, r⟩ := hta; exact ⟨o, F₁.keep _ _ e, r⟩
    refine wpN_of (assign_pair rfl F₁ N₁ hta' rfl ?_)
    intro h₂ F₂ N₂ _
    k_steps
    rename Fr _ _ _ _ => F₃; rename News _ _ _ _ => N₃
    refine sorted_turn w mean mg mb env0 b0 g L m₁ ⟨_, _, _, _, _⟩ x dx l D I oI' tk0 t0 t1 ps[i].1 ps[i].2 (net (ps.take i) row) ta tb tr vp _ hp1 hp2 (by rw [net_length]; exact hrow) B X T (Fr.eqv F₃ fun y => smap_two y) (News.last N₃) ?_
    intro h₄ k₄ vp₄ tr₄ F₄ N₄
    dsimp only
    rw [← hT]
    rw [← net_snoc hp] at F₄
    exact ih (i + 1) _ oI' _ _ _ _ (by omega) hI' F₄ N₄ hret
theorem smap_start {ps : List (Nat × Nat)} {told c : Addr} {row : List UInt8} {t : Tok} (y : Str) :
    (if y = Str.ofString "told" then some (Value.ref told) else List.lookup y [(Str.ofString "row", Value.bytes row.toArray t), (Str.ofString "comparisons", Value.ref c)]) = sMap told none none none (net (List.take 0 ps) row) t (fun y => if y = Str.ofString "comparisons" then some (Value.ref c) else none) y := by
  unfold sMap
  by_cases h1 : y = Str.ofString "pair"
  · subst h1; rfl
  by_cases h2 : y = Str.ofString "other"
  · subst h2; rfl
  by_cases h3 : y = Str.ofString "one"
  · subst h3; rfl
  by_cases h4 : y = Str.ofString "row"
  · subst h4; rfl
  by_cases h5 : y = Str.ofString "told"
  · subst h5; rfl
  by_cases h6 : y = Str.ofString "comparisons"
  · subst h6; rfl
  rw [if_neg h1, if_neg h2, if_neg h3, if_neg h4, if_neg h5, if_neg h5]
  have e1 : (y == Str.ofString "row") = false := by simpa using h4
  have e2 : (y == Str.ofString "comparisons") = false := by simpa using h6
  simp only [List.lookup, e1, e2, if_neg h6]
set_option maxRecDepth 100000 in
set_option maxHeartbeats 8000000 in
theorem sortedN : ∀ (w : World) (mean : ExcName → Option Value) (mg mb : Str → Option Value) (env0 : Env) (L₀ : Addr) (h₀ : Heap) (m : Str → Option Value) (s : Shared) (c : Addr) (its : List Value) (ps : List (Nat × Nat)) (row : List UInt8) (t : Tok) (Q E : Value → Shared → Prop)
    (_ : env0.frame = some L₀) (_ : env0.scope.kind = .function) (_ : Below callerA h₀ [] h₀) (_ : Fr h₀ L₀ s.heap m) (_ : (Mine.hd.heap_39 w.params).In h₀) (_ : Top Mine.hd.view_39 (looseW Mine.hd.view_39 []) mean mg mb h₀)
    (_ : s.heap.IsList c its.toArray) (_ : PairsAt s.heap its ps) (_ : ∀ p ∈ ps, GoodPair p) (_ : row.length = 4)
    (_ : ∀ t h' tk', Grow s.heap h' → Q (.bytes (net ps row).toArray t) { s with heap := h', toks := tk' }),
    wpN (model PySem.Challenge.rw_zw0001_01.prog w) (callerA.deeper env0) (call (.ref 56) [.ref c, .bytes row.toArray t]) Q E s := by
  k_fill
  intro w mean mg mb env0 L₀ h₀ m s c its ps row t Q E hf hk B F X T hc hps hgood hrow hret
  have hT : forTarget (fnBody 5) 1 = forTarget (fnBody 5) 1 := rfl
  conv at hT => rhs; whnf
  have hB : forBody (fnBody 5) 1 = forBody (fnBody 5) 1 := rfl
  conv at hB => rhs; whnf
  have hS : fnScope 5 = fnScope 5 := rfl
  conv at hS => rhs; whnf
  refine wpN_call ?_
  with_unfolding_all (refine' code_defN ?k1 ?k2 ?k3 ?k5 ?kA ?kF ?kK ?k6 ?k7 ?k8 ?k9 ?kB ?_ ?c2 ?c3 ?c4 ?c5; (case kA => exact rfl); (case kF => exact hf); (case kK => exact hk); (case k1 => k_asm); (case k2 => k_asm); (case k3 => k_asm); (case k5 => k_asm); (case k6 => k_is); (case k7 => k_is); (case k8 => k_room); (case k9 => exact BindsTo.of_eq rfl); (case c5 => decide); (case kB => exact locs rfl); (case c2 => exact rfl); (case c3 => exact rfl); (case c4 => exact rfl); k_whole; intro g' L' h' hG F' N' B' X' T'; (try dsimp only))
  refine wpN_execs_cons (wpN_of ?_)
  k_steps
  refine wpN_execs_cons (wpN_For (wpN_of ?_))
  k_steps
  have hc' : g'.IsList c its.toArray := by rw [hG]; exact hc
  have hps' : PairsAt g' its ps := by rw [hG]; exact hps
  rename Fr g' L' _ _ => F₂; rename News g' L' _ _ => N₂
  refine wpN_of (iter_list (by obtain ⟨o, e, r⟩ := hc'; exact ⟨o, F₂.keep _ _ e, r⟩) F₂ N₂ fun I oI h₂ hI F₃ N₃ hIne _ _ => ?_)
  rw [← hS, ← hT, ← hB]
  refine sorted_loop w mean mg mb env0 _ g' L' _ _ _ _ _ I c its _ _ _ ps row _ B' X' T' hc' hps' hgood hrow (fun p hp => Nat.ne_of_lt (hIne p hp)) ps.length 0 ⟨_, _, _, _, _⟩ oI none none none t (by omega) hI (Fr.eqv F₃ fun y => smap_start y) (News.last N₃) ?_
  intro h₄ k₄ vp₄ vo₄ v1₄ tr₄ F₄ N₄
  dsimp only
  rw [hS]
  refine wpN_of ?_
  k_steps
  rename Fr g' L' _ _ => F₅
  exact hret _ _ _ fun b o e => F₅.keep b o (hG ▸ e)
end Mine
end

section
open PySem PySem.W PySem.Calls PyProof.Rows PyProof.Rows.LCg
set_option maxRecDepth 100000
namespace Mine
section
variable {prog : Program} {w : World} {A : Around} {E : Value → Shared → Prop} {s : Shared} {R : Result → Shared → Prop} {h₀ : Heap} {L : Addr} {m : Str → Option Value} {news : List (Addr × Obj)} {env : Env}

def endN (Mo : Model) (A : Around) (E : Value → Shared → Prop) (use : Option (Value → Sem Unit)) (Q : Value → Shared → Prop) (acc : Value) (C : Addr) (r : Result) (s' : Shared) : Prop :=
  match r, use with
  | .ok _, none => ∃ m, s'.heap.Ns C m ∧ ∀ h', Heap.SameBut C s'.heap h' → Q acc { s' with heap := h' }
  | .ok _, some u => wpAny Mo A (u acc) (fun _ s'' => ∃ m, s''.heap.Ns C m ∧ ∀ h', Heap.SameBut C s''.heap h' → Q .none { s'' with heap := h' }) E s'
  | .error _, _ => False
theorem wpN_standIf {α : Type} {Mo : Model} {c : Prop} [Decidable c] {pos : Pos} {k : PUnit → Sem α} {Q : α → Shared → Prop} (h : wpN Mo A (k ()) Q E s) : wpN Mo A (if c then (standAt pos >>= k) else k ()) Q E s := by
  split
  · exact wpN_step (wpAny_standAt h)
  · exact h
/-- a comprehension's frame in N -/
theorem compN {Mo : Model} {e : Expr} {scope : Scope} {pos : Pos} {newAcc first : Sem Value} {g : Comprehension} {gs : List Comprehension} {cl : List (Str × Addr)} {use : Option (Value → Sem Unit)} {Q : Value → Shared → Prop}
    (hcl : clausesOf e = g :: gs) (hs : ∀ x, foldedSetIterable g.iter env x = pure x) (hclos : closureFor scope env = pure cl)
    (hkind : scope.kind = .function) (hnames : ∀ x ∈ scope.names, x.2 = .local → scope.names.lookup x.1 = some .local)
    (h : wpN Mo A first (fun x s₁ => wpN Mo A (pyIter x) (fun it s₂ => wpAny Mo A newAcc (fun acc s₃ =>
      wpAny Mo A (newFunctionEnv scope env.globals cl [] env.qual none .none (some env)) (fun cenv s₄ =>
        codeN Mo A (.compStart e 0 it acc { cenv with scope := relabel scope env }) (endN Mo A E use Q acc cenv.locals) s₄) E s₃) E s₂) E s₁) E s) :
    wpN Mo A (comprehension e scope env pos newAcc false first use) Q E s := by
  unfold comprehension
  rw [hclos, hcl]
  refine wpN_bind (wpN_mono h (fun x s₁ h₁ => ?_) fun _ _ h' => h')
  refine wpN_step (wpAny_standAt (wpN_step (wpAny_of_eq (hs x) (wpN_bind (wpN_holding (wpN_mono h₁ (fun it s₂ h₂ => ?_) fun _ _ h' => h'))))))
  refine wpN_standIf (wpN_step (wpAny_mono h₂ (fun acc s₃ h₃ => wpN_step (wpAny_pure (wpN_step (wpAny_mono h₃ (fun cenv s₄ h₄ => ?_) fun _ _ h' => h')))) fun _ _ h' => h'))
  · skip
    dsimp only
    have hv : ∀ x ∈ (scope.names.filter fun x => (x.2 == .local || x.2 == .cell) && x.1 != (".0" : Str)).reverse, x.2 = .local →
        Env.kindOf { cenv with scope := relabel scope env } x.1 = some .local := fun x hx hl => lookup_relabel_local (hnames x (List.mem_filter.mp (List.mem_reverse.mp hx)).1 hl)
    have hv' : ∀ x ∈ (scope.names.filter fun x => (x.2 == .local || x.2 == .cell) && x.1 != (".0" : Str)).reverse.drop 1 ++ (scope.names.filter fun x => (x.2 == .local || x.2 == .cell) && x.1 != (".0" : Str)).reverse.take 1,
        x.2 = .local → Env.kindOf { cenv with scope := relabel scope env } x.1 = some .local := fun x hx hl => by
      rcases List.mem_append.mp hx with h1 | h1
      · exact hv x (List.mem_of_mem_drop h1) hl
      · exact hv x (List.mem_of_mem_take h1) hl
    refine wpN_holding (wpN_bind (wpN_attempt (wpN_holding (wpN_run (codeN_mono h₄ fun r s' hr => ?_)))))
    cases r with
    | ok f =>
      cases use with
      | none =>
        obtain ⟨m, hn, hr⟩ := hr
        exact wpN_step (wpAny_holding (wpAny_comp_letGo (cenv := { cenv with scope := relabel scope env }) hkind _ s' m hv hn fun h' m' _ hs' => wpN_pure (hr h' hs')))
      | some u =>
        refine wpN_step (wpAny_rule (wpN_step (wpAny_holding (wpAny_mono hr (fun _ s'' hr' => ?_) fun _ _ h' => h'))))
        obtain ⟨m, hn, hr'⟩ := hr'
        exact wpN_step (wpAny_comp_letGo (cenv := { cenv with scope := relabel scope env }) hkind _ s'' m hv' hn fun h' m' _ hs' => wpN_pure (hr' h' hs'))
    | error x => cases use <;> exact hr.elim
section
variable {elt : Expr} {gens : List Comprehension} {scope : Scope} {pos : Pos}
/-- the clause's start -/
theorem startN {depth : Nat} {it acc : Value} (g : Comprehension) (hg : gens[depth]? = some g) (ha : g.is_async = 0)
    (h0 : codeN (model prog w) A (.compLoop (.ListComp elt gens scope pos) depth it acc env) R s)
    (h : wpAny (model prog w) A (pyIter it) (fun it' s' => codeN (model prog w) A (.compLoop (.ListComp elt gens scope pos) depth it' acc env) R s') noE s) : codeN (model prog w) A (.compStart (.ListComp elt gens scope pos) depth it acc env) R s := by
  refine codeN_of_tree rfl ?_
  show wpN _ _ ((compStart (.ListComp elt gens scope pos) depth it acc env).onRaise (fun x => do noteFrame x env; standAt theWindowsPlace)) _ _ s
  refine wpN_onRaise' ?_
  unfold compStart
  have hc : (clausesOf (.ListComp elt gens scope pos))[depth]? = some g := hg
  rw [hc]
  simp only [Option.elim, ha, bne_self_eq_false, Bool.false_eq_true, if_false]
  refine wpN_step (wpAny_askSetting ?_)
  split
  · exact wpN_pure ⟨rfl, h0⟩
  · exact wpN_step (wpAny_rule (wpN_step (wpAny_standAt (wpN_step (wpAny_mono h (fun it' s' h' => wpN_pure ⟨rfl, h'⟩) fun _ _ x => x)))))
theorem turnN_last {depth : Nat} {it acc : Value} (g : Comprehension) (hg : gens[depth]? = some g) (ha : g.is_async = 0) (hl : gens[depth + 1]? = none)
    (h : wpN (model prog w) A (pyNext it) (fun r s₁ => match r with
      | none => R (.ok .next) s₁
      | some v => wpN (model prog w) A (letOwnedTupleGo g.target it v) (fun _ s₂ => wpN (model prog w) A (assign g.target env v) (fun _ s₃ =>
          wpN (model prog w) A (forIn g.ifs true fun c r => if r = true then do let ok ← isTrue c env (eval c env); pure (ForInStep.yield ok) else pure (ForInStep.yield r)) (fun ok s₄ =>
            if ok = true then wpN (model prog w) A (eval elt env) (fun y s₅ => wpAny (model prog w) A (call (.builtin "list.append") [acc, y]) (fun _ s₆ => codeN (model prog w) A (.compLoop (.ListComp elt gens scope pos) depth it acc env) R s₆) noE s₅) noE s₄
            else codeN (model prog w) A (.compLoop (.ListComp elt gens scope pos) depth it acc env) R s₄) noE s₃) noE s₂) noE s₁) noE s) :
    codeN (model prog w) A (.compLoop (.ListComp elt gens scope pos) depth it acc env) R s := by
  refine codeN_of_tree rfl ?_
  show wpN _ _ ((compTurn (.ListComp elt gens scope pos) depth it acc env).onRaise (fun x => do noteFrame x env; theTreesLotGoes x)) _ _ s
  refine wpN_onRaise' ?_
  unfold compTurn
  dsimp only
  rw [hg]
  simp only [ha, bne_self_eq_false, Bool.false_eq_true, if_false]
  refine wpN_step (wpAny_standAt (wpN_bind (wpN_mono h (fun r s₁ h₁ => ?_) fun _ _ x => x)))
  cases r with
  | none => exact wpN_pure h₁
  | some v =>
    dsimp only
    refine wpN_bind (wpN_mono h₁ (fun _ s₂ h₂ => wpN_bind (wpN_mono h₂ (fun _ s₃ h₃ => wpN_bind (wpN_mono h₃ (fun ok s₄ h₄ => ?_) fun _ _ x => x)) fun _ _ x => x)) fun _ _ x => x)
    cases ok with
    | false => exact wpN_pure ⟨rfl, h₄⟩
    | true =>
      simp only [if_true] at h₄ ⊢
      rw [hl]
      refine wpN_bind (wpN_bind (wpN_mono h₄ (fun y s₅ h₅ => wpN_step (wpAny_mono h₅ (fun _ s₆ h₆ => wpN_pure (wpN_pure ⟨rfl, h₆⟩)) fun _ _ x => x)) fun _ _ x => x))
theorem turnN_more {depth : Nat} {it acc : Value} (g : Comprehension) (hg : gens[depth]? = some g) (ha : g.is_async = 0) (g' : Comprehension) (hl : gens[depth + 1]? = some g') (ha' : g'.is_async = 0) (hs : ∀ x, foldedSetIterable g'.iter env x = pure x)
    (h : wpN (model prog w) A (pyNext it) (fun r s₁ => match r with
      | none => R (.ok .next) s₁
      | some v => wpN (model prog w) A (letOwnedTupleGo g.target it v) (fun _ s₂ => wpN (model prog w) A (assign g.target env v) (fun _ s₃ =>
          wpN (model prog w) A (forIn g.ifs true fun c r => if r = true then do let ok ← isTrue c env (eval c env); pure (ForInStep.yield ok) else pure (ForInStep.yield r)) (fun ok s₄ =>
            if ok = true then wpN (model prog w) A (eval g'.iter env) (fun x s₅ => wpN (model prog w) A (pyIter x) (fun it' s₆ => codeN (model prog w) A (.compStart (.ListComp elt gens scope pos) (depth + 1) it' acc env) (fun r s' => match r with
                | .ok _ => codeN (model prog w) A (.compLoop (.ListComp elt gens scope pos) depth it acc env) R s'
                | .error _ => False) s₆) noE s₅) noE s₄
            else codeN (model prog w) A (.compLoop (.ListComp elt gens scope pos) depth it acc env) R s₄) noE s₃) noE s₂) noE s₁) noE s) :
    codeN (model prog w) A (.compLoop (.ListComp elt gens scope pos) depth it acc env) R s := by
  refine codeN_of_tree rfl ?_
  show wpN _ _ ((compTurn (.ListComp elt gens scope pos) depth it acc env).onRaise (fun x => do noteFrame x env; theTreesLotGoes x)) _ _ s
  refine wpN_onRaise' ?_
  unfold compTurn
  dsimp only
  rw [hg]
  simp only [ha, bne_self_eq_false, Bool.false_eq_true, if_false]
  refine wpN_step (wpAny_standAt (wpN_bind (wpN_mono h (fun r s₁ h₁ => ?_) fun _ _ x => x)))
  cases r with
  | none => exact wpN_pure h₁
  | some v =>
    dsimp only
    refine wpN_bind (wpN_mono h₁ (fun _ s₂ h₂ => wpN_bind (wpN_mono h₂ (fun _ s₃ h₃ => wpN_bind (wpN_mono h₃ (fun ok s₄ h₄ => ?_) fun _ _ x => x)) fun _ _ x => x)) fun _ _ x => x)
    cases ok with
    | false => exact wpN_pure ⟨rfl, h₄⟩
    | true =>
      simp only [if_true] at h₄ ⊢
      rw [hl]
      simp only [ha', bne_self_eq_false, Bool.false_eq_true, if_false]
      refine wpN_bind (wpN_mono h₄ (fun x s₅ h₅ => wpN_step (wpAny_standAt (wpN_step (wpAny_of_eq (hs x) (wpN_bind (wpN_holding (wpN_mono h₅ (fun it' s₆ h₆ => ?_) fun _ _ x => x))))))) fun _ _ x => x)
      refine wpN_bind (wpN_runOwn (codeN_mono h₆ fun r s' hr => ?_))
      cases r with
      | ok f => exact wpN_pure ⟨rfl, hr⟩
      | error e => exact hr.elim
end
end
end Mine
end

section
open PySem PySem.W PySem.Calls PyProof.Rows PyProof.Rows.LCg
set_option maxRecDepth 100000
namespace Mine
section
variable {prog : Program} {w : World} {A : Around} {E : Value → Shared → Prop} {s : Shared} {R : Result → Shared → Prop} {h₀ : Heap} {L : Addr} {m : Str → Option Value} {news : List (Addr × Obj)} {env : Env}
/-- the state between two turns of a comprehension's clause -/
def TE (h₀ : Heap) (L : Addr) (m : Str → Option Value) (s : Shared) (I C D : Addr) (J : Nat → List Value → List (Addr × Obj) → (Str → Option Value) → Prop) (i : Nat) (oI : Obj) (s' : Shared) : Prop :=
  ∃ h tk ys nw m₂ oC, s' = { s with heap := h, toks := tk } ∧ J i ys nw m₂ ∧ NsObj oC m₂ ∧ Fr h₀ L h m ∧ News h₀ L h ((I, oI) :: (C, oC) :: (D, lst ys) :: nw) ∧ Off3 I C D nw
def tests (ifs : List Expr) (env : Env) : Sem Bool := forIn ifs true fun c r => if r = true then do let ok ← isTrue c env (eval c env); pure (ForInStep.yield ok) else pure (ForInStep.yield r)
theorem clauseN {tgt : Expr} {ifs : List Expr} {cenv : Env} {I C D : Addr} {fp : List Addr} {n : Nat} {P : Nat → Value → Prop} {St : Nat → Heap → Prop} {S : List (Addr × Obj) → Prop} {INN : (Shared → Prop) → Shared → Prop} {LP : Shared → Prop}
    (W : Walks prog w A I fp [I] n P St) (hIo : ∀ i h, St i h → ∃ o, h.get? I = some o)
    (hSt : ∀ i h h' o nw, St i h → h.get? I = some o → h'.get? I = some o → (∀ b o, h₀.get? b = some o → h'.get? b = some o) → News h₀ L h' nw → S nw → St i h')
    (hIL : L ≠ I) (hI₀ : h₀.get? I = none) (hIC : I ≠ C) (hID : I ≠ D) (hT : ∀ v, letOwnedTupleGo tgt (.ref I) v = pure ())
    (hmono : ∀ (K K' : Shared → Prop) s, (∀ s, K s → K' s) → INN K s → INN K' s)
    (hstep : ∀ s, wpN (model prog w) A (pyNext (.ref I)) (fun r s₁ => match r with
      | none => R (.ok .next) s₁
      | some v => wpN (model prog w) A (letOwnedTupleGo tgt (.ref I) v) (fun _ s₂ => wpN (model prog w) A (assign tgt cenv v) (fun _ s₃ =>
          wpN (model prog w) A (tests ifs cenv) (fun ok s₄ => if ok = true then INN LP s₄ else LP s₄) noE s₃) noE s₂) noE s₁) noE s → LP s)
    (J : Nat → List Value → List (Addr × Obj) → (Str → Option Value) → Prop) (hJS : ∀ i ys nw m₂, J i ys nw m₂ → S nw)
    (turn : ∀ i v ys nw m₂ oI oC h tk, i < n → P i v → J i ys nw m₂ → NsObj oC m₂ → Fr h₀ L h m → News h₀ L h ((I, oI) :: (C, oC) :: (D, lst ys) :: nw) → Off3 I C D nw →
      wpN (model prog w) A (assign tgt cenv v) (fun _ s₃ => wpN (model prog w) A (tests ifs cenv) (fun ok s₄ => if ok = true then INN (TE h₀ L m s I C D J (i + 1) oI) s₄ else TE h₀ L m s I C D J (i + 1) oI s₄) noE s₃) noE { s with heap := h, toks := tk })
    (fin : ∀ ys nw m₂ oC h tk, J n ys nw m₂ → NsObj oC m₂ → Fr h₀ L h m → News h₀ L h ((C, oC) :: (D, lst ys) :: nw) → Off3 I C D nw → R (.ok .next) { s with heap := h, toks := tk })
    (k : Nat) : ∀ i ys nw m₂ oC h tk, i + k = n → J i ys nw m₂ → St i h → NsObj oC m₂ → Fr h₀ L h m → News h₀ L h ((C, oC) :: (D, lst ys) :: nw) → Off3 I C D nw → LP { s with heap := h, toks := tk } := by
  have step : ∀ h h', (∀ b o, b ∉ [I] → Heap.get? h b = some o → Heap.get? h' b = some o) → ∀ {nw : List (Addr × Obj)} {oC : Obj} {ys : List Value}, News h₀ L h ((C, oC) :: (D, lst ys) :: nw) → Off3 I C D nw → News h₀ L h' ((C, oC) :: (D, lst ys) :: nw) := by
    intro h h' hk nw oC ys N off
    refine news_but N hk fun p hp => ?_
    rcases List.mem_cons.mp hp with rfl | hp
    · exact Ne.symm hIC
    · rcases List.mem_cons.mp hp with rfl | hp
      · exact Ne.symm hID
      · exact (off.mem p hp).1
  induction k with
  | zero =>
    intro i ys nw m₂ oC h tk hi hJ hst hC F N off
    have hi' : i = n := hi
    subst hi'
    refine hstep _ (wpN_of (W.done _ _ _ hst fun h' tk' hk => ?_))
    exact fin ys nw m₂ oC h' tk' hJ hC (fr_but F hk hIL hI₀) (step h h' hk N off) off
  | succ k ih =>
    intro i ys nw m₂ oC h tk hi hJ hst hC F N off
    have hlt : i < n := by omega
    refine hstep _ (wpN_of (W.item i _ _ _ hlt hst fun v h₂ tk₂ hP hst₂ hk => ?_))
    obtain ⟨oI, heI⟩ := hIo _ _ hst₂
    have N₂ := step h h₂ hk N off
    have F₂ := fr_but F hk hIL hI₀
    refine wpN_of (wpAny_of_eq (hT v) ?_)
    have cont : ∀ s₄, TE h₀ L m s I C D J (i + 1) oI s₄ → LP s₄ := by
      rintro s₄ ⟨h₅, tk₅, ys₅, nw₅, m₅, oC₅, rfl, hJ₅, hC₅, F₅, N₅, off₅⟩
      have zI := (N₅ (I, oI) List.mem_cons_self).1
      refine ih (i + 1) ys₅ nw₅ m₅ oC₅ h₅ tk₅ (by omega) hJ₅ ?_ hC₅ F₅ (fun p hp => N₅ p (List.mem_cons_of_mem _ hp)) off₅
      exact hSt _ _ _ _ nw₅ hst₂ heI zI F₅.keep (fun p hp => N₅ p (List.mem_cons_of_mem _ (List.mem_cons_of_mem _ (List.mem_cons_of_mem _ hp)))) (hJS _ _ _ _ hJ₅)
    refine wpN_mono (turn i v ys nw m₂ oI oC h₂ tk₂ hlt hP hJ hC F₂ (fun p hp => ?_) off) (fun _ s₃ h₃ => wpN_mono h₃ (fun ok s₄ h₄ => ?_) fun _ _ x => x) fun _ _ x => x
    · rcases List.mem_cons.mp hp with rfl | hp
      · exact ⟨heI, Ne.symm hIL, hI₀⟩
      · exact N₂ p hp
    · cases ok with
      | false => exact cont _ h₄
      | true => exact hmono _ _ _ cont h₄
/-- the local name takes its value -/
theorem assignL {x : Str} {px : Pos} {v : Value} {cenv : Env} {C : Addr} {m₂ : Str → Option Value} {oC : Obj} {pre post : List (Addr × Obj)} {Q : Unit → Shared → Prop} (hx : cenv.kindOf x = some .local) (hl : cenv.locals = C)
    (hp : (cenv.scope.kind == .class || (cenv.scope.kind == .module && cenv.locals != cenv.globals)) = false) (hC : NsObj oC m₂) (F : Fr h₀ L s.heap m) (N : News h₀ L s.heap (pre ++ (C, oC) :: post)) (hpre : ∀ p ∈ pre, p.1 ≠ C) (hpost : ∀ p ∈ post, p.1 ≠ C)
    (h : ∀ oC' h' tk', NsObj oC' (fun y => if y = x then some v else m₂ y) → Fr h₀ L h' m → News h₀ L h' (pre ++ (C, oC') :: post) → Q () { s with heap := h', toks := tk' }) : wpAny (model prog w) A (assign (.Name x px) cenv v) Q E s := by
  have nC := N (C, oC) (List.mem_append_right _ List.mem_cons_self)
  subst hl
  refine wpAny_assign_Name (wpAny_storeName_local hx (hC.ns nC.1) (fun h' hn hs => ?_) hp)
  obtain ⟨oC', e, hC'⟩ := ns_obj hn
  exact h oC' h' _ hC' (F.change hs nC.2.1 nC.2.2) (News.mid N hs e hpre hpost)
end
end Mine
end

section
open PySem PySem.W PySem.Calls PyProof.Rows PyProof.Rows.LCg
set_option maxRecDepth 100000
namespace Mine
section
variable {prog : Program} {w : World} {A : Around} {E : Value → Shared → Prop} {s : Shared} {R : Result → Shared → Prop} {h₀ : Heap} {L : Addr} {m : Str → Option Value} {news : List (Addr × Obj)} {env : Env}
abbrev innLast (prog : Program) (w : World) (A : Around) (elt : Expr) (cenv : Env) (D : Addr) (K : Shared → Prop) (s : Shared) : Prop :=
  wpN (model prog w) A (eval elt cenv) (fun y s₅ => wpAny (model prog w) A (call (.builtin "list.append") [.ref D, y]) (fun _ s₆ => K s₆) noE s₅) noE s
theorem innLast_mono {elt : Expr} {cenv : Env} {D : Addr} (K K' : Shared → Prop) (s : Shared) (h : ∀ s, K s → K' s) (q : innLast prog w A elt cenv D K s) : innLast prog w A elt cenv D K' s :=
  wpN_mono q (fun _ _ q => wpAny_mono q (fun _ s q => h s q) fun _ _ x => x) fun _ _ x => x
theorem stepLast {elt tgt iter : Expr} {ifs : List Expr} {gens : List Comprehension} {scope : Scope} {pos : Pos} {depth : Nat} {it : Value} {D : Addr} (hg : gens[depth]? = some ⟨tgt, iter, ifs, 0⟩) (hl : gens[depth + 1]? = none)
    (h : wpN (model prog w) A (pyNext it) (fun r s₁ => match r with
      | none => R (.ok .next) s₁
      | some v => wpN (model prog w) A (letOwnedTupleGo tgt it v) (fun _ s₂ => wpN (model prog w) A (assign tgt env v) (fun _ s₃ =>
          wpN (model prog w) A (tests ifs env) (fun ok s₄ => if ok = true then innLast prog w A elt env D (codeN (model prog w) A (.compLoop (.ListComp elt gens scope pos) depth it (.ref D) env) R) s₄
            else codeN (model prog w) A (.compLoop (.ListComp elt gens scope pos) depth it (.ref D) env) R s₄) noE s₃) noE s₂) noE s₁) noE s) :
    codeN (model prog w) A (.compLoop (.ListComp elt gens scope pos) depth it (.ref D) env) R s := turnN_last _ hg rfl hl h
def TEy (h₀ : Heap) (L : Addr) (m : Str → Option Value) (s : Shared) (I C D : Addr) (J : Nat → List Value → List (Addr × Obj) → (Str → Option Value) → Prop) (i : Nat) (oI : Obj) (y : Value) (s' : Shared) : Prop :=
  ∃ h tk ys nw m₂ oC, s' = { s with heap := h, toks := tk } ∧ J i (ys ++ [y]) nw m₂ ∧ NsObj oC m₂ ∧ Fr h₀ L h m ∧ News h₀ L h ((I, oI) :: (C, oC) :: (D, lst ys) :: nw) ∧ Off3 I C D nw ∧ ys.length ≤ sizeLine
theorem emitN {elt : Expr} {cenv : Env} {I C D : Addr} {J : Nat → List Value → List (Addr × Obj) → (Str → Option Value) → Prop} {i : Nat} {oI : Obj} {s₀ : Shared} (hID : I ≠ D) (hCD : C ≠ D)
    (h : wpN (model prog w) A (eval elt cenv) (TEy h₀ L m s₀ I C D J i oI) noE s) : innLast prog w A elt cenv D (TE h₀ L m s₀ I C D J i oI) s := by
  refine wpN_mono h (fun y s₅ h₅ => ?_) fun _ _ x => x
  obtain ⟨h, tk, ys, nw, m₂, oC, rfl, hJ, hC, F, N, off, hsz⟩ := h₅
  have zD := N (D, lst ys) (List.mem_cons_of_mem _ (List.mem_cons_of_mem _ List.mem_cons_self))
  refine append_at (hsz := by show ys.toArray.size ≤ sizeLine; rw [List.size_toArray]; exact hsz) zD.1 fun h₆ hs₆ hD₆ => ?_
  rw [lst_snoc] at hD₆
  refine ⟨h₆, tk, ys ++ [y], nw, m₂, oC, rfl, hJ, hC, F.change hs₆ zD.2.1 zD.2.2, ?_, off⟩
  exact News.mid (pre := [(I, oI), (C, oC)]) N hs₆ hD₆ (by intro p hp; rcases List.mem_cons.mp hp with rfl | hp; exact hID; rw [List.mem_singleton.mp hp]; exact hCD) fun p hp => (off.mem p hp).2.2
/-- from the accumulator to the end -/
theorem blockN {elt tgt iter : Expr} {ifs : List Expr} {grest : List Comprehension} {scope : Scope} {cl : List (Str × Addr)} {pos : Pos} {I : Addr} {fp : List Addr} {n : Nat} {P : Nat → Value → Prop} {St : Nat → Heap → Prop} {S : List (Addr × Obj) → Prop}
    {INN : Addr → Addr → (Shared → Prop) → Shared → Prop} {use : Option (Value → Sem Unit)} {Q : Value → Shared → Prop}
    (W : Walks prog w A I fp [I] n P St) (hIo : ∀ i h, St i h → ∃ o, h.get? I = some o)
    (hSt : ∀ i h h' o nw, St i h → h.get? I = some o → h'.get? I = some o → (∀ b o, h₀.get? b = some o → h'.get? b = some o) → News h₀ L h' nw → S nw → St i h')
    (hcell : ∀ y ∈ scope.names, y.2 ≠ .cell) (hkind : scope.kind = .function) (hst : St 0 s.heap) (hfp : ∀ b ∈ fp, b < s.heap.objs.size)
    (F : Fr h₀ L s.heap m) (N : News h₀ L s.heap news) (hIL : L ≠ I) (hI₀ : h₀.get? I = none) (off : ∀ p ∈ news, p.1 ≠ I)
    (hT : ∀ v, letOwnedTupleGo tgt (.ref I) v = pure ())
    (hmono : ∀ C D (K K' : Shared → Prop) s, (∀ s, K s → K' s) → INN C D K s → INN C D K' s)
    (hstep : ∀ C D (R : Result → Shared → Prop) s, wpN (model prog w) A (pyNext (.ref I)) (fun r s₁ => match r with
      | none => R (.ok .next) s₁
      | some v => wpN (model prog w) A (letOwnedTupleGo tgt (.ref I) v) (fun _ s₂ => wpN (model prog w) A (assign tgt (compEnvC scope cl C env) v) (fun _ s₃ =>
          wpN (model prog w) A (tests ifs (compEnvC scope cl C env)) (fun ok s₄ => if ok = true then INN C D (codeN (model prog w) A (.compLoop (.ListComp elt (⟨tgt, iter, ifs, 0⟩ :: grest) scope pos) 0 (.ref I) (.ref D) (compEnvC scope cl C env)) R) s₄
            else codeN (model prog w) A (.compLoop (.ListComp elt (⟨tgt, iter, ifs, 0⟩ :: grest) scope pos) 0 (.ref I) (.ref D) (compEnvC scope cl C env)) R s₄) noE s₃) noE s₂) noE s₁) noE s →
      codeN (model prog w) A (.compLoop (.ListComp elt (⟨tgt, iter, ifs, 0⟩ :: grest) scope pos) 0 (.ref I) (.ref D) (compEnvC scope cl C env)) R s)
    (J : Nat → List Value → List (Addr × Obj) → (Str → Option Value) → Prop) (hJS : ∀ i ys nw m₂, J i ys nw m₂ → S nw) (hJ0 : J 0 [] news (fun _ => none))
    (turn : ∀ C D, I ≠ C → I ≠ D → C ≠ D → ∀ i v ys nw m₂ oI oC h tk, i < n → P i v → J i ys nw m₂ → NsObj oC m₂ → Fr h₀ L h m → News h₀ L h ((I, oI) :: (C, oC) :: (D, lst ys) :: nw) → Off3 I C D nw →
      wpN (model prog w) A (assign tgt (compEnvC scope cl C env) v) (fun _ s₃ => wpN (model prog w) A (tests ifs (compEnvC scope cl C env)) (fun ok s₄ => if ok = true then INN C D (TE h₀ L m s I C D J (i + 1) oI) s₄ else TE h₀ L m s I C D J (i + 1) oI s₄) noE s₃) noE { s with heap := h, toks := tk })
    (hEnd : ∀ D C h tk m' ys nw m₂, Fr h₀ L h m → News h₀ L h ((D, lst ys) :: nw) → Off1 D nw → h.Ns C m' → h₀.get? C = none → C ≠ L → C ≠ D → (∀ p ∈ nw, p.1 ≠ C) → J n ys nw m₂ → endN (model prog w) A E use Q (.ref D) C (.ok .next) { s with heap := h, toks := tk }) :
    wpAny (model prog w) A (newList []) (fun acc s₃ => wpAny (model prog w) A (newFunctionEnv scope env.globals cl [] env.qual none .none (some env)) (fun cenv s₄ =>
      codeN (model prog w) A (.compStart (.ListComp elt (⟨tgt, iter, ifs, 0⟩ :: grest) scope pos) 0 (.ref I) acc { cenv with scope := relabel scope env }) (endN (model prog w) A E use Q acc cenv.locals) s₄) E s₃) E s := by
  refine wpAny_newObj_type (wpAny_newFunctionEnv hcell (by intro y hy; simp at hy) (fun h₁ hns₁ hsb₁ => ?_) hkind)
  dsimp only at hns₁ hsb₁ ⊢
  generalize hH2 : s.heap.push { cls := .type "list", dict := none, data := .seq ([] : List Value).toArray } = H2 at hns₁ hsb₁ ⊢
  have hC : H2.objs.size = s.heap.objs.size + 1 := by rw [← hH2, Heap.size_push]
  have hIlt : I < s.heap.objs.size := hfp I (W.sub I (List.mem_singleton.mpr rfl))
  have below : ∀ b, b < s.heap.objs.size → b ≠ H2.objs.size ∧ b ≠ s.heap.objs.size := fun b hb => ⟨by rw [hC]; exact Nat.ne_of_lt (Nat.lt_succ_of_lt hb), Nat.ne_of_lt hb⟩
  have hDC : s.heap.objs.size ≠ H2.objs.size := by rw [hC]; exact Nat.ne_of_lt (Nat.lt_succ_self _)
  have old : ∀ b o, s.heap.get? b = some o → h₁.get? b = some o := fun b o e => hsb₁.extBut b o (below b (Heap.lt_size e)).1 (Heap.get?_push_of_some _ (hH2 ▸ Heap.get?_push_of_some _ e))
  have hacc : h₁.get? s.heap.objs.size = some (lst []) := hsb₁.extBut _ _ hDC (Heap.get?_push_of_some _ (hH2 ▸ Heap.get?_push_size _ rfl))
  have fresh₀ : ∀ a, s.heap.objs.size ≤ a → h₀.get? a = none := fun a ha => by
    cases e : h₀.get? a with
    | none => rfl
    | some o' => exact absurd (Heap.lt_size (F.keep a o' e)) (Nat.not_lt.mpr ha)
  have hD₀ : h₀.get? s.heap.objs.size = none := fresh₀ _ (Nat.le_refl _)
  have hC₀ : h₀.get? H2.objs.size = none := fresh₀ _ (by rw [hC]; exact Nat.le_succ _)
  have hLlt : L < s.heap.objs.size := F.ns.lt
  have hDL : s.heap.objs.size ≠ L := Ne.symm (below L hLlt).2
  have hCL : H2.objs.size ≠ L := Ne.symm (below L hLlt).1
  have hst₁ : St 0 h₁ := W.frame _ _ _ hst fun b _ o e => old b o e
  obtain ⟨oC, heC, hoC⟩ := ns_obj hns₁
  have N₁ : News h₀ L h₁ ((H2.objs.size, oC) :: (s.heap.objs.size, lst []) :: news) := fun p hp => by
    rcases List.mem_cons.mp hp with rfl | hp
    · exact ⟨heC, hCL, hC₀⟩
    · rcases List.mem_cons.mp hp with rfl | hp
      · exact ⟨hacc, hDL, hD₀⟩
      · exact ⟨old _ _ (N p hp).1, (N p hp).2⟩
  have off₀ : Off3 I H2.objs.size s.heap.objs.size news := Off3.of fun p hp => ⟨off p hp, (below _ (Heap.lt_size (N p hp).1)).1, (below _ (Heap.lt_size (N p hp).1)).2⟩
  have loop : ∀ tk, codeN (model prog w) A (.compLoop (.ListComp elt (⟨tgt, iter, ifs, 0⟩ :: grest) scope pos) 0 (.ref I) (.ref s.heap.objs.size) (compEnvC scope cl H2.objs.size env)) (endN (model prog w) A E use Q (.ref s.heap.objs.size) H2.objs.size) { s with heap := h₁, toks := tk } := by
    intro tk
    refine clauseN (INN := INN H2.objs.size s.heap.objs.size) (LP := codeN (model prog w) A (.compLoop (.ListComp elt (⟨tgt, iter, ifs, 0⟩ :: grest) scope pos) 0 (.ref I) (.ref s.heap.objs.size) (compEnvC scope cl H2.objs.size env)) (endN (model prog w) A E use Q (.ref s.heap.objs.size) H2.objs.size))
      W hIo hSt hIL hI₀ (below I hIlt).1 (below I hIlt).2 hT (hmono _ _) (hstep _ _ _) J hJS (turn _ _ (below I hIlt).1 (below I hIlt).2 (Ne.symm hDC)) ?_ n 0 [] news (fun _ => none) oC h₁ tk (Nat.zero_add _) hJ0 hst₁ hoC (F.keeps old) N₁ off₀
    intro ys nw m₂ oC' h tk' hJ hC' F' N' off'
    have zC := (N' _ List.mem_cons_self).1
    exact hEnd _ _ h tk' m₂ ys nw m₂ F' (fun p hp => N' p (List.mem_cons_of_mem _ hp)) off'.one (hC'.ns zC) hC₀ hCL (Ne.symm hDC) (fun p hp => (off'.mem p hp).2.1) hJ
  exact startN _ rfl rfl (loop _) (W.self 0 _ _ _ hst₁ (loop _))
theorem end_plain {D C : Addr} {h : Heap} {tk : Nat} {m' : Str → Option Value} {ys : List Value} {nw : List (Addr × Obj)} {Q : Value → Shared → Prop} (F : Fr h₀ L h m) (N : News h₀ L h ((D, lst ys) :: nw)) (hn : h.Ns C m') (hC₀ : h₀.get? C = none) (hCL : C ≠ L) (hCD : C ≠ D) (off : ∀ p ∈ nw, p.1 ≠ C)
    (hQ : ∀ h', Fr h₀ L h' m → News h₀ L h' ((D, lst ys) :: nw) → Q (.ref D) { s with heap := h', toks := tk }) : endN (model prog w) A E none Q (.ref D) C (.ok .next) { s with heap := h, toks := tk } := by
  refine ⟨m', hn, fun h'' hs'' => hQ h'' (F.change hs'' hCL hC₀) fun p hp => ⟨hs''.extBut _ _ ?_ (N p hp).1, (N p hp).2⟩⟩
  rcases List.mem_cons.mp hp with rfl | hp
  · exact Ne.symm hCD
  · exact off p hp
theorem end_assign {D C : Addr} {h : Heap} {tk : Nat} {m' : Str → Option Value} {ys : List Value} {nw : List (Addr × Obj)} {Q : Value → Shared → Prop} {y : Str} {py : Pos} (hLe : env.locals = L) (hy : env.kindOf y = some .local) (hp : (env.scope.kind == .class || (env.scope.kind == .module && env.locals != env.globals)) = false)
    (F : Fr h₀ L h m) (N : News h₀ L h ((D, lst ys) :: nw)) (hn : h.Ns C m') (hC₀ : h₀.get? C = none) (hCL : C ≠ L) (hCD : C ≠ D) (off : ∀ p ∈ nw, p.1 ≠ C)
    (hQ : ∀ h' tk', Fr h₀ L h' (fun z => if z = y then some (.ref D) else m z) → News h₀ L h' ((D, lst ys) :: nw) → Q .none { s with heap := h', toks := tk' }) : endN (model prog w) A E (some (assign (.Name y py) env)) Q (.ref D) C (.ok .next) { s with heap := h, toks := tk } := by
  subst hLe
  refine wpAny_assign_Name (wpAny_storeName_local hy F.ns (fun h₂ hn₂ hs₂ => ?_) hp)
  have hL₀ : h₀.get? env.locals = none := Heap.get?_none_of_le F.above
  have F₂ : Fr h₀ env.locals h₂ (fun z => if z = y then some (.ref D) else m z) := ⟨hn₂, fun b o e => hs₂.extBut b o (fun q => by rw [q, hL₀] at e; cases e) (F.keep b o e), F.above⟩
  refine ⟨m', hn.sameBut hs₂ hCL, fun h'' hs'' => hQ h'' _ (F₂.change hs'' hCL hC₀) fun p hp => ?_⟩
  have z : h₂.get? p.1 = some p.2 := hs₂.extBut _ _ (N p hp).2.1 (N p hp).1
  refine ⟨hs''.extBut _ _ ?_ z, (N p hp).2⟩
  rcases List.mem_cons.mp hp with rfl | hp
  · exact Ne.symm hCD
  · exact off p hp
end
end Mine
end

section
open PySem PySem.W PySem.Calls PyProof.Rows PyProof.Rows.LCg
set_option maxRecDepth 100000
namespace Mine
section
variable {prog : Program} {w : World} {A A₀ : Around} {E : Value → Shared → Prop} {s : Shared} {K : Frag} {L : Addr} {h₀ base : Heap} {m mg mb : Str → Option Value} {news : List (Addr × Obj)} {p : Program} {loose : List Str} {mean : ExcName → Option Value}
/-- a def with cells is entered in N -/
theorem code_defCN {env : Env} {outer : List Env} {R : Result → Shared → Prop} {name qual : Str} {params : Arguments} {body : List Stmt} {scope : Scope} {dV kV doc pm cdv ct oc : Value} {an od : Option Addr} {osl : Array (Option Value)} {f : Addr} {args : Args} {binds : List (Str × Value)}
    (B : Below A₀ base outer h₀) (F : Fr h₀ L s.heap m) (X₀ : K.In h₀) (T : Top p loose mean mg mb h₀) (hA : A.frames = some (env :: outer)) (hf : env.frame = some L) (hke : env.scope.kind = .function)
    (ho : K.lookup f = some ⟨oc, od, .func (fnOf name qual params body scope dV kV doc pm an cdv ct), osl⟩) (hcd : codeIn K cdv qual = true) (hroom : A.depth < recursionLimit)
    (hbind : BindsTo s (fnOf name qual params body scope dV kV doc pm an cdv ct) args binds) (hkind : (binds.all fun y => scope.names.lookup y.1 == some .local || scope.names.lookup y.1 == some .cell) = true)
    (hnd : ((cellsFrom 0 scope.names []).map (·.1)).Nodup)
    (h : ∀ g L' h₁ tk cells, g = s.heap → Fr g L' h₁ (bindL (envOfC qual scope L' f cdv).kindOf binds fun _ => none) → News g L' h₁ cells →
      CellsAre (bindC (envOfC qual scope L' f cdv).kindOf binds fun _ => none) (cellsFrom (L' + 1) scope.names []) cells → Below A base (env :: outer) g → K.In g → Top p loose mean mg mb g →
      wpN (model prog w) (A.deeper (envOfC qual scope L' f cdv)) (execs body (envOfC qual scope L' f cdv)) (fun fl s' => R (.ok (.ret (match fl with | .ret v => v | _ => .none))) s') noE { s with heap := h₁, toks := tk })
    (hco : scope.isCoroutine = false) (hgen : scope.isGenerator = false) (hk : scope.kind = .function) : codeN (model prog w) A (.call (.ref f) args) R s := by
  obtain ⟨FG, BG, st, lv⟩ := groundX (R := R) B F News.nil hA hf hke
  have Tg := T.keeps F.keep
  refine codeN_call_function (fd := fnX name qual params body scope [] dV kV doc pm an cdv ct) hroom ((X₀.keeps F.keep) _ _ ho) rfl hco hgen rfl (codeRec_of (X₀.keeps F.keep) hcd) (hbind _ _ _ _ ?_)
  refine wpAny_newFunctionEnv_cells hk (kindsX hkind _) fun env' he s' x => ?_
  subst he
  refine ⟨(T.nolimit.keeps F.keep).keeps x.toInCall.keep, codeN_func (wpN_calm ?_)⟩
  obtain ⟨h₁, tk, rfl, _⟩ := x.done
  have hk₁ := x.toInCall.keep
  obtain ⟨cells, NC, Y⟩ := Cl.news (h₀ := s.heap) (Nat.le_refl _) fun n c hm => ⟨x.cell n c (lookup_of_mem_nodup (cellsFrom_names scope.names 0 (s.heap.objs.size + 1) [] [] rfl ▸ hnd) hm), x.above n c hm⟩
  exact h _ s.heap.objs.size h₁ tk cells rfl ⟨x.toInCall.ns, fun b o e => hk₁ b o e, Nat.le_refl _⟩ NC Y ⟨BG.stack, fun b o e => F.keep b o (B.stays b o e), pushX B F hf hke |>.frames⟩ (X₀.keeps F.keep) Tg
end
end Mine
end

section
open PySem PySem.W PySem.Calls PyProof.Rows PyProof.Rows.LCg
set_option maxRecDepth 100000
namespace Mine
section
variable {prog : Program} {w : World} {A : Around} {E : Value → Shared → Prop} {s : Shared} {env : Env} {M : Model}
theorem wpN_BinOp {l op r pos} {Q : Value → Shared → Prop}
    (h : wpN M A (eval l env) (fun a s₁ => wpN M A (eval r env) (fun b s₂ => wpN M A (binaryOp op a b) Q E s₂) E s₁) E s) :
    wpN M A (eval (.BinOp l op r pos) env) Q E s := fun Γ p hΓ hc hb => by
  simp only [eval_BinOp, Sem.wp_bind', Sem.wp_holding, Sem.wp_cmd_standAt, Sem.wp_operate]
  exact Sem.wp_mono M Γ _ (fun a p₁ s₁ h₁ => Sem.wp_mono M Γ _ (fun b _ s₂ h₂ => h₂ Γ _ hΓ hc hb) (fun _ _ _ h' => h') _ _ (h₁ Γ p₁ hΓ hc hb))
    (fun _ _ _ h' => h') _ _ (h Γ p hΓ hc hb)
theorem wpN_Compare1 {l op r pos} {Q : Value → Shared → Prop}
    (h : wpN M A (eval l env) (fun a s₁ => wpN M A (eval r env) (fun b s₂ => wpN M A (compareOp op a b) Q E s₂) E s₁) E s)
    (hm : behindInMarks op r = false := by with_unfolding_all rfl) : wpN M A (eval (.Compare l [op] [r] pos) env) Q E s := fun Γ p hΓ hc hb => by
  simp only [eval_Compare1, markedBehindIn_of_false hm, Sem.wp_bind', Sem.wp_holding, Sem.wp_cmd_standAt, Sem.wp_operate]
  exact Sem.wp_mono M Γ _ (fun a p₁ s₁ h₁ => Sem.wp_mono M Γ _ (fun b _ s₂ h₂ => h₂ Γ _ hΓ hc hb) (fun _ _ _ h' => h') _ _ (h₁ Γ p₁ hΓ hc hb))
    (fun _ _ _ h' => h') _ _ (h Γ p hΓ hc hb)
theorem wpN_isTrue_Compare1 {l op r pos whole} {Q : Bool → Shared → Prop}
    (h : wpN M A (eval l env) (fun a s₁ => wpN M A (eval r env) (fun b s₂ => wpN M A (compareOp op a b)
      (fun c s₃ => wpN M A (truthy c) Q E s₃) E s₂) E s₁) E s)
    (hm : behindInMarks op r = false := by with_unfolding_all rfl) : wpN M A (isTrue (.Compare l [op] [r] pos) env whole) Q E s := fun Γ p hΓ hc hb => by
  simp only [isTrue_Compare1, markedBehindIn_of_false hm, Sem.wp_bind', Sem.wp_holding, Sem.wp_cmd_standAt, Sem.wp_operate]
  exact Sem.wp_mono M Γ _ (fun a p₁ s₁ h₁ => Sem.wp_mono M Γ _ (fun b _ s₂ h₂ => Sem.wp_mono M Γ _ (fun c p₃ s₃ h₃ => h₃ Γ p₃ hΓ hc hb)
    (fun _ _ _ h' => h') _ _ (h₂ Γ _ hΓ hc hb)) (fun _ _ _ h' => h') _ _ (h₁ Γ p₁ hΓ hc hb)) (fun _ _ _ h' => h') _ _ (h Γ p hΓ hc hb)
theorem tests_nil {Q : Bool → Shared → Prop} (h : Q true s) : wpN M A (tests [] env) Q E s := wpN_pure h
theorem tests_one {c : Expr} {Q : Bool → Shared → Prop} (h : wpN M A (isTrue c env (eval c env)) Q E s) : wpN M A (tests [c] env) Q E s := by
  unfold tests
  simp only [List.forIn_cons, List.forIn_nil, if_true]
  exact wpN_bind (wpN_bind (wpN_mono h (fun b s' hb => wpN_pure (wpN_pure hb)) fun _ _ x => x))
end
section
variable {prog : Program} {w : World} {A : Around} {E : Value → Shared → Prop} {s : Shared} {R : Result → Shared → Prop} {h₀ : Heap} {L : Addr} {m : Str → Option Value} {news : List (Addr × Obj)} {env : Env}
/-- one clause, one local name -/
theorem blockN_name {elt iter : Expr} {x : Str} {px : Pos} {ifs : List Expr} {scope : Scope} {cl : List (Str × Addr)} {pos : Pos} {I : Addr} {fp : List Addr} {n : Nat} {P : Nat → Value → Prop} {St : Nat → Heap → Prop} {S : List (Addr × Obj) → Prop}
    {use : Option (Value → Sem Unit)} {Q : Value → Shared → Prop}
    (W : Walks prog w A I fp [I] n P St) (hIo : ∀ i h, St i h → ∃ o, h.get? I = some o)
    (hSt : ∀ i h h' o nw, St i h → h.get? I = some o → h'.get? I = some o → (∀ b o, h₀.get? b = some o → h'.get? b = some o) → News h₀ L h' nw → S nw → St i h')
    (hcell : ∀ y ∈ scope.names, y.2 ≠ .cell) (hkind : scope.kind = .function) (hx : scope.names.lookup x = some .local) (hst : St 0 s.heap) (hfp : ∀ b ∈ fp, b < s.heap.objs.size)
    (F : Fr h₀ L s.heap m) (N : News h₀ L s.heap news) (hIL : L ≠ I) (hI₀ : h₀.get? I = none) (off : ∀ p ∈ news, p.1 ≠ I)
    (J : Nat → List Value → List (Addr × Obj) → (Str → Option Value) → Prop) (hJS : ∀ i ys nw m₂, J i ys nw m₂ → S nw) (hJ0 : J 0 [] news (fun _ => none))
    (turn : ∀ C D, I ≠ C → I ≠ D → C ≠ D → ∀ i v ys nw m₂ oI oC h tk, i < n → P i v → J i ys nw m₂ → NsObj oC (fun y => if y = x then some v else m₂ y) → Fr h₀ L h m → News h₀ L h ((I, oI) :: (C, oC) :: (D, lst ys) :: nw) → Off3 I C D nw →
      wpN (model prog w) A (tests ifs (compEnvC scope cl C env)) (fun ok s₄ => if ok = true then wpN (model prog w) A (eval elt (compEnvC scope cl C env)) (TEy h₀ L m s I C D J (i + 1) oI) noE s₄ else TE h₀ L m s I C D J (i + 1) oI s₄) noE { s with heap := h, toks := tk })
    (hEnd : ∀ D C h tk m' ys nw m₂, Fr h₀ L h m → News h₀ L h ((D, lst ys) :: nw) → Off1 D nw → h.Ns C m' → h₀.get? C = none → C ≠ L → C ≠ D → (∀ p ∈ nw, p.1 ≠ C) → J n ys nw m₂ → endN (model prog w) A E use Q (.ref D) C (.ok .next) { s with heap := h, toks := tk }) :
    wpAny (model prog w) A (newList []) (fun acc s₃ => wpAny (model prog w) A (newFunctionEnv scope env.globals cl [] env.qual none .none (some env)) (fun cenv s₄ =>
      codeN (model prog w) A (.compStart (.ListComp elt [⟨.Name x px, iter, ifs, 0⟩] scope pos) 0 (.ref I) acc { cenv with scope := relabel scope env }) (endN (model prog w) A E use Q acc cenv.locals) s₄) E s₃) E s := by
  refine blockN (INN := fun C D => innLast prog w A elt (compEnvC scope cl C env) D) W hIo hSt hcell hkind hst hfp F N hIL hI₀ off (fun _ => rfl) (fun C D K K' s h q => innLast_mono K K' s h q) (fun C D R s h => stepLast rfl rfl h) J hJS hJ0 ?_ hEnd
  intro C D hIC hID hCD i v ys nw m₂ oI oC h tk hi hP hJ hC F' N' off'
  refine wpN_of (assignL (pre := [(I, oI)]) (C := C) (lookup_relabel_local hx) rfl (by simp [compEnvC, relabel, hkind]) hC F' N' (by intro p hp; rw [List.mem_singleton.mp hp]; exact hIC) (fun p hp => ?_) fun oC' h' tk' hC' F₂ N₂ => ?_)
  · rcases List.mem_cons.mp hp with rfl | hp
    · exact Ne.symm hCD
    · exact (off'.mem p hp).2.1
  · refine wpN_mono (turn C D hIC hID hCD i v ys nw m₂ oI oC' h' tk' hi hP hJ hC' F₂ N₂ off') (fun ok s₄ h₄ => ?_) fun _ _ x => x
    cases ok with
    | false => exact h₄
    | true => exact emitN hID hCD h₄
/-- the source is a list -/
theorem walk_list (hh : A.handled = none) {I ax : Addr} {its : Array Value} {oI : Obj} (hI : IsIt oI ax 0) (F : Fr h₀ L s.heap m) (N : News h₀ L s.heap ((I, oI) :: news)) (S : SrcAt h₀ ax its news) (hne : ax ≠ I) :
    Walks prog w A I [I, ax] [I] its.size (fun i v => its[i]? = some v) (fun i h => h.IsListIter I ax i ∧ h.IsList ax its) ∧ (s.heap.IsListIter I ax 0 ∧ s.heap.IsList ax its) ∧ (∀ b ∈ [I, ax], b < s.heap.objs.size) := by
  have hl := S.list F.keep (fun p hp => N p (List.mem_cons_of_mem _ hp))
  have zI := (N (I, oI) List.mem_cons_self).1
  refine ⟨Walks.list hh I ax hne its, ⟨⟨oI, zI, hI.1, hI.2⟩, hl⟩, fun b hb => ?_⟩
  rcases List.mem_cons.mp hb with rfl | hb
  · exact Heap.lt_size zI
  · obtain ⟨_, e, _⟩ := hl
    rw [List.mem_singleton.mp hb]; exact Heap.lt_size e
theorem blockN_list {elt iter : Expr} {x : Str} {px : Pos} {ifs : List Expr} {scope : Scope} {cl : List (Str × Addr)} {pos : Pos} {I ax : Addr} {its : Array Value} {oI : Obj} {use : Option (Value → Sem Unit)} {Q : Value → Shared → Prop}
    (hh : A.handled = none) (hI : IsIt oI ax 0) (F : Fr h₀ L s.heap m) (N : News h₀ L s.heap ((I, oI) :: news)) (S : SrcAt h₀ ax its news) (hne : ax ≠ I) (off : ∀ p ∈ news, p.1 ≠ I)
    (hcell : ∀ y ∈ scope.names, y.2 ≠ .cell) (hkind : scope.kind = .function) (hx : scope.names.lookup x = some .local)
    (J : Nat → List Value → List (Addr × Obj) → (Str → Option Value) → Prop) (hJS : ∀ i ys nw m₂, J i ys nw m₂ → SrcAt h₀ ax its nw) (hJ0 : J 0 [] news (fun _ => none))
    (turn : ∀ C D, I ≠ C → I ≠ D → C ≠ D → ∀ i v ys nw m₂ oI oC h tk, i < its.size → its[i]? = some v → J i ys nw m₂ → NsObj oC (fun y => if y = x then some v else m₂ y) → Fr h₀ L h m → News h₀ L h ((I, oI) :: (C, oC) :: (D, lst ys) :: nw) → Off3 I C D nw →
      wpN (model prog w) A (tests ifs (compEnvC scope cl C env)) (fun ok s₄ => if ok = true then wpN (model prog w) A (eval elt (compEnvC scope cl C env)) (TEy h₀ L m s I C D J (i + 1) oI) noE s₄ else TE h₀ L m s I C D J (i + 1) oI s₄) noE { s with heap := h, toks := tk })
    (hEnd : ∀ D C h tk m' ys nw m₂, Fr h₀ L h m → News h₀ L h ((D, lst ys) :: nw) → Off1 D nw → h.Ns C m' → h₀.get? C = none → C ≠ L → C ≠ D → (∀ p ∈ nw, p.1 ≠ C) → J its.size ys nw m₂ → endN (model prog w) A E use Q (.ref D) C (.ok .next) { s with heap := h, toks := tk }) :
    wpAny (model prog w) A (newList []) (fun acc s₃ => wpAny (model prog w) A (newFunctionEnv scope env.globals cl [] env.qual none .none (some env)) (fun cenv s₄ =>
      codeN (model prog w) A (.compStart (.ListComp elt [⟨.Name x px, iter, ifs, 0⟩] scope pos) 0 (.ref I) acc { cenv with scope := relabel scope env }) (endN (model prog w) A E use Q acc cenv.locals) s₄) E s₃) E s := by
  obtain ⟨W, hst, hfp⟩ := walk_list (prog := prog) (w := w) hh hI F N S hne
  have zI := N (I, oI) List.mem_cons_self
  exact blockN_name W (fun i h st => by obtain ⟨o, e, _⟩ := st.1; exact ⟨o, e⟩) list_st hcell hkind hx hst hfp F (fun p hp => N p (List.mem_cons_of_mem _ hp)) (Ne.symm zI.2.1) zI.2.2 off J hJS hJ0 turn hEnd
end
end Mine
end

section
open PySem PySem.W PySem.Calls PyProof.Rows PyProof.Rows.LCg
namespace Mine
def ords : Nat → List UInt8 → List (List UInt8)
  | 0, r => [r]
  | n + 1, r => if r.length < 2 then [r] else (List.range r.length).flatMap fun k => (ords n (r.take k ++ r.drop (k + 1))).map fun q => [r.getD k 0] ++ q
def RowsAre (its : List Value) (rows : List (List UInt8)) : Prop := its.length = rows.length ∧ ∀ (i : Nat) (v : Value) (r : List UInt8), its[i]? = some v → rows[i]? = some r → ∃ t, v = .bytes r.toArray t
abbrev oEnv (L : Addr) : Env := envOfC (Str.ofString "_law_orders") (fnScope 6) L 61 (.ref 60)
def OrdersC (n : Nat) : Prop := ∀ (w : World) (mean : ExcName → Option Value) (mg mb : Str → Option Value) (dp un : Nat) (cn : Str) (cs : Scope) (a : Addr) (ccd : Value) (cl : List (Str × Addr)) (outer : List Env) (A₀ : Around) (base h₀ : Heap) (L : Addr) (m : Str → Option Value) (s : Shared) (r : List UInt8) (t : Tok)
    (Q E : Value → Shared → Prop) (_ : r.length ≤ n + 1) (_ : r.length ≤ 4) (_ : Below A₀ base outer h₀) (_ : Fr h₀ L s.heap m) (_ : (Mine.hd.heap_39 w.params).In h₀) (_ : Top Mine.hd.view_39 (looseW Mine.hd.view_39 []) mean mg mb h₀) (_ : cs.kind = .function)
    (_ : dp + 2 * n + 4 < recursionLimit) (_ : un + 8 * n + 20 < cLine)
    (_ : ∀ D its h' tk', Grow s.heap h' → s.heap.get? D = none → h'.IsList D its.toArray → RowsAre its (ords n r) → Q (.ref D) { s with heap := h', toks := tk' }),
    wpN (model PySem.Challenge.rw_zw0001_01.prog w) (ktrTop dp un (some []) cn cs L a ccd cl outer) (call (.ref 61) [.bytes r.toArray t]) Q E s
theorem ordRoom {dp n : Nat} (h : dp + 2 * (n + 1) + 4 < recursionLimit) : dp + 1 + 2 * n + 4 < recursionLimit := by omega
theorem ordUnits {un n : Nat} (h : un + 8 * (n + 1) + 20 < cLine) : un + 3 + 8 * n + 20 < cLine := by omega
theorem ords_len : ∀ (n : Nat) (r q : List UInt8), q ∈ ords n r → q.length = r.length
  | 0, r, q, h => by rw [List.mem_singleton.mp h]
  | n + 1, r, q, h => by
    unfold ords at h
    split at h
    · rw [List.mem_singleton.mp h]
    · obtain ⟨k, hk, hq⟩ := List.mem_flatMap.mp h
      obtain ⟨q', hq', rfl⟩ := List.mem_map.mp hq
      have hkr := List.mem_range.mp hk
      have := ords_len n _ _ hq'
      rw [List.length_append, List.length_singleton, this, List.length_append, List.length_take, List.length_drop]
      omega
theorem flat_few {α β : Type} (f : α → List β) (b : Nat) : ∀ (l : List α), (∀ x ∈ l, (f x).length ≤ b) → (l.flatMap f).length ≤ l.length * b
  | [], _ => by simp
  | x :: l, h => by
    rw [List.flatMap_cons, List.length_append, List.length_cons, Nat.add_mul, Nat.one_mul]
    have h1 := h x List.mem_cons_self
    have h2 := flat_few f b l fun y hy => h y (List.mem_cons_of_mem _ hy)
    omega
theorem ords_pow : ∀ (n : Nat) (r : List UInt8), r.length ≤ 4 → (ords n r).length ≤ 4 ^ r.length
  | 0, r, _ => Nat.one_le_pow _ _ (by decide)
  | n + 1, r, h => by
    unfold ords
    split
    · exact Nat.one_le_pow _ _ (by decide)
    · rename_i hr
      have step := flat_few (fun k => (ords n (r.take k ++ r.drop (k + 1))).map fun q => [r.getD k 0] ++ q) (4 ^ (r.length - 1)) (List.range r.length) fun k hk => by
        have hkr := List.mem_range.mp hk
        have hl : (r.take k ++ r.drop (k + 1)).length = r.length - 1 := by rw [List.length_append, List.length_take, List.length_drop]; omega
        have := ords_pow n (r.take k ++ r.drop (k + 1)) (by omega)
        rw [hl] at this
        rw [List.length_map]; exact this
      rw [List.length_range] at step
      refine Nat.le_trans step ?_
      have : 4 ^ r.length = 4 * 4 ^ (r.length - 1) := by rw [← Nat.pow_succ']; congr 1; omega
      rw [this]
      exact Nat.mul_le_mul_right _ h
theorem ords_few (n : Nat) (r : List UInt8) (h : r.length ≤ 4) : (ords n r).length ≤ 256 := Nat.le_trans (ords_pow n r h) (Nat.pow_le_pow_right (by decide) h)
theorem rows_snoc {ys : List Value} {rows : List (List UInt8)} {j : Nat} {c : UInt8} {q : List UInt8} {t : Tok} (hys : RowsAre ys ((rows.take j).map fun q => [c] ++ q)) (hq : rows[j]? = some q) :
    RowsAre (ys ++ [.bytes ([c] ++ q).toArray t]) ((rows.take (j + 1)).map fun q => [c] ++ q) := by
  rw [List.take_succ, hq, Option.toList_some, List.map_append]
  refine ⟨by rw [List.length_append, List.length_append, hys.1]; rfl, fun i v r hv hr => ?_⟩
  by_cases hi : i < ys.length
  · rw [List.getElem?_append_left hi] at hv
    rw [List.getElem?_append_left (by rw [← hys.1]; exact hi)] at hr
    exact hys.2 i v r hv hr
  · rw [List.getElem?_append_right (by omega)] at hv
    rw [List.getElem?_append_right (by rw [← hys.1]; omega), ← hys.1] at hr
    cases hk : i - ys.length with
    | zero =>
      rw [hk] at hv hr
      simp only [List.map_cons, List.map_nil, List.getElem?_cons_zero, Option.some.injEq] at hv hr
      subst hv; subst hr
      exact ⟨t, rfl⟩
    | succ k => rw [hk] at hv; simp at hv
theorem set_twice {x : Str} {a b : Value} {m : Str → Option Value} (y : Str) : (if y = x then some a else if y = x then some b else m y) = if y = x then some a else m y := by
  split <;> rfl
local macro_rules | `(tactic| walk_at "subscriptTail") => `(tactic| (k_here; (with_reducible show wpAny _ _ (subscriptTail _ (Expr.Slice _ _ none _) (Value.bytes _ _) (Value.ref _)) _ _ _); (with_reducible rename Fr _ _ _ _ => F'); (with_reducible rename News _ _ _ _ => N'); (refine' my_slice (s := ⟨_, _, _, _, _⟩) F' N' ?p1 ?p2 ?z ?e ?_; (case p1 => constructor); (case p2 => constructor); (case z => ((try simp only [List.length_cons, List.length_nil]); omega)); (case e => first | exact pick_a _ _ | exact pick_b _ _ | exact pick_one (by omega) | exact pick_to (by omega) | exact pick_mid (by omega) (by omega) | exact pick_from (by omega) | exact rfl)); intro _ _ _ _ _))
local macro_rules | `(tactic| walk_at "subscriptTail") => `(tactic| (k_here; (with_reducible show wpAny _ _ (subscriptTail _ _ (Value.bytes (List.toArray _) _) (Value.int (Nat.cast _) _)) _ _ _); (refine my_item (by omega) (by omega) ?_); intro n9 u9 k9 e9 lo9 hi9))
local macro_rules | `(tactic| walk_at "binaryOp Add bytes bytes") => `(tactic| (k_here; (with_reducible show wpAny _ _ (binaryOp Operator.Add (Value.bytes (List.toArray _) _) (Value.bytes (List.toArray _) _)) _ _ _); (refine bytes_add_K (by (try simp only [List.size_toArray, List.length_append, List.length_take, List.length_drop, List.length_cons, List.length_nil]); omega) rfl ?_); intro _ _))
set_option maxRecDepth 100000 in
set_option maxHeartbeats 8000000 in
theorem orders_turn : ∀ (n : Nat) (_ : OrdersC n) (w : World) (mean : ExcName → Option Value) (mg mb : Str → Option Value) (dp un : Nat) (cn : Str) (cs : Scope) (a : Addr) (ccd : Value) (cl : List (Str × Addr)) (outer : List Env) (base g : Heap) (L L' : Addr) (m₁ : Str → Option Value) (s : Shared) (r : List UInt8) (t : Tok) (i : Nat) (ti : Tok) (f I : Addr) (oI of o1 o2 : Obj) (its : List Value) (nf : Nat)
    (Q : Flow → Shared → Prop) (_ : r.length ≤ n + 2) (_ : r.length ≤ 4) (_ : i < r.length) (_ : its.length ≤ 1000) (_ : Below (ktrTop dp un (some []) cn cs L a ccd cl outer) base (envX cn cs L a ccd cl :: outer) g) (_ : (Mine.hd.heap_39 w.params).In g) (_ : Top Mine.hd.view_39 (looseW Mine.hd.view_39 []) mean mg mb g)
    (_ : dp + 2 * (n + 1) + 4 < recursionLimit) (_ : un + 8 * (n + 1) + 20 < cLine)
    (_ : Fr g L' s.heap (fun y => if y = Str.ofString "found" then some (.ref f) else m₁ y)) (_ : News g L' s.heap [(I, oI), (f, ⟨.type "list", none, .seq its.toArray nf, #[]⟩), (L' + 1 + 1, o1), (L' + 1, o2)]) (_ : o1.data = .cell (some (.int i ti))) (_ : o2.data = .cell (some (.bytes r.toArray t)))
    (_ : ∀ f' new nf' h' tk', Fr g L' h' (fun y => if y = Str.ofString "found" then some (.ref f') else m₁ y) → News g L' h' [(I, oI), (f', ⟨.type "list", none, .seq (its ++ new).toArray nf', #[]⟩), (L' + 1 + 1, o1), (L' + 1, o2)] → (f' ≠ I ∧ L' + 1 + 1 < f') → RowsAre new ((ords n (r.take i ++ r.drop (i + 1))).map fun q => [r.getD i 0] ++ q) → Q .next { s with heap := h', toks := tk' }),
    wpN (model PySem.Challenge.rw_zw0001_01.prog w) ((ktrTop dp un (some []) cn cs L a ccd cl outer).deeper (oEnv L')) (execs (forBody (fnBody 6) 2) (oEnv L')) Q noE s := by
  k_fill
  intro n ih w mean mg mb dp un cn cs a ccd cl outer base g L L' m₁ s r t i ti f I oI of o1 o2 its nf Q hn hr4 hi hits B X T hd hu F N d1 d2 hret
  have hB : forBody (fnBody 6) 2 = forBody (fnBody 6) 2 := rfl
  conv at hB => rhs; whnf
  have hS : fnScope 6 = fnScope 6 := rfl
  conv at hS => rhs; whnf
  unfold oEnv
  rw [hB, hS]
  clear hB hS
  refine wpN_execs_cons (wpN_Assign_Name (wpN_BinOp (wpN_of ?_)))
  k_steps
  rw [eval_ListComp]
  refine compN (use := none) rfl (by intro _; rfl) (by with_unfolding_all rfl) (by rfl) (by decide) ?_
  show wpN _ _ (eval _ _) _ _ _
  refine wpN_Call_def (K := Mine.hd.heap_39 w.params) (fv := .ref 61) (by k_is) ?_ ?_
  · intro Q' hQ'
    k_steps
    exact hQ'
  · refine wpN_of ?_
    k_steps
    rename Fr _ _ _ _ => F₂; rename News _ _ _ _ => N₂
    have hlen : (r.take i ++ r.drop (i + 1)).length = r.length - 1 := by rw [List.length_append, List.length_take, List.length_drop]; omega
    with_unfolding_all refine ih w mean mg mb _ _ _ _ _ _ _ _ _ _ _ _ _ ⟨_, _, _, _, _⟩ _ _ _ _ (by rw [hlen]; omega) (by rw [hlen]; omega) B F₂ X T rfl (by exact ordRoom hd) (by exact ordUnits hu) ?_
    intro D its' h₃ k₃ hG hDn hDl hrows
    have F₃ := F₂.keeps hG
    have N₃ := N₂.grown hG
    have hDn' : D ≠ L' := fun q => by obtain ⟨_, _, _, e, _⟩ := F₂.ns; rw [← q] at e; exact absurd (hDn.symm.trans e) (by simp)
    have hDg : g.get? D = none := by
      cases e : g.get? D with
      | none => rfl
      | some o => exact absurd (hDn.symm.trans (F₂.keep _ _ e)) (by simp)
    obtain ⟨oD, eD, hcD, nD, hdD⟩ := id hDl
    have N₄ : News g L' h₃ [(D, oD), (I, oI), (f, ⟨.type "list", none, .seq its.toArray nf, #[]⟩), (L' + 1 + 1, o1), (L' + 1, o2)] := fun p hp => by
      rcases List.mem_cons.mp hp with rfl | hp
      · exact ⟨eD, hDn', hDg⟩
      · exact N₃ p hp
    refine wpN_of (iter_list hDl F₃ N₄ fun I2 oI2 h₄ hI2 F₄ N₄ hne4 _ hG4 => ?_)
    refine blockN_list rfl hI2 F₄ N₄ (.inr ⟨oD, List.mem_cons_self, hcD, nD, hdD⟩) (Nat.ne_of_lt (hne4 _ List.mem_cons_self)) (fun p hp => Nat.ne_of_lt (hne4 p hp)) (by decide) rfl rfl
      (fun j ys nw _ => nw = [(D, oD), (I, oI), (f, ⟨.type "list", none, .seq its.toArray nf, #[]⟩), (L' + 1 + 1, o1), (L' + 1, o2)] ∧ RowsAre ys (((ords n (r.take i ++ r.drop (i + 1))).take j).map fun q => [r.getD i 0] ++ q))
      (fun j ys nw _ hJ => by rw [hJ.1]; exact .inr ⟨oD, List.mem_cons_self, hcD, nD, hdD⟩) ⟨rfl, rfl, by simp⟩ ?_ ?_
    · intro C D2 hIC hID hCD j v ys nw m₂ oI3 oC h₅ tk₅ hj hv hJ hC F₅ N₅ off₅
      obtain ⟨rfl, hys⟩ := hJ
      obtain ⟨m3, hC', ha'⟩ : ∃ m3, NsObj oC m3 ∧ m3 (Str.ofString "rest") = some v := ⟨_, hC, if_pos rfl⟩
      rw [List.size_toArray] at hj
      rw [List.getElem?_toArray] at hv
      have hq : (ords n (r.take i ++ r.drop (i + 1)))[j]? = some ((ords n (r.take i ++ r.drop (i + 1)))[j]'(by rw [← hrows.1]; exact hj)) := List.getElem?_eq_getElem _
      generalize ((ords n (r.take i ++ r.drop (i + 1)))[j]'(by rw [← hrows.1]; exact hj)) = q at hq
      obtain ⟨tq, rfl⟩ := hrows.2 j v q hv hq
      clear hC
      have hql : q.length ≤ 4 := by
        have := ords_len n _ _ (List.mem_of_getElem? hq)
        omega
      refine tests_nil ?_
      dsimp only [if_true]
      refine wpN_of ?_
      k_steps
      rename Fr _ _ _ _ => F₆; rename News _ _ _ _ => N₆
      have hyl : ys.length ≤ sizeLine := by
        rw [hys.1, List.length_map, List.length_take]
        have := ords_few n (r.take i ++ r.drop (i + 1)) (by omega)
        rw [sizeLine_eq]; omega
      refine ⟨_, _, ys, _, m3, oC, rfl, ⟨rfl, ?_⟩, hC', F₆, N₆, off₅, hyl⟩
      exact rows_snoc hys hq
    · intro D2 C h₆ tk₆ m' ys nw m₂ F₆ N₆ o1' hn6 hC₀ hCL hCD offC hJ
      obtain ⟨rfl, hys⟩ := hJ
      refine end_plain F₆ N₆ hn6 hC₀ hCL hCD offC fun h₇ F₇ N₇ => ?_
      dsimp only
      have hyl : its.length + ys.length ≤ sizeLine := by
        rw [hys.1, List.length_map, List.length_take]
        have := ords_few n (r.take i ++ r.drop (i + 1)) (by omega)
        rw [sizeLine_eq]; omega
      have hf7 : Heap.IsList h₇ f its.toArray := ⟨_, (N₇ (f, ⟨.type "list", none, .seq its.toArray nf, #[]⟩) (by simp)).1, rfl, _, rfl⟩
      have hD7 : Heap.IsList h₇ D2 ys.toArray := ⟨_, (N₇ (D2, lst ys) (by simp)).1, rfl, _, rfl⟩
      refine wpN_of (kmk_add_lit (zs := its ++ ys) F₇ N₇ hf7 hD7 rfl ?_ hyl)
      intro D3 h₈ F₈ N₈ hne8
      k_steps
      dsimp only
      refine wpN_of ?_
      k_steps
      rename Fr _ _ _ _ => F₉; rename News _ _ _ _ => N₉
      have hD3 : D3 ≠ I ∧ L' + 1 + 1 < D3 := ⟨Nat.ne_of_gt (hne8 (I, oI) (by simp)), hne8 (L' + 1 + 1, o1) (by simp)⟩
      refine hret D3 ys 0 _ _ (Fr.eqv F₉ fun y => set_twice y) (fun p hp => N₉ p ?_) hD3 ?_
      · simp only [List.mem_cons, List.not_mem_nil, or_false] at hp ⊢
        rcases hp with hp | hp | hp | hp
        · exact .inr (.inr (.inr (.inl hp)))
        · exact .inl hp
        · exact .inr (.inr (.inr (.inr (.inr (.inl hp)))))
        · exact .inr (.inr (.inr (.inr (.inr (.inr hp)))))
      · rw [List.size_toArray, hrows.1, List.take_length] at hys
        exact hys
end Mine
end

section
open PySem PySem.W PySem.Calls PyProof.Rows PyProof.Rows.LCg
namespace Mine
theorem rows_append {a b : List Value} {x y : List (List UInt8)} (h : RowsAre a x) (k : RowsAre b y) : RowsAre (a ++ b) (x ++ y) := by
  refine ⟨by rw [List.length_append, List.length_append, h.1, k.1], fun i v r hv hr => ?_⟩
  by_cases hi : i < a.length
  · rw [List.getElem?_append_left hi] at hv
    rw [List.getElem?_append_left (by rw [← h.1]; exact hi)] at hr
    exact h.2 i v r hv hr
  · rw [List.getElem?_append_right (by omega)] at hv
    rw [List.getElem?_append_right (by rw [← h.1]; omega), ← h.1] at hr
    exact k.2 _ v r hv hr
def ordsTo (n : Nat) (r : List UInt8) (i : Nat) : List (List UInt8) := (List.range i).flatMap fun k => (ords n (r.take k ++ r.drop (k + 1))).map fun q => [r.getD k 0] ++ q
theorem ordsTo_succ (n : Nat) (r : List UInt8) (i : Nat) : ordsTo n r (i + 1) = ordsTo n r i ++ (ords n (r.take i ++ r.drop (i + 1))).map fun q => [r.getD i 0] ++ q := by
  unfold ordsTo
  rw [List.range_succ, List.flatMap_append, List.flatMap_cons, List.flatMap_nil, List.append_nil]
theorem ordsTo_few (n : Nat) (r : List UInt8) (i : Nat) (hr : r.length ≤ 4) (hi : i < r.length) : (ordsTo n r i).length ≤ 1000 := by
  have := flat_few (fun k => (ords n (r.take k ++ r.drop (k + 1))).map fun q => [r.getD k 0] ++ q) 64 (List.range i) fun k hk => by
    have hkr := List.mem_range.mp hk
    have hl : (r.take k ++ r.drop (k + 1)).length = r.length - 1 := by rw [List.length_append, List.length_take, List.length_drop]; omega
    have := ords_pow n (r.take k ++ r.drop (k + 1)) (by omega)
    rw [List.length_map]
    refine Nat.le_trans this (Nat.le_trans (Nat.pow_le_pow_right (by decide) (by rw [hl]; omega : _ ≤ 3)) (by decide))
  rw [List.length_range] at this
  show (ordsTo n r i).length ≤ 1000
  unfold ordsTo
  omega
set_option maxRecDepth 100000 in
set_option maxHeartbeats 8000000 in
theorem orders_loop : ∀ (n : Nat) (_ : OrdersC n) (w : World) (mean : ExcName → Option Value) (mg mb : Str → Option Value) (dp un : Nat) (cn : Str) (cs : Scope) (a : Addr) (ccd : Value) (cl : List (Str × Addr)) (outer : List Env) (base g : Heap) (L L' : Addr) (m₁ : Str → Option Value) (r : List UInt8) (t : Tok) (I : Addr) (o2 : Obj)
    (R : Result → Shared → Prop) (_ : r.length ≤ n + 2) (_ : r.length ≤ 4) (_ : Below (ktrTop dp un (some []) cn cs L a ccd cl outer) base (envX cn cs L a ccd cl :: outer) g) (_ : (Mine.hd.heap_39 w.params).In g) (_ : Top Mine.hd.view_39 (looseW Mine.hd.view_39 []) mean mg mb g)
    (_ : dp + 2 * (n + 1) + 4 < recursionLimit) (_ : un + 8 * (n + 1) + 20 < cLine) (_ : o2.data = .cell (some (.bytes r.toArray t))) (_ : L' + 1 + 1 < I)
    (k i : Nat) (s : Shared) (f : Addr) (its : List Value) (nf : Nat) (o1 : Obj) (v1 : Option Value) (_ : i + k = r.length) (_ : o1.data = .cell v1) (_ : f ≠ I) (_ : L' + 1 + 1 < f) (_ : RowsAre its (ordsTo n r i))
    (_ : Fr g L' s.heap (fun y => if y = Str.ofString "found" then some (.ref f) else m₁ y)) (_ : News g L' s.heap [(I, rit (i : Int) (k : Int) 1), (f, ⟨.type "list", none, .seq its.toArray nf, #[]⟩), (L' + 1 + 1, o1), (L' + 1, o2)])
    (_ : ∀ f' its' nf' h' tk', Fr g L' h' (fun y => if y = Str.ofString "found" then some (.ref f') else m₁ y) → News g L' h' [(f', ⟨.type "list", none, .seq its'.toArray nf', #[]⟩)] → RowsAre its' (ordsTo n r r.length) → R (.ok .next) { s with heap := h', toks := tk' }),
    codeN (model PySem.Challenge.rw_zw0001_01.prog w) ((ktrTop dp un (some []) cn cs L a ccd cl outer).deeper (oEnv L')) (.forLoop (forTarget (fnBody 6) 2) (.ref I) (forBody (fnBody 6) 2) [] (oEnv L')) R s := by
  k_fill
  intro n ih w mean mg mb dp un cn cs a ccd cl outer base g L L' m₁ r t I o2 R hn hr4 B X T hd hu d2 hIL k
  have hT : forTarget (fnBody 6) 2 = forTarget (fnBody 6) 2 := rfl
  conv at hT => rhs; whnf
  have hS : fnScope 6 = fnScope 6 := rfl
  conv at hS => rhs; whnf
  induction k with
  | zero =>
    intro i s f its nf o1 v1 hi d1 hfI hfL hrows F N hret
    refine codeN_for_step (wpN_of (next_range_end rfl F N (by intro p hp; simp only [List.mem_cons, List.not_mem_nil, or_false] at hp; rcases hp with rfl | rfl | rfl; exact hfI; exact Nat.ne_of_lt hIL; exact Nat.ne_of_lt (Nat.lt_trans (Nat.lt_succ_self _) hIL)) (by decide) fun h' F' N' => ?_))
    dsimp only
    have hi' : i = r.length := hi
    subst hi'
    exact hret f its nf h' _ F' (fun p hp => N' p (by rw [List.mem_singleton.mp hp]; exact List.mem_cons_self)) hrows
  | succ k ihk =>
    intro i s f its nf o1 v1 hi d1 hfI hfL hrows F N hret
    have hir : i < r.length := by omega
    refine codeN_for_step (wpN_of (next_range_item F N (by intro p hp; simp only [List.mem_cons, List.not_mem_nil, or_false] at hp; rcases hp with rfl | rfl | rfl; exact hfI; exact Nat.ne_of_lt hIL; exact Nat.ne_of_lt (Nat.lt_trans (Nat.lt_succ_self _) hIL)) (by omega) fun h' F' N' => ?_))
    dsimp only
    refine wpN_of (wpAny_of_eq (a := ()) (by rw [hT]; rfl) ?_)
    rw [hT]
    refine wpN_of ?_
    unfold oEnv
    rw [hS]
    k_steps
    rename Fr _ _ _ _ => F₂; rename News _ _ _ _ => N₂
    rw [← hS]
    rename Obj => o3
    have d3 : o3.data = Data.cell (some (Value.int (i : Int) s.toks)) := by assumption
    rw [show ((i : Int) + 1) = ((i + 1 : Nat) : Int) from rfl, show (((k + 1 : Nat) : Int) - 1) = (k : Int) by omega] at N₂
    refine orders_turn n ih w mean mg mb dp un cn cs a ccd cl outer base g L L' m₁ ⟨_, _, _, _, _⟩ r t i _ f I _ o3 o3 o2 its nf _ hn hr4 hir (by rw [hrows.1]; exact ordsTo_few n r i hr4 hir) B X T hd hu F₂ N₂ d3 d2 ?_
    intro f' new nf' h₄ k₄ F₄ N₄ hf' hnew
    dsimp only
    rw [← hT]
    exact ihk (i + 1) _ f' (its ++ new) nf' o3 _ (by omega) d3 hf'.1 hf'.2 (by rw [ordsTo_succ]; exact rows_append hrows hnew) F₄ N₄ hret
theorem ord_one {n : Nat} {g h : Heap} {L l : Addr} {m : Str → Option Value} {r : List UInt8} {t : Tok} {rest : List (Addr × Obj)} {Q : Value → Shared → Prop} {s : Shared} {tk : Nat}
    (hG : g = s.heap) (F : Fr g L h m) (N : News g L h ((l, W.listOf #[.bytes r.toArray t] 0) :: rest)) (hr : n = 0 ∨ r.length < 2)
    (hret : ∀ D its h' tk', Grow s.heap h' → s.heap.get? D = none → h'.IsList D its.toArray → RowsAre its (ords n r) → Q (.ref D) { s with heap := h', toks := tk' }) : Q (.ref l) { s with heap := h, toks := tk } := by
  have z := N _ List.mem_cons_self
  refine hret l [.bytes r.toArray t] h tk (fun b o e => F.keep b o (hG ▸ e)) (hG ▸ z.2.2) ⟨_, z.1, rfl, _, rfl⟩ ?_
  have e : ords n r = [r] := by
    cases n with
    | zero => rfl
    | succ n => rcases hr with h | h; cases h; unfold ords; rw [if_pos h]
  rw [e]
  refine ⟨rfl, fun i v q hv hq => ?_⟩
  cases i with
  | zero => cases hv; cases hq; exact ⟨t, rfl⟩
  | succ i => simp at hv
set_option maxRecDepth 100000 in
set_option maxHeartbeats 8000000 in
theorem ordersN : ∀ n, OrdersC n := by
  k_fill
  intro n
  induction n with
  | zero =>
    intro w mean mg mb dp un cn cs a ccd cl outer A₀ base h₀ L m s r t Q E hn hr4 B F X T hk hd hu hret
    refine wpN_call ?_
    with_unfolding_all (refine' code_defCN ?k1 ?k2 ?k3 ?k5 ?kA ?kF ?kK ?k6 ?k7 ?k8 ?k9 ?kB ?kN ?_ ?c2 ?c3 ?c4; (case kA => exact rfl); (case kF => exact rfl); (case kK => assumption); (case k1 => k_asm); (case k2 => k_asm); (case k3 => k_asm); (case k5 => k_asm); (case k6 => k_is); (case k7 => k_is); (case k8 => ktr_room); (case k9 => exact BindsTo.of_eq rfl); (case kB => rfl); (case kN => decide); (case c2 => exact rfl); (case c3 => exact rfl); (case c4 => exact rfl); k_whole; intro g' L' h' tk' cells hG F' N' Y' B' X' T'; (try dsimp only))
    obtain ⟨o1, o2, he, d1, d2⟩ := PyProof.Rows.CellsAre.two Y'
    subst he
    clear Y' X T B F
    refine wpN_execs_cons (wpN_of ?_)
    k_steps
    · rename Fr _ _ _ _ => F₁; rename News _ _ _ _ => N₁
      exact ord_one (s := s) hG F₁ N₁ (Or.inl rfl) hret
  | succ n ih =>
    intro w mean mg mb dp un cn cs a ccd cl outer A₀ base h₀ L m s r t Q E hn hr4 B F X T hk hd hu hret
    refine wpN_call ?_
    with_unfolding_all (refine' code_defCN ?k1 ?k2 ?k3 ?k5 ?kA ?kF ?kK ?k6 ?k7 ?k8 ?k9 ?kB ?kN ?_ ?c2 ?c3 ?c4; (case kA => exact rfl); (case kF => exact rfl); (case kK => assumption); (case k1 => k_asm); (case k2 => k_asm); (case k3 => k_asm); (case k5 => k_asm); (case k6 => k_is); (case k7 => k_is); (case k8 => ktr_room); (case k9 => exact BindsTo.of_eq rfl); (case kB => rfl); (case kN => decide); (case c2 => exact rfl); (case c3 => exact rfl); (case c4 => exact rfl); k_whole; intro g' L' h' tk' cells hG F' N' Y' B' X' T'; (try dsimp only))
    obtain ⟨o1, o2, he, d1, d2⟩ := PyProof.Rows.CellsAre.two Y'
    subst he
    clear Y' X T B F
    have d2' : o2.data = .cell (some (.bytes r.toArray t)) := d2
    have d1' : o1.data = .cell none := d1
    refine wpN_execs_cons (wpN_of ?_)
    k_steps
    · rename Fr _ _ _ _ => F₁; rename News _ _ _ _ => N₁
      rename _ < _ => hlt
      exact ord_one (s := s) hG F₁ N₁ (Or.inr (by rw [List.size_toArray] at hlt; omega)) hret
    · rename ¬ _ => hlt
      dsimp only
      refine wpN_execs_cons (wpN_of ?_)
      k_steps
      refine wpN_execs_cons (wpN_For (wpN_of ?_))
      k_steps
      rename (_ < _ ∧ _ < _) => l9
      obtain ⟨l9a, -⟩ := l9
      rename IsRange _ _ _ _ _ _ _ _ => hr
      rename Fr _ _ _ _ => F₂; rename News _ _ _ _ => N₂
      have hl2 : 2 ≤ r.length := by rw [List.size_toArray] at hlt; omega
      refine wpN_of (iter_range hr (small_one (by decide) (by decide) (by rw [List.size_toArray]; omega) (by rw [List.size_toArray]; omega)) F₂ N₂ fun I h₃ F₃ N₃ hI => ?_)
      have hIL : L' + 1 + 1 < I := hI (L' + 1 + 1, o1) (by simp)
      have hl0 := hI _ List.mem_cons_self
      rw [rangeSize_nat, List.size_toArray, show ((r.length : Int) - 0).toNat = r.length by omega] at N₃
      have hS : fnScope 6 = fnScope 6 := rfl
      conv at hS => rhs; whnf
      have hT : forTarget (fnBody 6) 2 = forTarget (fnBody 6) 2 := rfl
      conv at hT => rhs; whnf
      have hB : forBody (fnBody 6) 2 = forBody (fnBody 6) 2 := rfl
      conv at hB => rhs; whnf
      rw [← hS, ← hT, ← hB]
      refine orders_loop n ih w mean mg mb dp un cn cs a ccd cl outer base g' L L' _ r t I o2 _ hn hr4 B' X' T' hd hu d2' hIL r.length 0 ⟨_, _, _, _, _⟩ _ [] 0 o1 none (by omega) d1' (Nat.ne_of_lt hl0) (by first | assumption | exact And.left (by assumption)) ⟨rfl, by simp [ordsTo]⟩ F₃ N₃ ?_
      intro f' its' nf' h₄ k₄ F₄ N₄ hrows
      dsimp only
      rw [hS]
      refine wpN_of ?_
      k_steps
      rename Fr _ _ _ _ => F₅; rename News _ _ _ _ => N₅
      have z := N₅ _ List.mem_cons_self
      refine hret _ its' _ _ (fun b o e => F₅.keep b o (hG ▸ e)) (hG ▸ z.2.2) ⟨_, z.1, rfl, _, rfl⟩ ?_
      unfold ords
      rw [if_neg (by omega)]
      exact hrows
end Mine
end

section
open PySem PySem.W PySem.Calls PyProof.Rows PyProof.Rows.LCg
namespace Mine
abbrev lEnv (L fa : Addr) (cd : Value) : Env := envOfC (Str.ofString "law") (fnScope 7) L fa cd
def stmt (n : Nat) : Stmt := (fnBody 7)[n]?.getD default
end Mine
end

section
open PySem PySem.W PySem.Calls PyProof.Rows PyProof.Rows.LCg
namespace Mine
def PairIn (ex : List (Addr × Obj)) (v : Value) (p : Nat × Nat) : Prop := ∃ a o t u n, v = .ref a ∧ (a, o) ∈ ex ∧ o.cls = .type "tuple" ∧ o.data = .seq #[.int (p.1 : Int) t, .int (p.2 : Int) u] n
def PairsIn (ex : List (Addr × Obj)) (its : List Value) (ps : List (Nat × Nat)) : Prop := its.length = ps.length ∧ ∀ (i : Nat) (v : Value) (p : Nat × Nat), its[i]? = some v → ps[i]? = some p → PairIn ex v p
theorem PairIn.mono {ex ex' : List (Addr × Obj)} {v : Value} {p : Nat × Nat} (h : PairIn ex v p) (k : ∀ q ∈ ex, q ∈ ex') : PairIn ex' v p := by
  obtain ⟨a, o, t, u, n, e, hm, r⟩ := h
  exact ⟨a, o, t, u, n, e, k _ hm, r⟩
theorem PairsIn.mono {ex ex' : List (Addr × Obj)} {its : List Value} {ps : List (Nat × Nat)} (h : PairsIn ex its ps) (k : ∀ q ∈ ex, q ∈ ex') : PairsIn ex' its ps := ⟨h.1, fun i v p hv hp => (h.2 i v p hv hp).mono k⟩
theorem PairsIn.nil {ex : List (Addr × Obj)} : PairsIn ex [] [] := ⟨rfl, fun i v p hv _ => by simp at hv⟩
theorem PairsIn.append {ex : List (Addr × Obj)} {a b : List Value} {x y : List (Nat × Nat)} (h : PairsIn ex a x) (k : PairsIn ex b y) : PairsIn ex (a ++ b) (x ++ y) := by
  refine ⟨by rw [List.length_append, List.length_append, h.1, k.1], fun i v r hv hr => ?_⟩
  by_cases hi : i < a.length
  · rw [List.getElem?_append_left hi] at hv
    rw [List.getElem?_append_left (by rw [← h.1]; exact hi)] at hr
    exact h.2 i v r hv hr
  · rw [List.getElem?_append_right (by omega)] at hv
    rw [List.getElem?_append_right (by rw [← h.1]; omega), ← h.1] at hr
    exact k.2 _ v r hv hr
theorem PairsIn.one {ex : List (Addr × Obj)} {v : Value} {p : Nat × Nat} (h : PairIn ex v p) : PairsIn ex [v] [p] := ⟨rfl, fun i v' p' hv hp => by
  cases i with
  | zero => cases hv; cases hp; exact h
  | succ i => simp at hv⟩
theorem PairsIn.at {h₀ h : Heap} {L : Addr} {ex : List (Addr × Obj)} {its : List Value} {ps : List (Nat × Nat)} (x : PairsIn ex its ps) (N : News h₀ L h ex) : PairsAt h its ps := ⟨x.1, fun i v p hv hp => by
  obtain ⟨a, o, t, u, n, e, hm, hc, hd⟩ := x.2 i v p hv hp
  exact ⟨a, t, u, e, o, (N _ hm).1, hc, n, hd⟩⟩
section
variable {prog : Program} {w : World} {A : Around} {E : Value → Shared → Prop} {s : Shared} {R : Result → Shared → Prop} {h₀ : Heap} {L : Addr} {m : Str → Option Value} {news : List (Addr × Obj)} {env : Env}
theorem walk_range (hh : A.handled = none) {I : Addr} {n : Nat} (N : News h₀ L s.heap ((I, rit 0 (n : Int) 1) :: news)) :
    Walks prog w A I [I] [I] n (fun i v => ∃ t, v = .int (0 + (i : Int)) t) (fun i h => IsRangeIter h I (0 + (i : Nat) * 1) ((n : Int) - (i : Nat)) 1) ∧ IsRangeIter s.heap I (0 + ((0 : Nat) : Int) * 1) ((n : Int) - ((0 : Nat) : Int)) 1 ∧ (∀ b ∈ [I], b < s.heap.objs.size) := by
  have z := (N _ List.mem_cons_self).1
  refine ⟨range_walks hh 0 n, ?_, fun b hb => by rw [List.mem_singleton.mp hb]; exact Heap.lt_size z⟩
  show s.heap.get? I = some _
  rw [z]
  simp
end
end Mine
end

section
open PySem PySem.W PySem.Calls PyProof.Rows PyProof.Rows.LCg
namespace Mine
section
variable {prog : Program} {w : World} {A : Around} {E : Value → Shared → Prop} {s : Shared} {R : Result → Shared → Prop} {h₀ : Heap} {L : Addr} {m : Str → Option Value} {news : List (Addr × Obj)} {env : Env}
abbrev innMore (prog : Program) (w : World) (A : Around) (elt : Expr) (gens : List Comprehension) (scope : Scope) (pos : Pos) (it2 : Expr) (cenv : Env) (D : Addr) (K : Shared → Prop) (s : Shared) : Prop :=
  wpN (model prog w) A (eval it2 cenv) (fun x s₅ => wpN (model prog w) A (pyIter x) (fun it' s₆ => codeN (model prog w) A (.compStart (.ListComp elt gens scope pos) 1 it' (.ref D) cenv) (fun r s' => match r with | .ok _ => K s' | .error _ => False) s₆) noE s₅) noE s
theorem innMore_mono {elt : Expr} {gens : List Comprehension} {scope : Scope} {pos : Pos} {it2 : Expr} {cenv : Env} {D : Addr} (K K' : Shared → Prop) (s : Shared) (h : ∀ s, K s → K' s) (q : innMore prog w A elt gens scope pos it2 cenv D K s) : innMore prog w A elt gens scope pos it2 cenv D K' s :=
  wpN_mono q (fun _ _ q => wpN_mono q (fun _ _ q => codeN_mono q fun r s' hr => by cases r with | ok f => exact h _ hr | error e => exact hr) fun _ _ x => x) fun _ _ x => x
end
theorem off1_ne {D : Addr} : ∀ {l : List (Addr × Obj)}, Off1 D l → ∀ p ∈ l, p.1 ≠ D
  | [], _, _, h => nomatch h
  | _ :: _, x, p, h => by
    rcases List.mem_cons.mp h with rfl | h
    · exact x.1
    · exact off1_ne x.2 p h
theorem loopOf {P G : Prop} (f : P → G) (h : P) : G := f h
def rowOf (a : Nat) (j : Nat) : List (Nat × Nat) := ((List.range j).filter (fun b => a ≠ b)).map fun b => (a, b)
def pairsTo (i : Nat) : List (Nat × Nat) := (List.range i).flatMap fun a => rowOf a 4
theorem pairsTo_succ (i : Nat) : pairsTo (i + 1) = pairsTo i ++ rowOf i 4 := by
  unfold pairsTo
  rw [List.range_succ, List.flatMap_append, List.flatMap_cons, List.flatMap_nil, List.append_nil]
theorem rowOf_succ (a j : Nat) : rowOf a (j + 1) = rowOf a j ++ if a ≠ j then [(a, j)] else [] := by
  unfold rowOf
  rw [List.range_succ, List.filter_append, List.map_append]
  by_cases h : a = j <;> simp [h]
theorem allLt_ne {d : Nat} : ∀ {l : List (Addr × Obj)}, AllLt d l → ∀ p ∈ l, p.1 < d
  | [], _, _, h => nomatch h
  | q :: r, x, p, h => by
    rcases List.mem_cons.mp h with rfl | h
    · exact x.1
    · exact allLt_ne x.2 p h
theorem rowOf_few (a j : Nat) : (rowOf a j).length ≤ j := by
  unfold rowOf
  rw [List.length_map]
  exact Nat.le_trans (List.length_filter_le _ _) (by rw [List.length_range]; exact Nat.le_refl _)
theorem pairsTo_few (i : Nat) : (pairsTo i).length ≤ i * 4 := by
  induction i with
  | zero => simp [pairsTo]
  | succ i ih =>
    rw [pairsTo_succ, List.length_append]
    have := rowOf_few i 4
    omega
theorem newsHead {h₀ h : Heap} {L : Addr} {p : Addr × Obj} {l : List (Addr × Obj)} (N : News h₀ L h (p :: l)) : ∃ t0, t0 = p ∧ News h₀ L h (t0 :: l) := ⟨p, rfl, N⟩
set_option maxRecDepth 100000 in
set_option maxHeartbeats 8000000 in
theorem s0_pairs : ∀ (w : World) (mean : ExcName → Option Value) (mg mb : Str → Option Value) (h₀ : Heap) (L fa : Addr) (cd : Value) (m : Str → Option Value) (s : Shared) (base : List (Addr × Obj)) (Q : Flow → Shared → Prop)
    (_ : Below callerA h₀ [] h₀) (_ : (Mine.hd.heap_39 w.params).In h₀) (_ : Top Mine.hd.view_39 (looseW Mine.hd.view_39 []) mean mg mb h₀)
    (_ : Fr h₀ L s.heap m) (_ : News h₀ L s.heap base)
    (_ : ∀ D ys tups h' tk', Fr h₀ L h' m → News h₀ L h' ((D, lst ys) :: (tups ++ base)) → (∀ p ∈ base, p.1 ≠ D) → (∀ p ∈ tups, ∀ q ∈ base, @LT.lt Nat _ q.1 p.1) → PairsIn tups ys (pairsTo 4) → wpAny (model PySem.Challenge.rw_zw0001_01.prog w) (callerA.deeper (lEnv L fa cd)) (storeName (lEnv L fa cd) (Str.ofString "pairs") (.ref D)) (fun _ => Q .next) noE { s with heap := h', toks := tk' }),
    wpN (model PySem.Challenge.rw_zw0001_01.prog w) (callerA.deeper (lEnv L fa cd)) (exec (stmt 0) (lEnv L fa cd)) Q noE s := by
  k_fill
  intro w mean mg mb h₀ L fa cd m s base Q B X T F N hret
  have hB : stmt 0 = stmt 0 := rfl
  conv at hB => rhs; whnf
  have hS : fnScope 7 = fnScope 7 := rfl
  conv at hS => rhs; whnf
  unfold lEnv at hret ⊢
  rw [hB, hS]
  rw [hS] at hret
  clear hB hS
  refine wpN_Assign_Name ?_
  rw [eval_ListComp]
  refine compN (use := none) rfl (by intro _; rfl) (by with_unfolding_all rfl) (by rfl) (by decide) ?_
  show wpN _ _ (eval _ _) _ _ _
  refine wpN_of ?_
  k_steps
  rename IsRange _ _ _ _ _ _ _ _ => hr
  rename Fr _ _ _ _ => F₁; rename News _ _ _ _ => N₁
  refine wpN_of (iter_range hr (by decide) F₁ N₁ fun I h₂ F₂ N₂ hI => ?_)
  have N₂' : News h₀ L h₂ ((I, rit 0 ((4 : Nat) : Int) 1) :: base) := N₂
  have zI := N₂' _ List.mem_cons_self
  obtain ⟨W, hst, hfp⟩ := walk_range (prog := PySem.Challenge.rw_zw0001_01.prog) (w := w) (A := callerA.deeper (lEnv L fa cd)) rfl (s := { s with heap := h₂ }) N₂'
  refine blockN (INN := fun C D => innMore _ w _ _ _ _ _ _ _ D) W (fun i h st => ⟨_, st⟩) range_st (by decide) rfl hst hfp F₂ (fun p hp => N₂' p (List.mem_cons_of_mem _ hp)) (Ne.symm zI.2.1) zI.2.2 (fun p hp => Nat.ne_of_lt (hI p hp)) (fun _ => rfl)
    (fun C D K K' s h q => innMore_mono K K' s h q) (fun C D R s h => turnN_more _ rfl rfl _ rfl rfl (fun _ => rfl) h)
    (fun i ys nw _ => ∃ tups, nw = tups ++ base ∧ PairsIn tups ys (pairsTo i) ∧ ∀ p ∈ tups, ∀ q ∈ base, @LT.lt Nat _ q.1 p.1) (fun _ _ _ _ _ => trivial) ⟨[], rfl, PairsIn.nil, fun _ h => nomatch h⟩ ?_ ?_
  · intro C D hIC hID hCD i v ys nw m₂ oI oC h tk hi hP hJ hC F₃ N₃ off₃
    obtain ⟨tups, rfl, hp, htb⟩ := hJ
    obtain ⟨ta, rfl⟩ := hP
    have o3 := off₃.mem
    refine wpN_of (assignL (pre := [(I, oI)]) (C := C) (by rfl) rfl (by rfl) hC F₃ N₃ (by intro p hp; rw [List.mem_singleton.mp hp]; exact hIC) (fun p hp => by
      rcases List.mem_cons.mp hp with rfl | hp
      · exact Ne.symm hCD
      · exact (o3 p hp).2.1) fun oC1 h₄ tk₄ hC₄ F₄ N₄ => ?_)
    have N₄' : News h₀ L h₄ ((I, oI) :: (C, oC1) :: (D, lst ys) :: (tups ++ base)) := N₄
    clear N₄ N₃ F₃ N₂ N₂' F₂ F₁ N₁
    refine tests_nil ?_
    dsimp only [if_true]
    refine wpN_of ?_
    k_steps
    rename IsRange _ _ _ _ _ _ _ _ => hr2
    rename Fr _ _ _ _ => F₅; rename News _ _ _ _ => N₅
    refine wpN_of (iter_range hr2 (by decide) F₅ N₅ fun I2 h₆ F₆ N₆ hI2 => ?_)
    have N₆' : News h₀ L h₆ ((I2, rit 0 ((4 : Nat) : Int) 1) :: (I, oI) :: (C, oC1) :: (D, lst ys) :: (tups ++ base)) := N₆
    have zI2 := N₆' _ List.mem_cons_self
    obtain ⟨W2, hst2, hfp2⟩ := walk_range (prog := PySem.Challenge.rw_zw0001_01.prog) (w := w) (A := callerA.deeper (lEnv L fa cd)) rfl (s := { s with heap := h₆ }) N₆'
    have hI2C : I2 ≠ C := Nat.ne_of_gt (hI2 (C, oC1) (by simp))
    have hI2D : I2 ≠ D := Nat.ne_of_gt (hI2 (D, lst ys) (by simp))
    have sub : ∀ p ∈ tups ++ ((I, oI) :: base), p ∈ (I, oI) :: (C, oC1) :: (D, lst ys) :: (tups ++ base) := fun p hp => by
      rcases List.mem_append.mp hp with hp | hp
      · exact List.mem_cons_of_mem _ (List.mem_cons_of_mem _ (List.mem_cons_of_mem _ (List.mem_append_left _ hp)))
      · rcases List.mem_cons.mp hp with rfl | hp
        · exact List.mem_cons_self
        · exact List.mem_cons_of_mem _ (List.mem_cons_of_mem _ (List.mem_cons_of_mem _ (List.mem_append_right _ hp)))
    have off6 : Off3 I2 C D (tups ++ ((I, oI) :: base)) := Off3.of fun p hp => ⟨Nat.ne_of_lt (hI2 p (sub p hp)), by
      rcases List.mem_append.mp hp with hp | hp
      · exact (o3 p (List.mem_append_left _ hp)).2
      · rcases List.mem_cons.mp hp with rfl | hp
        · exact ⟨hIC, hID⟩
        · exact (o3 p (List.mem_append_right _ hp)).2⟩
    have htups : ∀ p ∈ tups, p.1 ≠ I := fun p hp => (o3 p (List.mem_append_left _ hp)).1
    have hbase : ∀ p ∈ base, p.1 ≠ I := fun p hp => (o3 p (List.mem_append_right _ hp)).1
    refine loopOf (fun R' => startN _ rfl rfl R' (W2.self 0 _ _ _ hst2 R')) ?_
    refine clauseN (s := ⟨_, _, _, _, _⟩) (INN := innLast _ w _ _ _ D) W2 (fun i h st => ⟨_, st⟩) range_st (Ne.symm zI2.2.1) zI2.2.2 hI2C hI2D (fun _ => rfl)
      (fun K K' s h q => innLast_mono K K' s h q) (fun s h => stepLast rfl rfl h)
      (fun j ys nw m => ∃ tups, nw = tups ++ ((I, oI) :: base) ∧ PairsIn tups ys (pairsTo i ++ rowOf i j) ∧ ((∀ p ∈ tups, p.1 ≠ I) ∧ ∀ p ∈ tups, ∀ q ∈ base, @LT.lt Nat _ q.1 p.1) ∧ m (Str.ofString "a") = some (.int (0 + (i : Int)) ta)) (fun _ _ _ _ _ => trivial) ?_ ?_ 4 0 ys (tups ++ ((I, oI) :: base)) _ oC1 h₆ _ (by rfl)
      ⟨tups, rfl, by show PairsIn tups ys (pairsTo i ++ []); rw [List.append_nil]; exact hp, ⟨htups, htb⟩, if_pos rfl⟩ hst2 hC₄ F₆ (fun p hp => ?_) off6
    · intro j v ys2 nw2 m3 oJ oC3 h₇ tk₇ hj hPj hJj hC₇ F₇ N₇ off₇
      obtain ⟨tups2, rfl, hp2, ⟨ht2, htb2⟩, ha⟩ := hJj
      obtain ⟨tb, rfl⟩ := hPj
      have o7 := off₇.mem
      refine wpN_of (assignL (pre := [(I2, oJ)]) (C := C) (by rfl) rfl (by rfl) hC₇ F₇ N₇ (by intro p hp; rw [List.mem_singleton.mp hp]; exact hI2C) (fun p hp => by
        rcases List.mem_cons.mp hp with rfl | hp
        · exact Ne.symm hCD
        · exact (o7 p hp).2.1) fun oC8 h₈ tk₈ hC₈ F₈ N₈ => ?_)
      have N₈' : News h₀ L h₈ ((I2, oJ) :: (C, oC8) :: (D, lst ys2) :: (tups2 ++ ((I, oI) :: base))) := N₈
      clear N₈ N₇ F₇ N₆ N₆' F₆ hC₇ hC₄ N₅ F₅ hC
      refine tests_one ?_
      obtain ⟨m4, hC9, ha9, hb9⟩ : ∃ m4, NsObj oC8 m4 ∧ m4 (Str.ofString "a") = some (.int (0 + (i : Int)) ta) ∧ m4 (Str.ofString "b") = some (.int (0 + (j : Int)) tb) := ⟨_, hC₈, (if_neg (by decide)).trans ha, if_pos rfl⟩
      clear hC₈ ha
      refine wpN_of ?_
      k_steps
      · refine emitN hI2D hCD (wpN_of ?_)
        rename ¬ _ => hab
        k_steps
        rename (_ < _ ∧ _ < _ ∧ _ < _ ∧ AllLt _ _) => l9
        rename Fr _ _ _ _ => F₉; rename News _ _ _ _ => N₉
        obtain ⟨l1, l2, l3, l4⟩ := l9
        have l5 := allLt_ne l4
        obtain ⟨t0, e0, N₁₀⟩ := newsHead N₉
        refine ⟨_, _, ys2, (t0 :: tups2) ++ ((I, oI) :: base), m4, oC8, rfl, ⟨t0 :: tups2, rfl, ?_, ⟨?_, ?_⟩, ha9⟩, hC9, F₉, (fun p hp => N₁₀ p ?_), Off3.of (fun p hp => ?_), ?_⟩
        · rw [rowOf_succ, if_pos (by omega), ← List.append_assoc]
          refine (hp2.mono fun q hq => List.mem_cons_of_mem _ hq).append (PairsIn.one ?_)
          subst e0
          exact ⟨_, _, ta, tb, _, rfl, List.mem_cons_self, rfl, by simp only [Int.zero_add]; rfl⟩
        · intro p hp
          rcases List.mem_cons.mp hp with rfl | hp
          · rw [e0]; exact Nat.ne_of_gt (l5 (I, oI) (List.mem_append_right _ List.mem_cons_self))
          · exact ht2 p hp
        · intro p hp q hq
          rcases List.mem_cons.mp hp with rfl | hp
          · rw [e0]; exact l5 q (List.mem_append_right _ (List.mem_cons_of_mem _ hq))
          · exact htb2 p hp q hq
        · simp only [List.mem_cons, List.mem_append, List.cons_append] at hp ⊢
          rcases hp with hp | hp | hp | hp | hp | hp | hp
          · exact .inr (.inl hp)
          · exact .inr (.inr (.inl hp))
          · exact .inr (.inr (.inr (.inl hp)))
          · exact .inl hp
          · exact .inr (.inr (.inr (.inr (.inl hp))))
          · exact .inr (.inr (.inr (.inr (.inr (.inl hp)))))
          · exact .inr (.inr (.inr (.inr (.inr (.inr hp)))))
        · rcases List.mem_append.mp hp with hp | hp
          · rcases List.mem_cons.mp hp with rfl | hp
            · rw [e0]; exact ⟨Nat.ne_of_gt l1, Nat.ne_of_gt l2, Nat.ne_of_gt l3⟩
            · exact o7 p (List.mem_append_left _ hp)
          · exact o7 p (List.mem_append_right _ hp)
        · rw [hp2.1, sizeLine_eq, List.length_append]
          have h1 := pairsTo_few i
          have h2 := rowOf_few i j
          omega
      · rename _ = _ => hab
        have hab' : i = j := by omega
        refine ⟨h₈, _, ys2, tups2 ++ ((I, oI) :: base), m4, oC8, rfl, ⟨tups2, rfl, ?_, ⟨ht2, htb2⟩, ha9⟩, hC9, F₈, N₈', off₇⟩
        rw [rowOf_succ, if_neg (by simp [hab']), List.append_nil]
        exact hp2
    · intro ys2 nw2 m3 oC3 h₇ tk₇ hJj hC₇ F₇ N₇ off₇
      obtain ⟨tups2, rfl, hp2, ⟨ht2, htb2⟩, ha⟩ := hJj
      have o7 := off₇.mem
      refine ⟨h₇, tk₇, ys2, tups2 ++ base, m3, oC3, rfl, ⟨tups2, rfl, ?_, htb2⟩, hC₇, F₇, fun p hp => ?_, Off3.of fun p hp => ?_⟩
      · rw [pairsTo_succ]; exact hp2
      · refine N₇ p ?_
        simp only [List.mem_cons, List.mem_append] at hp ⊢
        rcases hp with hp | hp | hp | hp | hp
        · exact .inr (.inr (.inr (.inl hp)))
        · exact .inl hp
        · exact .inr (.inl hp)
        · exact .inr (.inr (.inl hp))
        · exact .inr (.inr (.inr (.inr hp)))
      · rcases List.mem_append.mp hp with hp | hp
        · exact ⟨ht2 p hp, (o7 p (List.mem_append_left _ hp)).2⟩
        · exact ⟨hbase p hp, (o7 p (List.mem_append_right _ (List.mem_cons_of_mem _ hp))).2⟩
    · refine N₆' p (List.mem_cons_of_mem _ ?_)
      simp only [List.mem_cons, List.mem_append] at hp ⊢
      rcases hp with hp | hp | hp | hp | hp
      · exact .inr (.inl hp)
      · exact .inr (.inr (.inl hp))
      · exact .inr (.inr (.inr (.inl hp)))
      · exact .inl hp
      · exact .inr (.inr (.inr (.inr hp)))
  · intro D C h tk m' ys nw m₂ F₃ N₃ off hn hC₀ hCL hCD offC hJ
    obtain ⟨tups, rfl, hp, htb⟩ := hJ
    refine end_plain F₃ N₃ hn hC₀ hCL hCD offC fun h₇ F₇ N₇ => ?_
    exact hret D ys tups h₇ _ F₇ N₇ (fun p hp => off1_ne off p (List.mem_append_right _ hp)) htb hp
end Mine
end

section
open PySem PySem.W PySem.Calls PyProof.Rows
set_option maxRecDepth 100000
namespace Mine
section
variable {prog : Program} {w : World} {A : Around} {E : Value → Shared → Prop} {s : Shared} {h₀ : Heap} {L : Addr} {m : Str → Option Value} {news : List (Addr × Obj)}
abbrev byteAt (b : Array UInt8) (i : Nat) (v : Value) : Prop := ∃ c u, b[i]? = some c ∧ v = .int (c.toNat : Int) u
theorem bytes_len_lookup : typeLookup (.type "bytes") "__len__" = pure (some (.builtin "bytes.__len__")) := by rw [typeLookup_type, builtinLookup_eq_fast]; kernel_rfl
theorem extend_bytes {R : Result → Shared → Prop} (hh : A.handled = none) (b : Array UInt8) (t : Tok) (S : Addr) (res : Value) (c₀ : Nat) (hS : s.heap.get? S = some { cls := .type "list", data := .seq #[] c₀ })
    (hR : ∀ h' tk acc' c', (∀ a o, a ≠ S → s.heap.get? a = some o → h'.get? a = some o) → h'.get? S = some { cls := .type "list", dict := none, data := .seq acc' c', slots := #[] } →
      ItemsOf (byteAt b) acc' b.size → R (.ok (.ret res)) { s with heap := h', toks := tk }) (hn : b.size ≤ sizeLine) :
    wpAny (model prog w) A.in1 (Builtin.List.listExtendWith (.ref S) (.bytes b t) res)
      (fun fin s' => match fin with | .done f => R (.ok f) s' | .again c' => c'.quiet = true ∧ codeAny (model prog w) A c' R s') (fun e s' => R (.error e) s') s := by
  have hSI : S ≠ s.heap.objs.size := Nat.ne_of_lt (Heap.lt_size hS)
  have hSf : S ∉ [s.heap.objs.size] := fun hm => hSI (List.mem_singleton.mp hm)
  unfold Builtin.List.listExtendWith
  refine wpAny_bind (wpAny_typeOf (T := "bytes") (typeIs_bytes s b t) ?_)
  have h1 : Builtin.List.listSameRef (.ref S) (.bytes b t) = false := rfl
  have h2 : (Value.type "bytes" == Value.type "list") = false := by decide
  have h3 : (Value.type "bytes" == Value.type "tuple") = false := by decide
  simp only [h1, h2, h3, Bool.or_false, Bool.false_eq_true, if_false]
  refine wpAny_bind (KBw.pyIter_bytes ?_)
  refine wpAny_bind (wpAny_holding ?_)
  unfold Builtin.List.listLengthHint
  refine wpAny_bind (wpAny_specialOf (T := "bytes") (typeIs_bytes _ b t) bytes_len_lookup ?_)
  wp_delta
  refine wpAny_bind (wpAny_isInstance (T := "bytes") (b := true) (typeIs_bytes _ b t) (by rw [isSubtype_type]; kernel_rfl) ?_)
  show wpAny _ _ (typeOf (Value.bytes b t) >>= _) _ _ _
  refine wpAny_bind (wpAny_typeOf (T := "bytes") (typeIs_bytes _ b t) ?_)
  refine wpAny_pure ?_
  rw [if_neg (by decide)]
  refine wpAny_pure ⟨plainId_quiet F.plain_extend_loop _, codeAny_extend_loopS (KBw.walks (A := A.in1) hh s.heap.objs.size b t).toS hn _ hSf _ b.size 0 _ _ _ rfl (Nat.zero_le _) ⟨_, Heap.get?_push_size _ rfl, rfl, rfl⟩ (Heap.get?_push_of_some _ hS) (ItemsOf.nil _) fun s' acc' c' hm hS' hacc => ?_⟩
  rw [Moved.eq_with hm]
  refine hR s'.heap s'.toks acc' c' (fun a ob ha e => hm.heap a ob (fun hmem => ?_) (Heap.get?_push_of_some _ e)) hS' hacc
  rcases List.mem_cons.mp hmem with e' | hmem
  · exact ha e'
  · exact absurd (Heap.lt_size e) (by rw [List.mem_singleton.mp hmem]; exact Nat.lt_irrefl _)
theorem ints_pointwise : ∀ {vs : List Value} {ns : List Int}, vs.length = ns.length → (∀ (i : Nat) (v : Value), vs[i]? = some v → ∃ t n, ns[i]? = some n ∧ v = .int n t) → IntsAre vs ns
  | [], [], _, _ => .nil
  | v :: vs, n :: ns, hl, h => by
    obtain ⟨t, n', hn, rfl⟩ := h 0 v rfl
    cases hn
    exact .cons n t (ints_pointwise (Nat.succ.inj hl) fun i v hv => h (i + 1) v hv)
theorem ints_of_items {b : Array UInt8} {acc : Array Value} (h : ItemsOf (byteAt b) acc b.size) : IntsAre acc.toList (KBw.bInts b) := by
  have hl : acc.toList.length = (KBw.bInts b).length := by rw [Array.length_toList, h.1, KBw.ints_length]
  refine ints_pointwise hl fun i v hv => ?_
  obtain ⟨c, u, hc, rfl⟩ := h.2 i v (by rw [← Array.getElem?_toList]; exact hv)
  exact ⟨u, _, KBw.ints_get hc, rfl⟩
theorem list_bytes {Q : Value → Shared → Prop} (hh : A.handled = none) (F : Fr h₀ L s.heap m) (N : News h₀ L s.heap news) (b : Array UInt8) (t : Tok) (hn : b.size ≤ 1000)
    (hQ : ∀ D vs c h' tk, Fr h₀ L h' m → News h₀ L h' ((D, W.listOf (List.toArray vs) c) :: news) → (∀ p ∈ news, p.1 < D) → IntsAre vs (KBw.bInts b) → Q (.ref D) { s with heap := h', toks := tk }) :
    wpAny (model prog w) A (call (.type "list") [.bytes b t]) Q E s := by
  refine callType_codes (Q₁ := fun obj s₁ => obj = .ref s.heap.objs.size ∧ s₁ = { s with heap := s.heap.push { cls := .type "list", data := .seq #[] } }) PySem.F.called_list (PySem.F.typeCall_list_1 _) PySem.F.entry_list_init
    (code_list_new _ ⟨rfl, rfl⟩) fun obj s₁ h₁ => ?_
  obtain ⟨rfl, rfl⟩ := h₁
  have hS : (s.heap.push { cls := .type "list", data := .seq #[] }).get? s.heap.objs.size = some { cls := .type "list", data := .seq #[] } := Heap.get?_push_size _ rfl
  refine ⟨⟨_, hS, rfl⟩, PySem.F.args_list_init_2 _ _, ?_⟩
  show wpAny _ _ (do let old ← Builtin.List.listItems (.ref s.heap.objs.size); Builtin.List.listUpdate (.ref s.heap.objs.size) (fun _ => #[]); letGo old.toList.reverse; Builtin.List.listExtendWith (.ref s.heap.objs.size) (.bytes b t) .none) _ _ _
  refine wpAny_bind ?_
  unfold Builtin.List.listItems
  refine wpAny_bind (wpAny_seqItems hS rfl (wpAny_pure ?_))
  show wpAny _ _ (updateSeq s.heap.objs.size (fun _ => #[]) >>= fun _ => letGo (#[] : Array Value).toList.reverse >>= fun _ => Builtin.List.listExtendWith (.ref s.heap.objs.size) (.bytes b t) .none) _ _ _
  refine wpAny_bind (wpAny_updateSeq hS rfl ?_)
  have hS₂ := Heap.get?_update_self (Obj.mapSeq (fun _ => (#[] : Array Value))) hS rfl
  refine wpAny_bind (wpAny_letGo ?_)
  refine extend_bytes (A := A.in1) hh b t _ .none _ hS₂ (fun h' tk acc' c' hk hS' hacc => ?_) (by rw [sizeLine_eq]; omega)
  have old : ∀ a o, s.heap.get? a = some o → h'.get? a = some o := fun a o e => by
    have hne : a ≠ s.heap.objs.size := Nat.ne_of_lt (Heap.lt_size e)
    exact hk a o hne ((Heap.get?_update_other _ _ (Ne.symm hne)).trans (Heap.get?_push_of_some _ e))
  have hI := ints_of_items hacc
  refine ⟨rfl, hQ s.heap.objs.size acc'.toList c' h' tk (F.keeps old) (fun p hp => ?_) (fun p hp => Heap.lt_size (N p hp).1) hI⟩
  rcases List.mem_cons.mp hp with rfl | hp
  · exact ⟨by rw [hS', Array.toArray_toList], Nat.ne_of_gt F.ns.lt, next_is_new F⟩
  · exact ⟨old _ _ (N p hp).1, (N p hp).2⟩
def toItems (v : Value) : Sem (List Value) := match v with
  | .ref a => do
      let o ← load a
      match o.data with
      | .seq xs _ => pure xs.toList
      | _ => unsupported "internal:collect"
  | _ => unsupported "internal:collect"
theorem collect_bytes {Q : List Value → Shared → Prop} (hh : A.handled = none) (b : Array UInt8) (t : Tok) (hn : b.size ≤ sizeLine)
    (hQ : ∀ h' tk acc', (∀ a o, s.heap.get? a = some o → h'.get? a = some o) → ItemsOf (byteAt b) acc' b.size → Q acc'.toList { s with heap := h', toks := tk }) : wpAny (model prog w) A (collect (.bytes b t)) Q E s := by
  unfold collect
  refine wpAny_bind (wpAny_runValue (codeAny_builtin entry_proto_collect' ?_))
  show wpAny _ _ (do again (.builtin "list.__iadd__" ⟨[← newList [], .bytes b t], []⟩)) _ _ s
  refine wpAny_bind (wpAny_newList (wpAny_pure ⟨Code.quiet_builtin _ (by decide +kernel), codeAny_builtin entry_list_iadd' ?_⟩))
  show wpAny _ A.in1 (Builtin.List.listExtendWith (.ref s.heap.objs.size) (.bytes b t) (.ref s.heap.objs.size)) _ _ { s with heap := s.heap.push (seqObj "list" #[] 0) }
  have hS : (s.heap.push (seqObj "list" #[] 0)).get? s.heap.objs.size = some (seqObj "list" #[] 0) := Heap.get?_push_size _ rfl
  refine wpAny_mono (extend_bytes (R := fun r s' => match r with | .ok (.ret v) => wpAny (model prog w) A (toItems v) Q E s' | .ok _ => False | .error e => E e s') (s := { s with heap := s.heap.push (seqObj "list" #[] 0) }) hh b t _ _ _ hS (fun h₁ tk acc c hk hS₁ hacc => ?_) hn) (fun fin s' h => ?_) fun e s' h => h
  rotate_left
  · cases fin with
    | done f => cases f <;> exact h
    | again c' => exact ⟨h.1, codeAny_mono h.2 fun r s' h => by
        cases r with
        | ok f => cases f <;> exact h
        | error e => exact h⟩
  show wpAny _ _ (do
      let o ← load s.heap.objs.size
      match o.data with
      | .seq xs _ => pure xs.toList
      | _ => unsupported "internal:collect") _ _ _
  refine wpAny_bind (wpAny_load hS₁ (wpAny_pure (hQ _ _ _ (fun a o e => ?_) hacc)))
  exact hk a o (Nat.ne_of_lt (Heap.lt_size e)) (Heap.get?_push_of_some _ e)
/-- sorted(bytes) -/
theorem sorted_bytes {Q : Value → Shared → Prop} (hh : A.handled = none) (F : Fr h₀ L s.heap m) (N : News h₀ L s.heap news) (b : Array UInt8) (t : Tok) (hn : b.size < 64)
    (hQ : ∀ D vs ns c h' tk, Fr h₀ L h' m → News h₀ L h' ((D, W.listOf (List.toArray vs) c) :: news) → (∀ p ∈ news, p.1 < D) → IntsAre vs ns → ns.Perm (KBw.bInts b) → ns.Pairwise (· ≤ ·) → Q (.ref D) { s with heap := h', toks := tk }) :
    wpAny (model prog w) A (call (.builtin "sorted") [.bytes b t]) Q E s := by
  refine Calls.call_function_entry kind_sorted plain_sorted entry_sorted (args_sorted1 _) ?_
  unfold Builtin.«sorted»
  refine wpAny_bind (m := checkCount "sorted" 1 1 _) (wpAny_pure ?_)
  refine wpAny_bind (m := collect (.bytes b t)) (collect_bytes (A := A.in1) hh b t (by rw [sizeLine_eq]; omega) fun h₁ tk acc old hacc => ?_)
  have hI := ints_of_items hacc
  have hal0 : acc.toList.length ≤ sizeLine := by rw [Array.length_toList, hacc.1, sizeLine_eq]; omega
  refine wpAny_bind (wpAny_newList (hsz := hal0) ?_)
  have hoL : (h₁.push (seqObj "list" acc.toList.toArray 0)).get? h₁.objs.size = some (seqObj "list" acc.toList.toArray 0) := Heap.get?_push_size _ rfl
  show wpAny _ _ _ _ _ { s with heap := h₁.push (seqObj "list" acc.toList.toArray 0), toks := tk }
  have hal : acc.toList.length < 64 := by rw [Array.length_toList, hacc.1]; exact hn
  refine wpAny_bind (wpAny_holding (wpAny_call_entry slot_list_sort ⟨_, hoL, rfl⟩ entry_list_sort (list_sort_tree hoL hI hal fun out ns' a1 a2 a3 => ⟨_, rfl, ?_⟩) (args_list_sort _)))
  refine wpAny_pure ⟨_, rfl, ?_⟩
  obtain ⟨e, he⟩ := sortedHeap_at (vs := acc.toList) (out := out) hoL
  have hF₁ : Fr h₀ L h₁ m := F.keeps old
  have hN₁ : News h₀ L h₁ news := N.grown old
  have old2 : ∀ a o, h₁.get? a = some o → (sortedHeap (h₁.push (seqObj "list" acc.toList.toArray 0)) h₁.objs.size acc.toList out).get? a = some o := fun a o e' => by
    rw [sortedHeap_old (Nat.ne_of_lt (Heap.lt_size e')) (by rw [size_push']; exact Nat.lt_succ_of_lt (Heap.lt_size e'))]
    exact Heap.get?_push_of_some _ e'
  refine hQ h₁.objs.size out.toList ns' e _ tk (hF₁.keeps old2) (fun p hp => ?_) (fun p hp => Heap.lt_size (hN₁ p hp).1) a1 a2 a3
  rcases List.mem_cons.mp hp with rfl | hp
  · exact ⟨by rw [Array.toArray_toList]; exact he, Nat.ne_of_gt hF₁.ns.lt, next_is_new hF₁⟩
  · exact ⟨old2 _ _ (hN₁ p hp).1, (hN₁ p hp).2⟩
end
end Mine
end

section
open PySem PySem.W PySem.Calls PyProof.Rows PyProof.Rows.LCg
namespace Mine
/-- the law's locals -/
abbrev lMap (a b c d e f g k : Option Value) : Str → Option Value := fun y =>
  if y = Str.ofString "script" then a else if y = Str.ofString "zeros" then b else if y = Str.ofString "orders" then c else if y = Str.ofString "wrong" then d else if y = Str.ofString "drawn" then e else if y = Str.ofString "row" then f else if y = Str.ofString "told" then g else if y = Str.ofString "cut" then k else none
theorem lset_script {a b c d e f g k : Option Value} {v : Value} (y : Str) : (if y = Str.ofString "script" then some v else lMap a b c d e f g k y) = lMap (some v) b c d e f g k y := by
  unfold lMap
  by_cases h0 : y = Str.ofString "script"
  · subst h0; rfl
  by_cases h1 : y = Str.ofString "zeros"
  · subst h1; rfl
  by_cases h2 : y = Str.ofString "orders"
  · subst h2; rfl
  by_cases h3 : y = Str.ofString "wrong"
  · subst h3; rfl
  by_cases h4 : y = Str.ofString "drawn"
  · subst h4; rfl
  by_cases h5 : y = Str.ofString "row"
  · subst h5; rfl
  by_cases h6 : y = Str.ofString "told"
  · subst h6; rfl
  by_cases h7 : y = Str.ofString "cut"
  · subst h7; rfl
  simp only [if_neg h0, if_neg h1, if_neg h2, if_neg h3, if_neg h4, if_neg h5, if_neg h6, if_neg h7]
theorem lset_zeros {a b c d e f g k : Option Value} {v : Value} (y : Str) : (if y = Str.ofString "zeros" then some v else lMap a b c d e f g k y) = lMap a (some v) c d e f g k y := by
  unfold lMap
  by_cases h0 : y = Str.ofString "script"
  · subst h0; rfl
  by_cases h1 : y = Str.ofString "zeros"
  · subst h1; rfl
  by_cases h2 : y = Str.ofString "orders"
  · subst h2; rfl
  by_cases h3 : y = Str.ofString "wrong"
  · subst h3; rfl
  by_cases h4 : y = Str.ofString "drawn"
  · subst h4; rfl
  by_cases h5 : y = Str.ofString "row"
  · subst h5; rfl
  by_cases h6 : y = Str.ofString "told"
  · subst h6; rfl
  by_cases h7 : y = Str.ofString "cut"
  · subst h7; rfl
  simp only [if_neg h0, if_neg h1, if_neg h2, if_neg h3, if_neg h4, if_neg h5, if_neg h6, if_neg h7]
theorem lset_orders {a b c d e f g k : Option Value} {v : Value} (y : Str) : (if y = Str.ofString "orders" then some v else lMap a b c d e f g k y) = lMap a b (some v) d e f g k y := by
  unfold lMap
  by_cases h0 : y = Str.ofString "script"
  · subst h0; rfl
  by_cases h1 : y = Str.ofString "zeros"
  · subst h1; rfl
  by_cases h2 : y = Str.ofString "orders"
  · subst h2; rfl
  by_cases h3 : y = Str.ofString "wrong"
  · subst h3; rfl
  by_cases h4 : y = Str.ofString "drawn"
  · subst h4; rfl
  by_cases h5 : y = Str.ofString "row"
  · subst h5; rfl
  by_cases h6 : y = Str.ofString "told"
  · subst h6; rfl
  by_cases h7 : y = Str.ofString "cut"
  · subst h7; rfl
  simp only [if_neg h0, if_neg h1, if_neg h2, if_neg h3, if_neg h4, if_neg h5, if_neg h6, if_neg h7]
theorem lset_wrong {a b c d e f g k : Option Value} {v : Value} (y : Str) : (if y = Str.ofString "wrong" then some v else lMap a b c d e f g k y) = lMap a b c (some v) e f g k y := by
  unfold lMap
  by_cases h0 : y = Str.ofString "script"
  · subst h0; rfl
  by_cases h1 : y = Str.ofString "zeros"
  · subst h1; rfl
  by_cases h2 : y = Str.ofString "orders"
  · subst h2; rfl
  by_cases h3 : y = Str.ofString "wrong"
  · subst h3; rfl
  by_cases h4 : y = Str.ofString "drawn"
  · subst h4; rfl
  by_cases h5 : y = Str.ofString "row"
  · subst h5; rfl
  by_cases h6 : y = Str.ofString "told"
  · subst h6; rfl
  by_cases h7 : y = Str.ofString "cut"
  · subst h7; rfl
  simp only [if_neg h0, if_neg h1, if_neg h2, if_neg h3, if_neg h4, if_neg h5, if_neg h6, if_neg h7]
theorem lset_drawn {a b c d e f g k : Option Value} {v : Value} (y : Str) : (if y = Str.ofString "drawn" then some v else lMap a b c d e f g k y) = lMap a b c d (some v) f g k y := by
  unfold lMap
  by_cases h0 : y = Str.ofString "script"
  · subst h0; rfl
  by_cases h1 : y = Str.ofString "zeros"
  · subst h1; rfl
  by_cases h2 : y = Str.ofString "orders"
  · subst h2; rfl
  by_cases h3 : y = Str.ofString "wrong"
  · subst h3; rfl
  by_cases h4 : y = Str.ofString "drawn"
  · subst h4; rfl
  by_cases h5 : y = Str.ofString "row"
  · subst h5; rfl
  by_cases h6 : y = Str.ofString "told"
  · subst h6; rfl
  by_cases h7 : y = Str.ofString "cut"
  · subst h7; rfl
  simp only [if_neg h0, if_neg h1, if_neg h2, if_neg h3, if_neg h4, if_neg h5, if_neg h6, if_neg h7]
theorem lset_row {a b c d e f g k : Option Value} {v : Value} (y : Str) : (if y = Str.ofString "row" then some v else lMap a b c d e f g k y) = lMap a b c d e (some v) g k y := by
  unfold lMap
  by_cases h0 : y = Str.ofString "script"
  · subst h0; rfl
  by_cases h1 : y = Str.ofString "zeros"
  · subst h1; rfl
  by_cases h2 : y = Str.ofString "orders"
  · subst h2; rfl
  by_cases h3 : y = Str.ofString "wrong"
  · subst h3; rfl
  by_cases h4 : y = Str.ofString "drawn"
  · subst h4; rfl
  by_cases h5 : y = Str.ofString "row"
  · subst h5; rfl
  by_cases h6 : y = Str.ofString "told"
  · subst h6; rfl
  by_cases h7 : y = Str.ofString "cut"
  · subst h7; rfl
  simp only [if_neg h0, if_neg h1, if_neg h2, if_neg h3, if_neg h4, if_neg h5, if_neg h6, if_neg h7]
theorem lset_told {a b c d e f g k : Option Value} {v : Value} (y : Str) : (if y = Str.ofString "told" then some v else lMap a b c d e f g k y) = lMap a b c d e f (some v) k y := by
  unfold lMap
  by_cases h0 : y = Str.ofString "script"
  · subst h0; rfl
  by_cases h1 : y = Str.ofString "zeros"
  · subst h1; rfl
  by_cases h2 : y = Str.ofString "orders"
  · subst h2; rfl
  by_cases h3 : y = Str.ofString "wrong"
  · subst h3; rfl
  by_cases h4 : y = Str.ofString "drawn"
  · subst h4; rfl
  by_cases h5 : y = Str.ofString "row"
  · subst h5; rfl
  by_cases h6 : y = Str.ofString "told"
  · subst h6; rfl
  by_cases h7 : y = Str.ofString "cut"
  · subst h7; rfl
  simp only [if_neg h0, if_neg h1, if_neg h2, if_neg h3, if_neg h4, if_neg h5, if_neg h6, if_neg h7]
theorem lset_cut {a b c d e f g k : Option Value} {v : Value} (y : Str) : (if y = Str.ofString "cut" then some v else lMap a b c d e f g k y) = lMap a b c d e f g (some v) y := by
  unfold lMap
  by_cases h0 : y = Str.ofString "script"
  · subst h0; rfl
  by_cases h1 : y = Str.ofString "zeros"
  · subst h1; rfl
  by_cases h2 : y = Str.ofString "orders"
  · subst h2; rfl
  by_cases h3 : y = Str.ofString "wrong"
  · subst h3; rfl
  by_cases h4 : y = Str.ofString "drawn"
  · subst h4; rfl
  by_cases h5 : y = Str.ofString "row"
  · subst h5; rfl
  by_cases h6 : y = Str.ofString "told"
  · subst h6; rfl
  by_cases h7 : y = Str.ofString "cut"
  · subst h7; rfl
  simp only [if_neg h0, if_neg h1, if_neg h2, if_neg h3, if_neg h4, if_neg h5, if_neg h6, if_neg h7]
abbrev cells (L : Addr) (o1 o2 o3 o4 o5 : Obj) (ex : List (Addr × Obj)) : List (Addr × Obj) := (L + 1 + 1 + 1 + 1 + 1, o5) :: (L + 1 + 1 + 1 + 1, o4) :: (L + 1 + 1 + 1, o3) :: (L + 1 + 1, o2) :: (L + 1, o1) :: ex
def Away (L : Addr) (ex : List (Addr × Obj)) : Prop := ∀ p ∈ ex, p.1 ≠ L + 1 ∧ p.1 ≠ L + 1 + 1 ∧ p.1 ≠ L + 1 + 1 + 1 ∧ p.1 ≠ L + 1 + 1 + 1 + 1 ∧ p.1 ≠ L + 1 + 1 + 1 + 1 + 1
/-- a list of rows in the ledger -/
def RowsIn (ex : List (Addr × Obj)) (z : Addr) (rows : List (List UInt8)) : Prop := ∃ its o n, (z, o) ∈ ex ∧ o.cls = .type "list" ∧ o.data = .seq (List.toArray its) n ∧ RowsAre its rows
/-- a list of comparisons in the ledger -/
def CmpIn (ex : List (Addr × Obj)) (c : Addr) (ps : List (Nat × Nat)) : Prop := ∃ its o n, (c, o) ∈ ex ∧ o.cls = .type "list" ∧ o.data = .seq (List.toArray its) n ∧ PairsIn ex its ps
theorem RowsIn.mono {ex ex' : List (Addr × Obj)} {z : Addr} {rows : List (List UInt8)} (h : RowsIn ex z rows) (k : ∀ q ∈ ex, q ∈ ex') : RowsIn ex' z rows := by
  obtain ⟨its, o, n, hm, r⟩ := h
  exact ⟨its, o, n, k _ hm, r⟩
theorem CmpIn.mono {ex ex' : List (Addr × Obj)} {c : Addr} {ps : List (Nat × Nat)} (h : CmpIn ex c ps) (k : ∀ q ∈ ex, q ∈ ex') : CmpIn ex' c ps := by
  obtain ⟨its, o, n, hm, a, b, r⟩ := h
  exact ⟨its, o, n, k _ hm, a, b, r.mono k⟩
end Mine
end

section
open PySem PySem.W PySem.Calls PyProof.Rows
namespace Mine
def srt (r : List UInt8) : Bool := decide ((KBw.bInts r.toArray).Pairwise (· ≤ ·))
theorem perm_sorted : ∀ {a b : List Int}, a.Perm b → a.Pairwise (· ≤ ·) → b.Pairwise (· ≤ ·) → a = b
  | [], b, h, _, _ => by rw [List.nil_perm.mp h]
  | x :: a, [], h, _, _ => by simp at h
  | x :: a, y :: b, h, ha, hb => by
    have hx : x ∈ y :: b := h.mem_iff.mp List.mem_cons_self
    have hy : y ∈ x :: a := h.mem_iff.mpr List.mem_cons_self
    have e : x = y := by
      rcases List.mem_cons.mp hx with e | hx
      · exact e
      · rcases List.mem_cons.mp hy with e | hy
        · exact e.symm
        · exact Int.le_antisymm ((List.pairwise_cons.mp ha).1 y hy) ((List.pairwise_cons.mp hb).1 x hx)
    subst e
    rw [perm_sorted ((List.perm_cons x).mp h) (List.pairwise_cons.mp ha).2 (List.pairwise_cons.mp hb).2]
theorem swp_perm {r : List UInt8} {p : Nat × Nat} (hr : r.length = 4) (hp : GoodPair p) : (swp r p).Perm r := by
  obtain ⟨i, j⟩ := p
  obtain ⟨h1, h2⟩ := hp
  unfold swp
  split
  · match r, hr with
    | [a, b, c, d], _ =>
      have hi : i = 0 ∨ i = 1 ∨ i = 2 := by omega
      have hj' : j = 1 ∨ j = 2 ∨ j = 3 := by omega
      rcases hi with rfl | rfl | rfl <;> rcases hj' with rfl | rfl | rfl <;> first | omega | (simp only [List.getD_cons_zero, List.getD_cons_succ, List.set_cons_zero, List.set_cons_succ]; first | exact List.Perm.swap .. | decide | (rw [List.perm_iff_count]; intro x; simp only [List.count_cons, List.count_nil]; omega))
  · exact List.Perm.refl _
theorem net_perm : ∀ {ps : List (Nat × Nat)} {r : List UInt8}, r.length = 4 → (∀ p ∈ ps, GoodPair p) → (net ps r).Perm r
  | [], r, _, _ => List.Perm.refl _
  | p :: ps, r, hr, h => by
    show (net ps (swp r p)).Perm r
    exact (net_perm (by rw [swp_length]; exact hr) fun q hq => h q (List.mem_cons_of_mem _ hq)).trans (swp_perm hr (h p List.mem_cons_self))
theorem bInts_perm {a b : List UInt8} (h : a.Perm b) : (KBw.bInts a.toArray).Perm (KBw.bInts b.toArray) := h.map _
theorem srt_eq {r q : List UInt8} {ns : List Int} (h : KBw.bInts q.toArray = ns) (hs : ns.Pairwise (· ≤ ·)) : srt q = true := by
  unfold srt
  rw [h]
  exact decide_eq_true hs
theorem srt_ne {r q : List UInt8} {ns : List Int} (h : ¬ KBw.bInts q.toArray = ns) (hp : ns.Perm (KBw.bInts r.toArray)) (hs : ns.Pairwise (· ≤ ·)) (hq : q.Perm r) : srt q = false := by
  unfold srt
  refine decide_eq_false fun k => h (perm_sorted ((bInts_perm hq).trans hp.symm) k hs)
theorem filter_in {ys : List Value} {rows : List (List UInt8)} {p : List UInt8 → Bool} {j : Nat} {q : List UInt8} {t : Tok} (hys : RowsAre ys ((rows.take j).filter p)) (hq : rows[j]? = some q) (hp : p q = true) :
    RowsAre (ys ++ [.bytes q.toArray t]) ((rows.take (j + 1)).filter p) := by
  rw [List.take_succ, hq, Option.toList_some, List.filter_append, List.filter_cons_of_pos hp, List.filter_nil]
  exact rows_append hys ⟨rfl, fun i v r hv hr => by
    cases i with
    | zero => cases hv; cases hr; exact ⟨t, rfl⟩
    | succ i => simp at hv⟩
theorem filter_out {ys : List Value} {rows : List (List UInt8)} {p : List UInt8 → Bool} {j : Nat} {q : List UInt8} (hys : RowsAre ys ((rows.take j).filter p)) (hq : rows[j]? = some q) (hp : ¬ p q = true) :
    RowsAre ys ((rows.take (j + 1)).filter p) := by
  rw [List.take_succ, hq, Option.toList_some, List.filter_append, List.filter_cons_of_neg hp, List.filter_nil, List.append_nil]
  exact hys
end Mine
end

section
open PySem PySem.W PySem.Calls PyProof.Rows PyProof.Rows.LCg
set_option maxRecDepth 100000
namespace Mine
section
variable {prog : Program} {w : World} {A : Around} {s : Shared} {env : Env}
/-- name = [comprehension], the name a local -/
theorem wpN_Assign_comp {elt tgt iter : Expr} {ifs : List Expr} {gs : List Comprehension} {scope : Scope} {pos spos py : Pos} {y : Str} {cl : List (Str × Addr)} {Q : Flow → Shared → Prop}
    (hsw : swapsWith (.ListComp elt (⟨tgt, iter, ifs, 0⟩ :: gs) scope pos) (some (.Name y py)) spos.line env = pure true)
    (hs : ∀ x, foldedSetIterable iter env x = pure x) (hclos : closureFor scope env = pure cl)
    (hkind : scope.kind = .function) (hnames : ∀ x ∈ scope.names, x.2 = .local → scope.names.lookup x.1 = some .local)
    (h : wpN (model prog w) A (eval iter env) (fun x s₁ => wpN (model prog w) A (pyIter x) (fun it s₂ => wpAny (model prog w) A (newList []) (fun acc s₃ =>
      wpAny (model prog w) A (newFunctionEnv scope env.globals cl [] env.qual none .none (some env)) (fun cenv s₄ =>
        codeN (model prog w) A (.compStart (.ListComp elt (⟨tgt, iter, ifs, 0⟩ :: gs) scope pos) 0 it acc { cenv with scope := relabel scope env }) (endN (model prog w) A noE (some (assign (.Name y py) env)) (fun _ s' => Q .next s') acc cenv.locals) s₄) noE s₃) noE s₂) noE s₁) noE s) :
    wpN (model prog w) A (exec (.Assign [.Name y py] (.ListComp elt (⟨tgt, iter, ifs, 0⟩ :: gs) scope pos) spos) env) Q noE s := by
  rw [exec_Assign_Name_used _ _ _ _ hsw]
  refine wpN_step (wpAny_standAt (wpN_bind ?_))
  show wpN _ A (do let _ ← comprehension (.ListComp elt (⟨tgt, iter, ifs, 0⟩ :: gs) scope pos) scope env _ (newList []) false (eval iter env) (some (assign (.Name y py) env))) _ _ s
  exact wpN_bind (wpN_mono (compN (use := some (assign (.Name y py) env)) (Q := fun _ s' => Q .next s') rfl hs hclos hkind hnames h) (fun _ s' hq => wpN_pure (wpN_pure hq)) fun _ _ e => e)
end
end Mine
end

section
open PySem PySem.W PySem.Calls PyProof.Rows PyProof.Rows.LCg
set_option maxRecDepth 100000
namespace Mine
section
variable {prog : Program} {w : World} {A : Around} {E : Value → Shared → Prop} {s : Shared} {R : Result → Shared → Prop} {h₀ : Heap} {L : Addr} {m : Str → Option Value} {news : List (Addr × Obj)} {env : Env}
theorem newEnvC {M : Model} {scope : Scope} {globals : Addr} {qual : Str} {Q : Env → Shared → Prop}
    (h : Q (newEnv scope s.heap.objs.size globals (cellsFrom (s.heap.objs.size + 1) scope.names []) qual none .none (some env) builtinsNs) { s with heap := pushCells (s.heap.push { cls := .type "dict", data := .dict #[] }) scope.names }) :
    wpAny M A (newFunctionEnv scope globals [] [] qual none .none (some env)) Q E s := by
  simp only [newFunctionEnv, Option.isSome_some, if_true]
  refine wpAny_bind (wpAny_alloc ?_)
  refine wpAny_bind (wpAny_layCells _ (fun name kind cells => by cases hkc : kind == NameKind.cell <;> simp [hkc]) _ _ _ _ ?_)
  rw [show ({ s with heap := s.heap.push { cls := .type "dict", data := .dict #[] } } : Shared).heap.objs.size = s.heap.objs.size + 1 from Heap.size_push ..]
  exact wpAny_pure h
theorem lookup_relabel_cell {scope : Scope} {cl : List (Str × Addr)} {C : Addr} {x : Str} (h : scope.names.lookup x = some NameKind.cell) : (compEnvC scope cl C env).kindOf x = some NameKind.cell := by
  show List.lookup x (scope.names.map _) = some NameKind.cell
  generalize scope.names = names at h ⊢
  induction names with
  | nil => cases h
  | cons p r ih =>
    obtain ⟨n, k⟩ := p
    rw [List.lookup_cons] at h
    rw [List.map_cons]
    cases hb : x == n with
    | true =>
      rw [hb] at h
      cases h
      simp [List.lookup_cons, hb]
    | false =>
      rw [hb] at h
      have := ih h
      show List.lookup x ((if (k == NameKind.free && env.scope.kind == .function && env.kindOf n == some .cell) = true then (n, NameKind.cell) else (n, k)) :: _) = _
      by_cases hc : (k == NameKind.free && env.scope.kind == .function && env.kindOf n == some .cell) = true
      · rw [if_pos hc, List.lookup_cons, hb]; exact this
      · rw [if_neg hc, List.lookup_cons, hb]; exact this
/-- one clause, its name a cell of the comprehension -/
theorem blockNC {elt iter : Expr} {x : Str} {px : Pos} {ifs : List Expr} {scope : Scope} {pos : Pos} {I : Addr} {fp : List Addr} {n : Nat} {P : Nat → Value → Prop} {St : Nat → Heap → Prop}
    {use : Option (Value → Sem Unit)} {Q : Value → Shared → Prop}
    (W : Walks prog w A I fp [I] n P St) (hIo : ∀ i h, St i h → ∃ o, h.get? I = some o)
    (hSt : ∀ i h h' o nw, St i h → h.get? I = some o → h'.get? I = some o → (∀ b o, h₀.get? b = some o → h'.get? b = some o) → News h₀ L h' nw → True → St i h')
    (hkind : scope.kind = .function) (hx : scope.names.lookup x = some NameKind.cell) (hpush : ∀ h, pushCells h scope.names = h.push { cls := .type "cell", data := .cell none }) (hcs : ∀ n, cellsFrom n scope.names [] = [(x, n)])
    (hst : St 0 s.heap) (hfp : ∀ b ∈ fp, b < s.heap.objs.size)
    (F : Fr h₀ L s.heap m) (N : News h₀ L s.heap news) (hIL : L ≠ I) (hI₀ : h₀.get? I = none) (off : ∀ p ∈ news, p.1 ≠ I)
    (J : Nat → List Value → Prop) (hJ0 : J 0 [])
    (turn : ∀ C D c, I ≠ C → I ≠ D → C ≠ D → ∀ i v ys m₂ oI oC oc h tk, i < n → P i v → J i ys → NsObj oC m₂ → oc.data = .cell (some v) → Fr h₀ L h m → News h₀ L h ((I, oI) :: (C, oC) :: (D, lst ys) :: (c, oc) :: news) → Off3 I C D ((c, oc) :: news) →
      wpN (model prog w) A (tests ifs (compEnvC scope [(x, c)] C env)) (fun ok s₄ => if ok = true then wpN (model prog w) A (eval elt (compEnvC scope [(x, c)] C env)) (TEy h₀ L m s I C D (fun i ys nw _ => ∃ oc v₀, nw = (c, oc) :: news ∧ oc.data = .cell v₀ ∧ J i ys) (i + 1) oI) noE s₄ else TE h₀ L m s I C D (fun i ys nw _ => ∃ oc v₀, nw = (c, oc) :: news ∧ oc.data = .cell v₀ ∧ J i ys) (i + 1) oI s₄) noE { s with heap := h, toks := tk })
    (hEnd : ∀ D C h tk m' ys, Fr h₀ L h m → News h₀ L h ((D, lst ys) :: news) → Off1 D news → h.Ns C m' → h₀.get? C = none → C ≠ L → C ≠ D → (∀ p ∈ news, p.1 ≠ C) → J n ys → endN (model prog w) A E use Q (.ref D) C (.ok .next) { s with heap := h, toks := tk }) :
    wpAny (model prog w) A (newList []) (fun acc s₃ => wpAny (model prog w) A (newFunctionEnv scope env.globals [] [] env.qual none .none (some env)) (fun cenv s₄ =>
      codeN (model prog w) A (.compStart (.ListComp elt [⟨.Name x px, iter, ifs, 0⟩] scope pos) 0 (.ref I) acc { cenv with scope := relabel scope env }) (endN (model prog w) A E use Q acc cenv.locals) s₄) E s₃) E s := by
  refine wpAny_newObj_type (newEnvC ?_)
  dsimp only
  rw [hpush, hcs]
  have hIlt : I < s.heap.objs.size := hfp I (W.sub I (List.mem_singleton.mpr rfl))
  generalize hH2 : s.heap.push { cls := .type "list", dict := none, data := .seq ([] : List Value).toArray } = H2
  generalize hH3 : H2.push { cls := .type "dict", data := .dict #[] } = H3
  generalize hH4 : H3.push { cls := .type "cell", data := .cell none } = H4
  have hC : H2.objs.size = s.heap.objs.size + 1 := by rw [← hH2, Heap.size_push]
  have hc : H3.objs.size = H2.objs.size + 1 := by rw [← hH3, Heap.size_push]
  have F2 : Fr h₀ L H2 m := hH2 ▸ F.push _
  have N2 : News h₀ L H2 ((s.heap.objs.size, lst []) :: news) := hH2 ▸ N.push F _
  have F3 : Fr h₀ L H3 m := hH3 ▸ F2.push _
  have N3 : News h₀ L H3 ((H2.objs.size, { cls := .type "dict", data := .dict #[] }) :: (s.heap.objs.size, lst []) :: news) := hH3 ▸ N2.push F2 _
  have F4 : Fr h₀ L H4 m := hH4 ▸ F3.push _
  have N4 : News h₀ L H4 ((H3.objs.size, { cls := .type "cell", data := .cell none }) :: (H2.objs.size, { cls := .type "dict", data := .dict #[] }) :: (s.heap.objs.size, lst []) :: news) := hH4 ▸ N3.push F3 _
  have hns : NsObj { cls := .type "dict", data := .dict #[] } (fun _ => none) := ⟨#[], 0, rfl, fun _ he => by simp at he, fun _ => rfl⟩
  have zC := N4 _ (List.mem_cons_of_mem _ List.mem_cons_self)
  have old : ∀ b o, s.heap.get? b = some o → H4.get? b = some o := fun b o e => hH4 ▸ Heap.get?_push_of_some _ (hH3 ▸ Heap.get?_push_of_some _ (hH2 ▸ Heap.get?_push_of_some _ e))
  have hst₁ : St 0 H4 := W.frame _ _ _ hst fun b _ o e => old b o e
  have newsLt : ∀ p ∈ news, p.1 < s.heap.objs.size := fun p hp => Heap.lt_size (N p hp).1
  have l1 : s.heap.objs.size < H2.objs.size := by rw [hC]; exact Nat.lt_succ_self _
  have l2 : H2.objs.size < H3.objs.size := by rw [hc]; exact Nat.lt_succ_self _
  have l3 := Nat.lt_trans l1 l2
  have hIC : I ≠ H2.objs.size := Nat.ne_of_lt (Nat.lt_trans hIlt l1)
  have hID : I ≠ s.heap.objs.size := Nat.ne_of_lt hIlt
  have hIc : I ≠ H3.objs.size := Nat.ne_of_lt (Nat.lt_trans hIlt l3)
  have hCD : H2.objs.size ≠ s.heap.objs.size := Nat.ne_of_gt l1
  have hcC : H3.objs.size ≠ H2.objs.size := Nat.ne_of_gt l2
  have hcD : H3.objs.size ≠ s.heap.objs.size := Nat.ne_of_gt l3
  have off₀ : ∀ oc : Obj, Off3 I H2.objs.size s.heap.objs.size ((H3.objs.size, oc) :: news) := fun oc => Off3.of fun p hp => by
    rcases List.mem_cons.mp hp with rfl | hp
    · exact ⟨Ne.symm hIc, hcC, hcD⟩
    · have := newsLt p hp
      exact ⟨off p hp, Nat.ne_of_lt (Nat.lt_trans this l1), Nat.ne_of_lt this⟩
  have hxl : (compEnvC scope [(x, H3.objs.size)] H2.objs.size env).kindOf x = some NameKind.cell := lookup_relabel_cell hx
  have loop : ∀ tk, codeN (model prog w) A (.compLoop (.ListComp elt [⟨.Name x px, iter, ifs, 0⟩] scope pos) 0 (.ref I) (.ref s.heap.objs.size) (compEnvC scope [(x, H3.objs.size)] H2.objs.size env)) (endN (model prog w) A E use Q (.ref s.heap.objs.size) H2.objs.size) { s with heap := H4, toks := tk } := by
    intro tk
    refine clauseN (S := fun _ => True) (INN := innLast prog w A elt (compEnvC scope [(x, H3.objs.size)] H2.objs.size env) s.heap.objs.size) (LP := codeN (model prog w) A (.compLoop (.ListComp elt [⟨.Name x px, iter, ifs, 0⟩] scope pos) 0 (.ref I) (.ref s.heap.objs.size) (compEnvC scope [(x, H3.objs.size)] H2.objs.size env)) (endN (model prog w) A E use Q (.ref s.heap.objs.size) H2.objs.size))
      W hIo hSt hIL hI₀ hIC hID (fun _ => rfl) (fun K K' s h q => innLast_mono K K' s h q) (fun s h => stepLast rfl rfl h)
      (fun i ys nw _ => ∃ oc v₀, nw = (H3.objs.size, oc) :: news ∧ oc.data = .cell v₀ ∧ J i ys) (fun _ _ _ _ _ => trivial) ?_ ?_ n 0 [] ((H3.objs.size, _) :: news) (fun _ => none) _ H4 tk (Nat.zero_add _) ⟨{ cls := .type "cell", data := .cell none }, none, rfl, rfl, hJ0⟩ hst₁ hns F4 (fun p hp => N4 p ?_) (off₀ _)
    · rintro i v ys nw m₂ oI oC h tk' hi hP ⟨oc, v₀, rfl, hd, hJ⟩ hC' F' N' off'
      have zc := N' (H3.objs.size, oc) (List.mem_cons_of_mem _ (List.mem_cons_of_mem _ (List.mem_cons_of_mem _ List.mem_cons_self)))
      refine wpN_of (wpAny_assign_Name (wpAny_storeName_cell (c := H3.objs.size) (by simp [compEnvC, relabel, hkind]) hxl (by simp [compEnvC]) ⟨oc, zc.1, hd⟩ fun h' hcell hs => ?_))
      obtain ⟨oc', e', hd'⟩ := hcell
      have F₂ := F'.change hs zc.2.1 zc.2.2
      have N₂ : News h₀ L h' ((I, oI) :: (H2.objs.size, oC) :: (s.heap.objs.size, lst ys) :: (H3.objs.size, oc') :: news) := by
        refine News.mid (pre := [(I, oI), (H2.objs.size, oC), (s.heap.objs.size, lst ys)]) N' hs e' ?_ fun p hp => ?_
        · intro p hp
          simp only [List.mem_cons, List.not_mem_nil, or_false] at hp
          rcases hp with rfl | rfl | rfl
          · exact hIc
          · exact Ne.symm hcC
          · exact Ne.symm hcD
        · exact Nat.ne_of_lt (Nat.lt_trans (newsLt p hp) l3)
      refine wpN_mono (turn _ _ H3.objs.size hIC hID hCD i v ys m₂ oI oC oc' h' _ hi hP hJ hC' hd' F₂ N₂ (off₀ oc')) (fun ok s₄ h₄ => ?_) fun _ _ x => x
      cases ok with
      | false => exact h₄
      | true => exact emitN hID hCD h₄
    · rintro ys nw m₂ oC' h tk' ⟨oc, v₀, rfl, hd, hJ⟩ hC' F' N' off'
      have zC' := (N' _ List.mem_cons_self).1
      refine hEnd _ _ h tk' m₂ ys F' (fun p hp => N' p ?_) off'.one.2 (hC'.ns zC') zC.2.2 zC.2.1 hCD (fun p hp => (off'.mem p (List.mem_cons_of_mem _ hp)).2.1) hJ
      rcases List.mem_cons.mp hp with rfl | hp
      · exact List.mem_cons_of_mem _ List.mem_cons_self
      · exact List.mem_cons_of_mem _ (List.mem_cons_of_mem _ (List.mem_cons_of_mem _ hp))
    · rcases List.mem_cons.mp hp with rfl | hp
      · exact List.mem_cons_of_mem _ List.mem_cons_self
      · rcases List.mem_cons.mp hp with rfl | hp
        · exact List.mem_cons_of_mem _ (List.mem_cons_of_mem _ List.mem_cons_self)
        · rcases List.mem_cons.mp hp with rfl | hp
          · exact List.mem_cons_self
          · exact List.mem_cons_of_mem _ (List.mem_cons_of_mem _ (List.mem_cons_of_mem _ hp))
  rw [← hc]
  exact startN _ rfl rfl (loop _) (W.self 0 _ _ _ hst₁ (loop _))
end
end Mine
end

section
open PySem PySem.W PySem.Calls PyProof.Rows PyProof.Rows.LCg
set_option maxRecDepth 100000
namespace Mine
section
variable {prog : Program} {w : World} {A : Around} {E : Value → Shared → Prop} {s : Shared} {env : Env} {M : Model}
def isB (k : List UInt8) : Value → Bool
  | .bytes b _ => decide (b.toList = k)
  | _ => false
theorem any_isB {k : List UInt8} {its : List Value} {rows : List (List UInt8)} (h : RowsAre its rows) : its.any (isB k) = rows.any fun q => decide (q = k) := by
  rw [Bool.eq_iff_iff, List.any_eq_true, List.any_eq_true]
  constructor
  · rintro ⟨v, hv, hk⟩
    obtain ⟨i, hi, rfl⟩ := List.getElem_of_mem hv
    have hr : rows[i]? = some (rows[i]'(by rw [← h.1]; exact hi)) := List.getElem?_eq_getElem _
    obtain ⟨t, e⟩ := h.2 i _ _ (List.getElem?_eq_getElem hi) hr
    rw [e] at hk
    exact ⟨_, List.mem_of_getElem? hr, hk⟩
  · rintro ⟨r, hr, hk⟩
    obtain ⟨i, hi, rfl⟩ := List.getElem_of_mem hr
    have hv : its[i]? = some (its[i]'(by rw [h.1]; exact hi)) := List.getElem?_eq_getElem _
    obtain ⟨t, e⟩ := h.2 i _ _ hv (List.getElem?_eq_getElem hi)
    refine ⟨_, List.mem_of_getElem? hv, ?_⟩
    rw [e]; exact hk
theorem notin_rows {l : Addr} {its : List Value} {rows : List (List UInt8)} {r : List UInt8} {t : Tok} {Q : Value → Shared → Prop} (hl : s.heap.IsList l its.toArray) (h : RowsAre its rows)
    (hQ : Q (.bool (!(rows.any fun q => decide (q = r)))) s) : wpAny (model prog w) A (compareOp .NotIn (.bytes r.toArray t) (.ref l)) Q E s := by
  refine SeqInW.notIn_listW (isB r) (fun y hy => ?_) hl (by rw [← Array.any_toList, show its.toArray.toList = its from rfl, any_isB h]; exact hQ)
  obtain ⟨i, hi, rfl⟩ := List.getElem_of_mem (show y ∈ its by simpa using hy)
  obtain ⟨u, e⟩ := h.2 i _ _ (List.getElem?_eq_getElem hi) (List.getElem?_eq_getElem (by rw [← h.1]; exact hi))
  rw [e]
  exact fun _ _ _ _ _ _ q => eqBool_bytes q
theorem rows_nil {its : List Value} {rows : List (List UInt8)} (h : RowsAre its rows) : its = [] ↔ rows = [] := by
  rw [← List.length_eq_zero_iff, ← List.length_eq_zero_iff, h.1]
theorem wpN_isTrue_And2 {x y : Expr} {pos : Pos} {whole : Sem Value} {Q : Bool → Shared → Prop}
    (h : wpN M A (isTrue x env (eval x env)) (fun b s₁ => if b then wpN M A (isTrue y env (eval y env)) Q E s₁ else Q false s₁) E s) : wpN M A (isTrue (.BoolOp .And [x, y] pos) env whole) Q E s := by
  rw [arm_isTrue_BoolOp]
  show wpN M A (do match BoolOp.And, ← isTrue x env (eval x env) with | .And, false => pure false | .Or, true => pure true | _, _ => allTrue .And [y] env) Q E s
  refine wpN_bind (wpN_mono h (fun b s₁ h₁ => ?_) fun _ _ x => x)
  cases b
  · exact wpN_pure h₁
  · show wpN M A (do match BoolOp.And, ← isTrue y env (eval y env) with | .And, false => pure false | .Or, true => pure true | _, _ => allTrue .And [] env) Q E s₁
    refine wpN_bind (wpN_mono h₁ (fun b s₂ h₂ => ?_) fun _ _ x => x)
    cases b
    · exact wpN_pure h₂
    · exact wpN_pure h₂
theorem eq_empty {a b : Addr} {its : List Value} {rows : List (List UInt8)} {Q : Value → Shared → Prop} (ha : s.heap.IsList a its.toArray) (h : RowsAre its rows) (hb : s.heap.IsList b #[]) (hu : A.units + 64 < cLine)
    (hQ : Q (.bool (decide (rows = []))) s) : wpAny (model prog w) A (compareOp .Eq (.ref a) (.ref b)) Q E s := by
  cases its with
  | nil =>
    have e : rows = [] := (rows_nil h).mp rfl
    refine eq_intsK (vs := []) (us := []) (ns := []) (ms := []) ha .nil hb .nil hu ?_
    rw [e] at hQ; exact hQ
  | cons v vs =>
    have e : rows ≠ [] := fun q => by have := (rows_nil h).mpr q; cases this
    refine SeqAt.eq_list_lengthsAt ha hb (by simp) (by omega) ?_
    rw [decide_eq_false e] at hQ; exact hQ
theorem ne_empty {a b : Addr} {its : List Value} {rows : List (List UInt8)} {Q : Value → Shared → Prop} (ha : s.heap.IsList a its.toArray) (h : RowsAre its rows) (hb : s.heap.IsList b #[]) (hu : A.units + 64 < cLine)
    (hQ : Q (.bool (!decide (rows = []))) s) : wpAny (model prog w) A (compareOp .NotEq (.ref a) (.ref b)) Q E s := by
  cases its with
  | nil =>
    have e : rows = [] := (rows_nil h).mp rfl
    refine ne_intsK (vs := []) (us := []) (ns := []) (ms := []) ha .nil hb .nil hu ?_
    rw [e] at hQ; exact hQ
  | cons v vs =>
    have e : rows ≠ [] := fun q => by have := (rows_nil h).mpr q; cases this
    rw [decide_eq_false e] at hQ
    exact SeqAt.RcNeAt.lists_lengths (A := A) ha hb (by simp) (by omega) prog w E Q hQ
end
end Mine
end

section
open PySem PySem.W PySem.Calls PyProof.Rows PyProof.Rows.LCg
namespace Mine
local macro_rules | `(tactic| walk_at "call builtin:sorted") => `(tactic| (k_here; (with_reducible show wpAny _ _ (call (Value.builtin "sorted") [Value.bytes _ _]) _ _ _); (with_reducible rename Fr _ _ _ _ => F7); (with_reducible rename News _ _ _ _ => N7); (refine sorted_bytes rfl F7 N7 _ _ (by (try simp only [List.size_toArray]); omega) ?_); clear F7 N7; intro _ _ _ _ _ _ _ _ _ _ _ _))
local macro_rules | `(tactic| walk_at "call type:list") => `(tactic| (k_here; (with_reducible show wpAny _ _ (call (Value.type "list") [Value.bytes _ _]) _ _ _); (with_reducible rename Fr _ _ _ _ => F7); (with_reducible rename News _ _ _ _ => N7); (refine list_bytes rfl F7 N7 _ _ (by (try simp only [List.size_toArray]); omega) ?_); clear F7 N7; intro _ _ _ _ _ _ _ _ _))
set_option maxRecDepth 100000 in
set_option maxHeartbeats 8000000 in
theorem s5 : ∀ (w : World) (mean : ExcName → Option Value) (mg mb : Str → Option Value) (h₀ : Heap) (L fa : Addr) (cd : Value) (s : Shared) (ex : List (Addr × Obj)) (o1 o2 o3 o4 o5 : Obj) (a e f g k or wr : Option Value) (c zl : Addr) (ps : List (Nat × Nat)) (rows : List (List UInt8)) (Q : Flow → Shared → Prop)
    (_ : Below callerA h₀ [] h₀) (_ : (Mine.hd.heap_39 w.params).In h₀) (_ : Top Mine.hd.view_39 (looseW Mine.hd.view_39 []) mean mg mb h₀)
    (_ : Fr h₀ L s.heap (lMap a (some (.ref zl)) or wr e f g k)) (_ : News h₀ L s.heap (cells L o1 o2 o3 o4 o5 ex)) (_ : o2.data = .cell (some (.ref c)))
    (_ : CmpIn ex c ps) (_ : ∀ p ∈ ps, GoodPair p) (_ : RowsIn ex zl rows) (_ : rows.length ≤ 1000) (_ : ∀ r ∈ rows, r.length = 4)
    (_ : ∀ D ys h' tk', Fr h₀ L h' (lMap a (some (.ref zl)) or wr e f g k) → News h₀ L h' ((D, lst ys) :: cells L o1 o2 o3 o4 o5 ex) → Off1 D (cells L o1 o2 o3 o4 o5 ex) → RowsAre ys (rows.filter fun r => !srt (net ps r)) →
      wpAny (model PySem.Challenge.rw_zw0001_01.prog w) (callerA.deeper (lEnv L fa cd)) (storeName (lEnv L fa cd) (Str.ofString "bad") (.ref D)) (fun _ => Q .next) noE { s with heap := h', toks := tk' }),
    wpN (model PySem.Challenge.rw_zw0001_01.prog w) (callerA.deeper (lEnv L fa cd)) (exec (stmt 5) (lEnv L fa cd)) Q noE s := by
  k_fill
  intro w mean mg mb h₀ L fa cd s ex o1 o2 o3 o4 o5 a e f g k or wr c zl ps rows Q B X T F N d2 hc hgood hz hfew h4 hret
  have hB : stmt 5 = stmt 5 := rfl
  conv at hB => rhs; whnf
  have hS : fnScope 7 = fnScope 7 := rfl
  conv at hS => rhs; whnf
  unfold lEnv at hret ⊢
  rw [hB, hS]
  rw [hS] at hret
  clear hB hS
  obtain ⟨zi, oz, nz, hzm, hzc, hzd, hzr⟩ := id hz
  obtain ⟨ci, oc, nc, hcm, hcc, hcd', hcr⟩ := id hc
  refine wpN_Assign_Name ?_
  rw [eval_ListComp]
  refine compN (use := none) rfl (by intro _; rfl) (by with_unfolding_all rfl) (by rfl) (by decide) ?_
  show wpN _ _ (eval _ _) _ _ _
  refine wpN_of ?_
  k_steps
  rename Fr _ _ _ _ => F₁; rename News _ _ _ _ => N₁
  have hsub : ∀ q ∈ ex, q ∈ cells L o1 o2 o3 o4 o5 ex := fun q hq => List.mem_cons_of_mem _ (List.mem_cons_of_mem _ (List.mem_cons_of_mem _ (List.mem_cons_of_mem _ (List.mem_cons_of_mem _ hq))))
  have hzl : s.heap.IsList zl zi.toArray := ⟨oz, (N₁ _ (hsub _ hzm)).1, hzc, nz, hzd⟩
  refine wpN_of (iter_list hzl F₁ N₁ fun I oI h₂ hI F₂ N₂ hne2 _ hG2 => ?_)
  refine blockN_list rfl hI F₂ N₂ (.inr ⟨oz, hsub _ hzm, hzc, nz, hzd⟩) (Nat.ne_of_lt (hne2 _ (hsub _ hzm))) (fun p hp => Nat.ne_of_lt (hne2 p hp)) (by decide) rfl rfl
    (fun j ys nw _ => nw = cells L o1 o2 o3 o4 o5 ex ∧ RowsAre ys ((rows.take j).filter fun r => !srt (net ps r)))
    (fun j ys nw _ hJ => by rw [hJ.1]; exact .inr ⟨oz, hsub _ hzm, hzc, nz, hzd⟩) ⟨rfl, rfl, by simp⟩ ?_ ?_
  · intro C D hIC hID hCD j v ys nw m₂ oI3 oC h₅ tk₅ hj hv hJ hC F₅ N₅ off₅
    obtain ⟨rfl, hys⟩ := hJ
    obtain ⟨m3, hC', ha'⟩ : ∃ m3, NsObj oC m3 ∧ m3 (Str.ofString "row") = some v := ⟨_, hC, if_pos rfl⟩
    clear hC F₁ N₁ F₂ N₂
    rw [List.size_toArray] at hj
    rw [List.getElem?_toArray] at hv
    have hq : rows[j]? = some (rows[j]'(by rw [← hzr.1]; exact hj)) := List.getElem?_eq_getElem _
    generalize (rows[j]'(by rw [← hzr.1]; exact hj)) = r at hq
    obtain ⟨tq, rfl⟩ := hzr.2 j v r hv hq
    have hr4 : r.length = 4 := h4 r (List.mem_of_getElem? hq)
    refine tests_one (wpN_isTrue_Compare1 (wpN_Call_type (T := "list") ?_ ?_))
    · intro Q' hQ'
      k_steps
      exact hQ'
    · refine wpN_spliced_cons (wpN_Call_def (K := Mine.hd.heap_39 w.params) (fv := .ref 56) (by k_is) ?_ ?_)
      · intro Q' hQ'
        k_steps
        exact hQ'
      · refine wpN_of ?_
        k_steps
        rename Fr _ _ _ _ => F₆; rename News _ _ _ _ => N₆
        have up : ∀ q ∈ ex, q ∈ (I, oI3) :: (C, oC) :: (D, lst ys) :: cells L o1 o2 o3 o4 o5 ex := fun q hq => List.mem_cons_of_mem _ (List.mem_cons_of_mem _ (List.mem_cons_of_mem _ (hsub q hq)))
        refine sortedN w mean mg mb _ L h₀ _ ⟨_, _, _, _, _⟩ c ci ps r tq _ _ rfl rfl B F₆ X T ⟨oc, (N₆ _ (up _ hcm)).1, hcc, nc, hcd'⟩ (hcr.at fun p hp => N₆ p (up p hp)) hgood hr4 ?_
        intro t₇ h₇ k₇ hG
        have F₇ := F₆.keeps hG
        have N₇ := N₆.grown hG
        clear F₆ N₆
        have hnl := net_length ps r
        refine wpN_spliced_nil ?_
        refine wpN_of ?_
        k_steps
        refine wpN_of ?_
        k_steps
        refine wpN_of ?_
        k_steps
        refine wpN_of ?_
        k_steps
        · rename Fr _ _ _ _ => F₈; rename News _ _ _ _ => N₈
          rename List.Pairwise _ _ => hpw
          rename KBw.bInts _ = _ => heq
          have hsrt := srt_eq (r := r) heq hpw
          exact ⟨_, _, ys, _, m3, oC, rfl, ⟨rfl, filter_out hys hq (by rw [hsrt]; decide)⟩, hC', F₈, (fun p hp => N₈ p (List.mem_cons_of_mem _ (List.mem_cons_of_mem _ hp))), off₅⟩
        · rename List.Pairwise _ _ => hpw
          rename List.Perm _ _ => hpm
          rename ¬ _ => hneq
          have hsrt := srt_ne hneq hpm hpw (net_perm hr4 hgood)
          refine wpN_of ?_
          k_steps
          rename Fr _ _ _ _ => F₈; rename News _ _ _ _ => N₈
          have hyl : ys.length ≤ sizeLine := by
            rw [hys.1, sizeLine_eq]
            have h1 := List.length_filter_le (fun r => !srt (net ps r)) (rows.take j)
            rw [List.length_take] at h1
            omega
          exact ⟨_, _, ys, _, m3, oC, rfl, ⟨rfl, filter_in hys hq (by rw [hsrt]; rfl)⟩, hC', F₈, (fun p hp => N₈ p (List.mem_cons_of_mem _ (List.mem_cons_of_mem _ hp))), off₅, hyl⟩
  · intro D C h tk m' ys nw m₂ F₃ N₃ off hn hC₀ hCL hCD offC hJ
    obtain ⟨rfl, hys⟩ := hJ
    refine end_plain F₃ N₃ hn hC₀ hCL hCD offC fun h₇ F₇ N₇ => ?_
    rw [List.size_toArray, hzr.1, List.take_length] at hys
    exact hret D ys h₇ _ F₇ N₇ off hys
end Mine
end

section
open PySem PySem.W PySem.Calls PyProof.Rows PyProof.Rows.LCg
namespace Mine
local macro_rules | `(tactic| walk_at "call builtin:sorted") => `(tactic| (k_here; (with_reducible show wpAny _ _ (call (Value.builtin "sorted") [Value.bytes _ _]) _ _ _); (with_reducible rename Fr _ _ _ _ => F7); (with_reducible rename News _ _ _ _ => N7); (refine sorted_bytes rfl F7 N7 _ _ (by (try simp only [List.size_toArray]); omega) ?_); clear F7 N7; intro _ _ _ _ _ _ _ _ _ _ _ _))
local macro_rules | `(tactic| walk_at "call type:list") => `(tactic| (k_here; (with_reducible show wpAny _ _ (call (Value.type "list") [Value.bytes _ _]) _ _ _); (with_reducible rename Fr _ _ _ _ => F7); (with_reducible rename News _ _ _ _ => N7); (refine list_bytes rfl F7 N7 _ _ (by (try simp only [List.size_toArray]); omega) ?_); clear F7 N7; intro _ _ _ _ _ _ _ _ _))
set_option maxRecDepth 100000 in
set_option maxHeartbeats 8000000 in
theorem s6 : ∀ (w : World) (mean : ExcName → Option Value) (mg mb : Str → Option Value) (h₀ : Heap) (L fa : Addr) (cd : Value) (s : Shared) (ex : List (Addr × Obj)) (o1 o2 o3 o4 o5 : Obj) (a e f g k or wr : Option Value) (c zl : Addr) (ps : List (Nat × Nat)) (rows : List (List UInt8)) (Q : Flow → Shared → Prop)
    (_ : Below callerA h₀ [] h₀) (_ : (Mine.hd.heap_39 w.params).In h₀) (_ : Top Mine.hd.view_39 (looseW Mine.hd.view_39 []) mean mg mb h₀)
    (_ : Fr h₀ L s.heap (lMap a or (some (.ref zl)) wr e f g k)) (_ : News h₀ L s.heap (cells L o1 o2 o3 o4 o5 ex)) (_ : o2.data = .cell (some (.ref c)))
    (_ : CmpIn ex c ps) (_ : ∀ p ∈ ps, GoodPair p) (_ : RowsIn ex zl rows) (_ : rows.length ≤ 1000) (_ : ∀ r ∈ rows, r.length = 4)
    (_ : ∀ D ys h' tk', Fr h₀ L h' (lMap a or (some (.ref zl)) (some (.ref D)) e f g k) → News h₀ L h' ((D, lst ys) :: cells L o1 o2 o3 o4 o5 ex) → Off1 D (cells L o1 o2 o3 o4 o5 ex) → RowsAre ys (rows.filter fun r => !srt (net ps r)) → Q .next { s with heap := h', toks := tk' }),
    wpN (model PySem.Challenge.rw_zw0001_01.prog w) (callerA.deeper (lEnv L fa cd)) (exec (stmt 6) (lEnv L fa cd)) Q noE s := by
  k_fill
  intro w mean mg mb h₀ L fa cd s ex o1 o2 o3 o4 o5 a e f g k or wr c zl ps rows Q B X T F N d2 hc hgood hz hfew h4 hret
  have hB : stmt 6 = stmt 6 := rfl
  conv at hB => rhs; whnf
  have hS : fnScope 7 = fnScope 7 := rfl
  conv at hS => rhs; whnf
  unfold lEnv
  rw [hB, hS]
  clear hB hS
  obtain ⟨zi, oz, nz, hzm, hzc, hzd, hzr⟩ := id hz
  obtain ⟨ci, oc, nc, hcm, hcc, hcd', hcr⟩ := id hc
  refine wpN_Assign_comp (by rfl) (by intro _; rfl) (by with_unfolding_all rfl) (by rfl) (by decide) ?_
  refine wpN_of ?_
  k_steps
  rename Fr _ _ _ _ => F₁; rename News _ _ _ _ => N₁
  have hsub : ∀ q ∈ ex, q ∈ cells L o1 o2 o3 o4 o5 ex := fun q hq => List.mem_cons_of_mem _ (List.mem_cons_of_mem _ (List.mem_cons_of_mem _ (List.mem_cons_of_mem _ (List.mem_cons_of_mem _ hq))))
  have hzl : s.heap.IsList zl zi.toArray := ⟨oz, (N₁ _ (hsub _ hzm)).1, hzc, nz, hzd⟩
  refine wpN_of (iter_list hzl F₁ N₁ fun I oI h₂ hI F₂ N₂ hne2 _ hG2 => ?_)
  refine blockN_list rfl hI F₂ N₂ (.inr ⟨oz, hsub _ hzm, hzc, nz, hzd⟩) (Nat.ne_of_lt (hne2 _ (hsub _ hzm))) (fun p hp => Nat.ne_of_lt (hne2 p hp)) (by decide) rfl rfl
    (fun j ys nw _ => nw = cells L o1 o2 o3 o4 o5 ex ∧ RowsAre ys ((rows.take j).filter fun r => !srt (net ps r)))
    (fun j ys nw _ hJ => by rw [hJ.1]; exact .inr ⟨oz, hsub _ hzm, hzc, nz, hzd⟩) ⟨rfl, rfl, by simp⟩ ?_ ?_
  · intro C D hIC hID hCD j v ys nw m₂ oI3 oC h₅ tk₅ hj hv hJ hC F₅ N₅ off₅
    obtain ⟨rfl, hys⟩ := hJ
    obtain ⟨m3, hC', ha'⟩ : ∃ m3, NsObj oC m3 ∧ m3 (Str.ofString "row") = some v := ⟨_, hC, if_pos rfl⟩
    clear hC F₁ N₁ F₂ N₂
    rw [List.size_toArray] at hj
    rw [List.getElem?_toArray] at hv
    have hq : rows[j]? = some (rows[j]'(by rw [← hzr.1]; exact hj)) := List.getElem?_eq_getElem _
    generalize (rows[j]'(by rw [← hzr.1]; exact hj)) = r at hq
    obtain ⟨tq, rfl⟩ := hzr.2 j v r hv hq
    have hr4 : r.length = 4 := h4 r (List.mem_of_getElem? hq)
    refine tests_one (wpN_isTrue_Compare1 (wpN_Call_type (T := "list") ?_ ?_))
    · intro Q' hQ'
      k_steps
      exact hQ'
    · refine wpN_spliced_cons (wpN_Call_def (K := Mine.hd.heap_39 w.params) (fv := .ref 56) (by k_is) ?_ ?_)
      · intro Q' hQ'
        k_steps
        exact hQ'
      · refine wpN_of ?_
        k_steps
        rename Fr _ _ _ _ => F₆; rename News _ _ _ _ => N₆
        have up : ∀ q ∈ ex, q ∈ (I, oI3) :: (C, oC) :: (D, lst ys) :: cells L o1 o2 o3 o4 o5 ex := fun q hq => List.mem_cons_of_mem _ (List.mem_cons_of_mem _ (List.mem_cons_of_mem _ (hsub q hq)))
        refine sortedN w mean mg mb _ L h₀ _ ⟨_, _, _, _, _⟩ c ci ps r tq _ _ rfl rfl B F₆ X T ⟨oc, (N₆ _ (up _ hcm)).1, hcc, nc, hcd'⟩ (hcr.at fun p hp => N₆ p (up p hp)) hgood hr4 ?_
        intro t₇ h₇ k₇ hG
        have F₇ := F₆.keeps hG
        have N₇ := N₆.grown hG
        clear F₆ N₆
        have hnl := net_length ps r
        refine wpN_spliced_nil ?_
        refine wpN_of ?_
        k_steps
        refine wpN_of ?_
        k_steps
        refine wpN_of ?_
        k_steps
        refine wpN_of ?_
        k_steps
        · rename Fr _ _ _ _ => F₈; rename News _ _ _ _ => N₈
          rename List.Pairwise _ _ => hpw
          rename KBw.bInts _ = _ => heq
          have hsrt := srt_eq (r := r) heq hpw
          exact ⟨_, _, ys, _, m3, oC, rfl, ⟨rfl, filter_out hys hq (by rw [hsrt]; decide)⟩, hC', F₈, (fun p hp => N₈ p (List.mem_cons_of_mem _ (List.mem_cons_of_mem _ hp))), off₅⟩
        · rename List.Pairwise _ _ => hpw
          rename List.Perm _ _ => hpm
          rename ¬ _ => hneq
          have hsrt := srt_ne hneq hpm hpw (net_perm hr4 hgood)
          refine wpN_of ?_
          k_steps
          rename Fr _ _ _ _ => F₈; rename News _ _ _ _ => N₈
          have hyl : ys.length ≤ sizeLine := by
            rw [hys.1, sizeLine_eq]
            have h1 := List.length_filter_le (fun r => !srt (net ps r)) (rows.take j)
            rw [List.length_take] at h1
            omega
          exact ⟨_, _, ys, _, m3, oC, rfl, ⟨rfl, filter_in hys hq (by rw [hsrt]; rfl)⟩, hC', F₈, (fun p hp => N₈ p (List.mem_cons_of_mem _ (List.mem_cons_of_mem _ hp))), off₅, hyl⟩
  · intro D C h tk m' ys nw m₂ F₃ N₃ off hn hC₀ hCL hCD offC hJ
    obtain ⟨rfl, hys⟩ := hJ
    refine end_assign (by rfl) (by rfl) (by rfl) F₃ N₃ hn hC₀ hCL hCD offC fun h₇ tk₇ F₇ N₇ => ?_
    rw [List.size_toArray, hzr.1, List.take_length] at hys
    exact hret D ys h₇ _ (Fr.eqv F₇ fun y => lset_wrong y) N₇ off hys
end Mine
end

section
open PySem PySem.W PySem.Calls PyProof.Rows PyProof.Rows.LCg
namespace Mine
local macro_rules | `(tactic| walk_at "call builtin:sorted") => `(tactic| (k_here; (with_reducible show wpAny _ _ (call (Value.builtin "sorted") [Value.bytes _ _]) _ _ _); (with_reducible rename Fr _ _ _ _ => F7); (with_reducible rename News _ _ _ _ => N7); (refine sorted_bytes rfl F7 N7 _ _ (by (try simp only [List.size_toArray]); omega) ?_); clear F7 N7; intro _ _ _ _ _ _ _ _ _ _ _ _))
local macro_rules | `(tactic| walk_at "call type:list") => `(tactic| (k_here; (with_reducible show wpAny _ _ (call (Value.type "list") [Value.bytes _ _]) _ _ _); (with_reducible rename Fr _ _ _ _ => F7); (with_reducible rename News _ _ _ _ => N7); (refine list_bytes rfl F7 N7 _ _ (by (try simp only [List.size_toArray]); omega) ?_); clear F7 N7; intro _ _ _ _ _ _ _ _ _))
set_option maxRecDepth 100000 in
set_option maxHeartbeats 8000000 in
theorem s12 : ∀ (w : World) (mean : ExcName → Option Value) (mg mb : Str → Option Value) (h₀ : Heap) (L fa : Addr) (cd : Value) (s : Shared) (ex : List (Addr × Obj)) (o1 o2 o3 o4 o5 : Obj) (a e f g k or wr : Option Value) (c zl bd : Addr) (bads : List (List UInt8)) (ps : List (Nat × Nat)) (rows : List (List UInt8)) (Q : Flow → Shared → Prop)
    (_ : Below callerA h₀ [] h₀) (_ : (Mine.hd.heap_39 w.params).In h₀) (_ : Top Mine.hd.view_39 (looseW Mine.hd.view_39 []) mean mg mb h₀)
    (_ : Fr h₀ L s.heap (lMap a (some (.ref zl)) or wr e f g k)) (_ : News h₀ L s.heap (cells L o1 o2 o3 o4 o5 ex)) (_ : o5.data = .cell (some (.ref c))) (_ : o3.data = .cell (some (.ref bd))) (_ : RowsIn ex bd bads)
    (_ : CmpIn ex c ps) (_ : ∀ p ∈ ps, GoodPair p) (_ : RowsIn ex zl rows) (_ : rows.length ≤ 1000) (_ : ∀ r ∈ rows, r.length = 4)
    (_ : ∀ h' tk', Fr h₀ L h' (lMap a (some (.ref zl)) or wr e f g k) → Q (.ret (.bool (decide ((rows.filter fun r => !(bads.any fun q => decide (q = r)) && !srt (net ps r)) = [])))) { s with heap := h', toks := tk' }),
    wpN (model PySem.Challenge.rw_zw0001_01.prog w) (callerA.deeper (lEnv L fa cd)) (exec (stmt 12) (lEnv L fa cd)) Q noE s := by
  k_fill
  intro w mean mg mb h₀ L fa cd s ex o1 o2 o3 o4 o5 a e f g k or wr c zl bd bads ps rows Q B X T F N d5 d3 hbd hc hgood hz hfew h4 hret
  have hB : stmt 12 = stmt 12 := rfl
  conv at hB => rhs; whnf
  have hS : fnScope 7 = fnScope 7 := rfl
  conv at hS => rhs; whnf
  unfold lEnv
  rw [hB, hS]
  clear hB hS
  obtain ⟨zi, oz, nz, hzm, hzc, hzd, hzr⟩ := id hz
  obtain ⟨bi, ob, nb, hbm, hbc, hbd', hbr⟩ := id hbd
  obtain ⟨ci, oc, nc, hcm, hcc, hcd', hcr⟩ := id hc
  refine wpN_Return (wpN_Compare1 ?_)
  rw [eval_ListComp]
  refine compN (use := none) rfl (by intro _; rfl) (by with_unfolding_all rfl) (by rfl) (by decide) ?_
  show wpN _ _ (eval _ _) _ _ _
  refine wpN_of ?_
  k_steps
  rename Fr _ _ _ _ => F₁; rename News _ _ _ _ => N₁
  have hsub : ∀ q ∈ ex, q ∈ cells L o1 o2 o3 o4 o5 ex := fun q hq => List.mem_cons_of_mem _ (List.mem_cons_of_mem _ (List.mem_cons_of_mem _ (List.mem_cons_of_mem _ (List.mem_cons_of_mem _ hq))))
  have hzl : s.heap.IsList zl zi.toArray := ⟨oz, (N₁ _ (hsub _ hzm)).1, hzc, nz, hzd⟩
  refine wpN_of (iter_list hzl F₁ N₁ fun I oI h₂ hI F₂ N₂ hne2 _ hG2 => ?_)
  refine blockN_list rfl hI F₂ N₂ (.inr ⟨oz, hsub _ hzm, hzc, nz, hzd⟩) (Nat.ne_of_lt (hne2 _ (hsub _ hzm))) (fun p hp => Nat.ne_of_lt (hne2 p hp)) (by decide) rfl rfl
    (fun j ys nw _ => nw = cells L o1 o2 o3 o4 o5 ex ∧ RowsAre ys ((rows.take j).filter fun r => !(bads.any fun q => decide (q = r)) && !srt (net ps r)))
    (fun j ys nw _ hJ => by rw [hJ.1]; exact .inr ⟨oz, hsub _ hzm, hzc, nz, hzd⟩) ⟨rfl, rfl, by simp⟩ ?_ ?_
  · intro C D hIC hID hCD j v ys nw m₂ oI3 oC h₅ tk₅ hj hv hJ hC F₅ N₅ off₅
    obtain ⟨rfl, hys⟩ := hJ
    obtain ⟨m3, hC', ha'⟩ : ∃ m3, NsObj oC m3 ∧ m3 (Str.ofString "row") = some v := ⟨_, hC, if_pos rfl⟩
    clear hC F₁ N₁ F₂ N₂
    rw [List.size_toArray] at hj
    rw [List.getElem?_toArray] at hv
    have hq : rows[j]? = some (rows[j]'(by rw [← hzr.1]; exact hj)) := List.getElem?_eq_getElem _
    generalize (rows[j]'(by rw [← hzr.1]; exact hj)) = r at hq
    obtain ⟨tq, rfl⟩ := hzr.2 j v r hv hq
    have hr4 : r.length = 4 := h4 r (List.mem_of_getElem? hq)
    have up : ∀ q ∈ ex, q ∈ (I, oI3) :: (C, oC) :: (D, lst ys) :: cells L o1 o2 o3 o4 o5 ex := fun q hq => List.mem_cons_of_mem _ (List.mem_cons_of_mem _ (List.mem_cons_of_mem _ (hsub q hq)))
    have hyl : ys.length ≤ sizeLine := by
      rw [hys.1, sizeLine_eq]
      have h1 := List.length_filter_le (fun r => !(bads.any fun q => decide (q = r)) && !srt (net ps r)) (rows.take j)
      rw [List.length_take] at h1
      omega
    have hbl5 : Heap.IsList h₅ bd bi.toArray := ⟨ob, (N₅ _ (up _ hbm)).1, hbc, nb, hbd'⟩
    refine tests_one (wpN_isTrue_And2 (wpN_of ?_))
    k_steps
    refine notin_rows hbl5 hbr ?_
    k_steps
    · rename _ = true => hb
      exact ⟨_, _, ys, _, m3, oC, rfl, ⟨rfl, filter_out hys hq (by rw [hb]; simp)⟩, hC', F₅, N₅, off₅⟩
    · rename _ = false => hnb
      refine wpN_isTrue_Compare1 (wpN_Call_type (T := "list") ?_ ?_)
      · intro Q' hQ'
        k_steps
        exact hQ'
      · refine wpN_spliced_cons (wpN_Call_def (K := Mine.hd.heap_39 w.params) (fv := .ref 56) (by k_is) ?_ ?_)
        · intro Q' hQ'
          k_steps
          exact hQ'
        · refine wpN_of ?_
          k_steps
          rename Fr _ _ _ _ => F₆; rename News _ _ _ _ => N₆
          refine sortedN w mean mg mb _ L h₀ _ ⟨_, _, _, _, _⟩ c ci ps r tq _ _ rfl rfl B F₆ X T ⟨oc, (N₆ _ (up _ hcm)).1, hcc, nc, hcd'⟩ (hcr.at fun p hp => N₆ p (up p hp)) hgood hr4 ?_
          intro t₇ h₇ k₇ hG
          have F₇ := F₆.keeps hG
          have N₇ := N₆.grown hG
          clear F₆ N₆
          have hnl := net_length ps r
          refine wpN_spliced_nil ?_
          refine wpN_of ?_
          k_steps
          refine wpN_of ?_
          k_steps
          refine wpN_of ?_
          k_steps
          refine wpN_of ?_
          k_steps
          · rename Fr _ _ _ _ => F₈; rename News _ _ _ _ => N₈
            rename List.Pairwise _ _ => hpw
            rename KBw.bInts _ = _ => heq
            have hsrt := srt_eq (r := r) heq hpw
            exact ⟨_, _, ys, _, m3, oC, rfl, ⟨rfl, filter_out hys hq (by rw [hsrt]; simp)⟩, hC', F₈, (fun p hp => N₈ p (List.mem_cons_of_mem _ (List.mem_cons_of_mem _ hp))), off₅⟩
          · rename List.Pairwise _ _ => hpw
            rename List.Perm _ _ => hpm
            rename ¬ _ => hneq
            have hsrt := srt_ne hneq hpm hpw (net_perm hr4 hgood)
            refine wpN_of ?_
            k_steps
            rename Fr _ _ _ _ => F₈; rename News _ _ _ _ => N₈
            exact ⟨_, _, ys, _, m3, oC, rfl, ⟨rfl, filter_in hys hq (by rw [hsrt, hnb]; rfl)⟩, hC', F₈, (fun p hp => N₈ p (List.mem_cons_of_mem _ (List.mem_cons_of_mem _ hp))), off₅, hyl⟩

  · intro D C h tk m' ys nw m₂ F₃ N₃ off hn hC₀ hCL hCD offC hJ
    obtain ⟨rfl, hys⟩ := hJ
    refine end_plain F₃ N₃ hn hC₀ hCL hCD offC fun h₇ F₇ N₇ => ?_
    rw [List.size_toArray, hzr.1, List.take_length] at hys
    refine wpN_of ?_
    k_steps
    rename Fr _ _ _ _ => F₈; rename News _ _ _ _ => N₈
    have zD := N₈ (D, lst ys) (List.mem_cons_of_mem _ List.mem_cons_self)
    refine wpN_of (eq_empty ⟨_, zD.1, rfl, _, rfl⟩ hys ⟨_, (N₈ _ List.mem_cons_self).1, rfl, _, rfl⟩ (by exact (by decide : 7 + 64 < cLine)) ?_)
    exact hret _ _ F₈
end Mine
end

section
open PySem PySem.W PySem.Calls PyProof.Rows PyProof.Rows.LCg
namespace Mine
local macro_rules | `(tactic| walk_at "call builtin:sorted") => `(tactic| (k_here; (with_reducible show wpAny _ _ (call (Value.builtin "sorted") [Value.bytes _ _]) _ _ _); (with_reducible rename Fr _ _ _ _ => F7); (with_reducible rename News _ _ _ _ => N7); (refine sorted_bytes rfl F7 N7 _ _ (by (try simp only [List.size_toArray]); omega) ?_); clear F7 N7; intro _ _ _ _ _ _ _ _ _ _ _ _))
local macro_rules | `(tactic| walk_at "call type:list") => `(tactic| (k_here; (with_reducible show wpAny _ _ (call (Value.type "list") [Value.bytes _ _]) _ _ _); (with_reducible rename Fr _ _ _ _ => F7); (with_reducible rename News _ _ _ _ => N7); (refine list_bytes rfl F7 N7 _ _ (by (try simp only [List.size_toArray]); omega) ?_); clear F7 N7; intro _ _ _ _ _ _ _ _ _))
set_option maxRecDepth 100000 in
set_option maxHeartbeats 8000000 in
theorem s9 : ∀ (w : World) (mean : ExcName → Option Value) (mg mb : Str → Option Value) (h₀ : Heap) (L fa : Addr) (cd : Value) (s : Shared) (ex : List (Addr × Obj)) (o1 o2 o3 o4 o5 : Obj) (a b f g k or wr : Option Value) (c bd : Addr) (dr : List UInt8) (td : Tok) (bads : List (List UInt8)) (ps : List (Nat × Nat)) (Q : Flow → Shared → Prop)
    (_ : Below callerA h₀ [] h₀) (_ : (Mine.hd.heap_39 w.params).In h₀) (_ : Top Mine.hd.view_39 (looseW Mine.hd.view_39 []) mean mg mb h₀)
    (_ : Fr h₀ L s.heap (lMap a b or wr (some (.bytes dr.toArray td)) f g k)) (_ : News h₀ L s.heap (cells L o1 o2 o3 o4 o5 ex)) (_ : o2.data = .cell (some (.ref c))) (_ : o3.data = .cell (some (.ref bd))) (_ : RowsIn ex bd bads)
    (_ : CmpIn ex c ps) (_ : ∀ p ∈ ps, GoodPair p) (_ : dr.length = 4) (_ : bads = [] → srt (net ps dr) = true)
    (_ : ∀ h' tk', Fr h₀ L h' (lMap a b or wr (some (.bytes dr.toArray td)) f g k) → News h₀ L h' (cells L o1 o2 o3 o4 o5 ex) → Q .next { s with heap := h', toks := tk' }),
    wpN (model PySem.Challenge.rw_zw0001_01.prog w) (callerA.deeper (lEnv L fa cd)) (exec (stmt 9) (lEnv L fa cd)) Q noE s := by
  k_fill
  intro w mean mg mb h₀ L fa cd s ex o1 o2 o3 o4 o5 a b f g k or wr c bd r tq bads ps Q B X T F N d2 d3 hbd hc hgood hr4 hlaw hret
  have hB : stmt 9 = stmt 9 := rfl
  conv at hB => rhs; whnf
  have hS : fnScope 7 = fnScope 7 := rfl
  conv at hS => rhs; whnf
  unfold lEnv
  rw [hB, hS]
  clear hB hS
  obtain ⟨bi, ob, nb, hbm, hbc, hbd', hbr⟩ := id hbd
  obtain ⟨ci, oc, nc, hcm, hcc, hcd', hcr⟩ := id hc
  have hsub : ∀ q ∈ ex, q ∈ cells L o1 o2 o3 o4 o5 ex := fun q hq => List.mem_cons_of_mem _ (List.mem_cons_of_mem _ (List.mem_cons_of_mem _ (List.mem_cons_of_mem _ (List.mem_cons_of_mem _ hq))))
  refine wpN_If (wpN_isTrue_And2 (wpN_isTrue_Compare1 (wpN_of ?_)))
  k_steps
  refine wpN_of ?_
  k_steps
  rename Fr _ _ _ _ => F₈; rename News _ _ _ _ => N₈
  refine wpN_of (eq_empty ⟨ob, (N₈ _ (List.mem_cons_of_mem _ (hsub _ hbm))).1, hbc, nb, hbd'⟩ hbr ⟨_, (N₈ _ List.mem_cons_self).1, rfl, _, rfl⟩ (by exact (by decide : 7 + 64 < cLine)) ?_)
  have N₉ : News h₀ L _ (cells L o1 o2 o3 o4 o5 ex) := fun p hp => N₈ p (List.mem_cons_of_mem _ hp)
  clear N₈
  refine wpN_of ?_
  k_steps
  · rename bads = [] => hb
    refine wpN_isTrue_Compare1 (wpN_Call_type (T := "list") ?_ ?_)
    · intro Q' hQ'
      k_steps
      exact hQ'
    · refine wpN_spliced_cons (wpN_Call_def (K := Mine.hd.heap_39 w.params) (fv := .ref 56) (by k_is) ?_ ?_)
      · intro Q' hQ'
        k_steps
        exact hQ'
      · refine wpN_of ?_
        k_steps
        rename Fr _ _ _ _ => F₆; rename News _ _ _ _ => N₆
        refine sortedN w mean mg mb _ L h₀ _ ⟨_, _, _, _, _⟩ c ci ps r tq _ _ rfl rfl B F₆ X T ⟨oc, (N₆ _ (hsub _ hcm)).1, hcc, nc, hcd'⟩ (hcr.at fun p hp => N₆ p (hsub p hp)) hgood hr4 ?_
        intro t₇ h₇ k₇ hG
        have F₇ := F₆.keeps hG
        have N₇ := N₆.grown hG
        clear F₆ N₆
        have hnl := net_length ps r
        refine wpN_spliced_nil ?_
        refine wpN_of ?_
        k_steps
        refine wpN_of ?_
        k_steps
        refine wpN_of ?_
        k_steps
        refine wpN_of ?_
        k_steps
        · rename Fr _ _ _ _ => F₈; rename News _ _ _ _ => N₈
          refine wpN_of ?_
          k_steps
          exact hret _ _ F₈ fun p hp => N₈ p (List.mem_cons_of_mem _ (List.mem_cons_of_mem _ hp))
        · rename List.Pairwise _ _ => hpw
          rename List.Perm _ _ => hpm
          rename ¬ _ => hneq
          have hsrt := srt_ne hneq hpm hpw (net_perm hr4 hgood)
          rw [hlaw hb] at hsrt
          cases hsrt
  · refine wpN_of ?_
    k_steps
    exact hret _ _ F₈ N₉
end Mine
end

section
open PySem PySem.W PySem.Calls PyProof.Rows PyProof.Rows.LCg
namespace Mine
section
variable {M : Model} {A : Around} {E : Value → Shared → Prop} {s : Shared} {env : Env}
theorem wpN_isTrue_Or2 {x y : Expr} {pos : Pos} {whole : Sem Value} {Q : Bool → Shared → Prop}
    (h : wpN M A (isTrue x env (eval x env)) (fun b s₁ => if b then Q true s₁ else wpN M A (isTrue y env (eval y env)) Q E s₁) E s) : wpN M A (isTrue (.BoolOp .Or [x, y] pos) env whole) Q E s := by
  rw [arm_isTrue_BoolOp]
  show wpN M A (do match BoolOp.Or, ← isTrue x env (eval x env) with | .And, false => pure false | .Or, true => pure true | _, _ => allTrue .Or [y] env) Q E s
  refine wpN_bind (wpN_mono h (fun b s₁ h₁ => ?_) fun _ _ x => x)
  cases b
  · show wpN M A (do match BoolOp.Or, ← isTrue y env (eval y env) with | .And, false => pure false | .Or, true => pure true | _, _ => allTrue .Or [] env) Q E s₁
    refine wpN_bind (wpN_mono h₁ (fun b s₂ h₂ => ?_) fun _ _ x => x)
    cases b
    · exact wpN_pure h₂
    · exact wpN_pure h₂
  · exact wpN_pure h₁
end
set_option maxRecDepth 100000 in
set_option maxHeartbeats 8000000 in
theorem s7 : ∀ (w : World) (mean : ExcName → Option Value) (mg mb : Str → Option Value) (h₀ : Heap) (L fa : Addr) (cd : Value) (s : Shared) (ex : List (Addr × Obj)) (o1 o2 o3 o4 o5 : Obj) (b d f g k or : Option Value) (bd wd sc : Addr) (vs : List Value) (ns : List Int) (bads wrongs : List (List UInt8)) (Q : Flow → Shared → Prop)
    (_ : Below callerA h₀ [] h₀) (_ : (Mine.hd.heap_39 w.params).In h₀) (_ : Top Mine.hd.view_39 (looseW Mine.hd.view_39 []) mean mg mb h₀)
    (_ : h₀.IsList sc vs.toArray) (_ : IntsAre vs ns) (_ : ns.length ≤ 63)
    (_ : Fr h₀ L s.heap (lMap (some (.ref sc)) b or (some (.ref wd)) d f g k)) (_ : News h₀ L s.heap (cells L o1 o2 o3 o4 o5 ex)) (_ : o3.data = .cell (some (.ref bd))) (_ : RowsIn ex bd bads) (_ : RowsIn ex wd wrongs)
    (_ : decide (bads = []) = decide (wrongs = [])) (_ : ns.sum.fmod 2 = 0 → bads = [])
    (_ : ∀ h' tk', Fr h₀ L h' (lMap (some (.ref sc)) b or (some (.ref wd)) d f g k) → News h₀ L h' (cells L o1 o2 o3 o4 o5 ex) → Q .next { s with heap := h', toks := tk' }),
    wpN (model PySem.Challenge.rw_zw0001_01.prog w) (callerA.deeper (lEnv L fa cd)) (exec (stmt 7) (lEnv L fa cd)) Q noE s := by
  k_fill
  intro w mean mg mb h₀ L fa cd s ex o1 o2 o3 o4 o5 b d f g k or bd wd sc vs ns bads wrongs Q B X T hL hI hlen F N d3 hbd hwd hlaw1 hlaw2 hret
  have hB : stmt 7 = stmt 7 := rfl
  conv at hB => rhs; whnf
  have hS : fnScope 7 = fnScope 7 := rfl
  conv at hS => rhs; whnf
  unfold lEnv
  rw [hB, hS]
  clear hB hS
  obtain ⟨bi, ob, nb, hbm, hbc, hbd', hbr⟩ := id hbd
  obtain ⟨wi, ow, nw, hwm, hwc, hwd', hwr⟩ := id hwd
  have hsub : ∀ q ∈ ex, q ∈ cells L o1 o2 o3 o4 o5 ex := fun q hq => List.mem_cons_of_mem _ (List.mem_cons_of_mem _ (List.mem_cons_of_mem _ (List.mem_cons_of_mem _ (List.mem_cons_of_mem _ hq))))
  refine wpN_If (wpN_isTrue_Or2 (wpN_isTrue_Compare1 (wpN_Compare1 (wpN_of ?_))))
  k_steps
  refine wpN_of ?_
  k_steps
  rename Fr _ _ _ _ => F₈; rename News _ _ _ _ => N₈
  refine wpN_of (eq_empty ⟨ob, (N₈ _ (List.mem_cons_of_mem _ (hsub _ hbm))).1, hbc, nb, hbd'⟩ hbr ⟨_, (N₈ _ List.mem_cons_self).1, rfl, _, rfl⟩ (by exact (by decide : 7 + 64 < cLine)) ?_)
  have N₉ : News h₀ L _ (cells L o1 o2 o3 o4 o5 ex) := fun p hp => N₈ p (List.mem_cons_of_mem _ hp)
  clear N₈
  refine wpN_Compare1 (wpN_of ?_)
  k_steps
  refine wpN_of ?_
  k_steps
  rename Fr _ _ _ _ => F₁₀; rename News _ _ _ _ => N₁₀
  refine wpN_of (eq_empty ⟨ow, (N₁₀ _ (List.mem_cons_of_mem _ (hsub _ hwm))).1, hwc, nw, hwd'⟩ hwr ⟨_, (N₁₀ _ List.mem_cons_self).1, rfl, _, rfl⟩ (by exact (by decide : 7 + 64 < cLine)) ?_)
  have N₁₁ : News h₀ L _ (cells L o1 o2 o3 o4 o5 ex) := fun p hp => N₁₀ p (List.mem_cons_of_mem _ hp)
  clear N₁₀
  rw [hlaw1]
  refine wpN_of ?_
  k_steps
  rw [bne_self_eq_false]
  refine wpN_of (wpAny_truthy_bool ?_)
  simp only [Bool.false_eq_true, if_false]
  refine wpN_isTrue_And2 (wpN_of ?_)
  k_steps
  · rename ns.sum.fmod 2 = 0 => hev
    have hbe := hlaw2 hev
    refine wpN_isTrue_Compare1 (wpN_of ?_)
    k_steps
    refine wpN_of ?_
    k_steps
    rename Fr _ _ _ _ => F₁₂; rename News _ _ _ _ => N₁₂
    refine wpN_of (ne_empty ⟨ob, (N₁₂ _ (List.mem_cons_of_mem _ (hsub _ hbm))).1, hbc, nb, hbd'⟩ hbr ⟨_, (N₁₂ _ List.mem_cons_self).1, rfl, _, rfl⟩ (by exact (by decide : 7 + 64 < cLine)) ?_)
    rw [decide_eq_true hbe]
    refine wpN_of (wpAny_truthy_bool ?_)
    simp only [Bool.not_true, Bool.false_eq_true, if_false]
    refine wpN_of ?_
    k_steps
    exact hret _ _ F₁₂ fun p hp => N₁₂ p (List.mem_cons_of_mem _ hp)
  · refine wpN_of ?_
    k_steps
    rename Fr _ _ _ _ => F₁₂; rename News _ _ _ _ => N₁₂
    exact hret _ _ F₁₂ N₁₂
end Mine
end

section
open PySem PySem.W PySem.Calls PyProof.Rows PyProof.Rows.LCg
namespace Mine
theorem ordRoom0 : (callerA.depth + 1) + 2 * 3 + 4 < recursionLimit := by decide
theorem ordUnits0 : (callerA.units + 3) + 8 * 3 + 20 < cLine := by decide
set_option maxRecDepth 100000 in
set_option maxHeartbeats 8000000 in
theorem s4 : ∀ (w : World) (mean : ExcName → Option Value) (mg mb : Str → Option Value) (h₀ : Heap) (L fa : Addr) (cd : Value) (s : Shared) (ex : List (Addr × Obj)) (o1 o2 o3 o4 o5 : Obj) (a b c d f g k l : Option Value) (Q : Flow → Shared → Prop)
    (_ : Below callerA h₀ [] h₀) (_ : (Mine.hd.heap_39 w.params).In h₀) (_ : Top Mine.hd.view_39 (looseW Mine.hd.view_39 []) mean mg mb h₀)
    (_ : Fr h₀ L s.heap (lMap a b c d f g k l)) (_ : News h₀ L s.heap (cells L o1 o2 o3 o4 o5 ex))
    (_ : ∀ D oD h' tk', Fr h₀ L h' (lMap a b (some (.ref D)) d f g k l) → News h₀ L h' ((D, oD) :: cells L o1 o2 o3 o4 o5 ex) → (∀ p ∈ cells L o1 o2 o3 o4 o5 ex, p.1 ≠ D) → RowsIn [(D, oD)] D (ords 3 [1, 2, 3, 4]) → Q .next { s with heap := h', toks := tk' }),
    wpN (model PySem.Challenge.rw_zw0001_01.prog w) (callerA.deeper (lEnv L fa cd)) (exec (stmt 4) (lEnv L fa cd)) Q noE s := by
  k_fill
  intro w mean mg mb h₀ L fa cd s ex o1 o2 o3 o4 o5 a b c d f g k l Q B X T F N hret
  have hB : stmt 4 = stmt 4 := rfl
  conv at hB => rhs; whnf
  have hS : fnScope 7 = fnScope 7 := rfl
  conv at hS => rhs; whnf
  unfold lEnv
  rw [hB, hS]
  clear hB hS
  refine wpN_Assign_Name (wpN_Call_def (K := Mine.hd.heap_39 w.params) (fv := .ref 61) (by k_is) ?_ ?_)
  · intro Q' hQ'
    k_steps
    exact hQ'
  · refine wpN_of ?_
    k_steps
    rename Fr _ _ _ _ => F₂; rename News _ _ _ _ => N₂
    with_unfolding_all refine ordersN 3 w mean mg mb _ _ _ _ _ _ _ _ _ _ _ _ _ ⟨_, _, _, _, _⟩ [1, 2, 3, 4] _ _ _ (by decide) (by decide) B F₂ X T rfl ordRoom0 ordUnits0 ?_
    intro D its' h₃ k₃ hG hDn hDl hrows
    have F₃ := F₂.keeps hG
    have N₃ := N₂.grown hG
    have hDn' : D ≠ L := fun q => by obtain ⟨_, _, _, e, _⟩ := F₂.ns; rw [← q] at e; exact absurd (hDn.symm.trans e) (by simp)
    have hDg : h₀.get? D = none := by
      cases e : h₀.get? D with
      | none => rfl
      | some o => exact absurd (hDn.symm.trans (F₂.keep _ _ e)) (by simp)
    obtain ⟨oD, eD, hcD, nD, hdD⟩ := id hDl
    have N₄ : News h₀ L h₃ ((D, oD) :: cells L o1 o2 o3 o4 o5 ex) := fun p hp => by
      rcases List.mem_cons.mp hp with rfl | hp
      · exact ⟨eD, hDn', hDg⟩
      · exact N₃ p (List.mem_cons_of_mem _ hp)
    have hne : ∀ p ∈ cells L o1 o2 o3 o4 o5 ex, p.1 ≠ D := fun p hp q => by
      have := (N₂ p (List.mem_cons_of_mem _ hp)).1
      rw [q] at this
      exact absurd (hDn.symm.trans this) (by simp)
    clear N₃ N₂ F₂
    k_steps
    rename Fr _ _ _ _ => F₅; rename News _ _ _ _ => N₅
    exact hret D oD _ _ (Fr.eqv F₅ fun y => lset_orders y) N₅ hne ⟨its', oD, nD, List.mem_cons_self, hcD, hdD, hrows⟩
end Mine
end

section
open PySem PySem.W PySem.Calls PyProof.Rows PyProof.Rows.LCg
namespace Mine
def zbit (i k : Nat) : Int := ((i : Int).fdiv (2 ^ k)).fmod 2
def zints (i : Nat) : List Int := (List.range 4).map (zbit i)
def zrow (i : Nat) : List UInt8 := (zints i).map fun n => n.toNat.toUInt8
def zrows (n : Nat) : List (List UInt8) := (List.range n).map zrow
theorem ints_snoc {vs : List Value} {ns : List Int} {n : Int} {t : Tok} (h : IntsAre vs ns) : IntsAre (vs ++ [.int n t]) (ns ++ [n]) := h.append (.cons n t .nil)
theorem zto_succ (i j : Nat) : (List.range (j + 1)).map (zbit i) = (List.range j).map (zbit i) ++ [zbit i j] := by rw [List.range_succ, List.map_append]; rfl
theorem zints_in (i : Nat) : KBa.In ((List.range 4).map (zbit i)) := by
  intro n hn
  obtain ⟨k, hk, rfl⟩ := List.mem_map.mp hn
  unfold zbit
  have h1 := Int.fmod_nonneg_of_pos ((i : Int).fdiv (2 ^ k)) (by decide : (0 : Int) < 2)
  have h2 := Int.fmod_lt_of_pos ((i : Int).fdiv (2 ^ k)) (by decide : (0 : Int) < 2)
  omega
set_option maxRecDepth 100000 in
set_option maxHeartbeats 8000000 in
theorem s3 : ∀ (w : World) (mean : ExcName → Option Value) (mg mb : Str → Option Value) (h₀ : Heap) (L fa : Addr) (cd : Value) (s : Shared) (ex : List (Addr × Obj)) (o1 o2 o3 o4 o5 : Obj) (a b c d f g k l : Option Value) (Q : Flow → Shared → Prop)
    (_ : Below callerA h₀ [] h₀) (_ : (Mine.hd.heap_39 w.params).In h₀) (_ : Top Mine.hd.view_39 (looseW Mine.hd.view_39 []) mean mg mb h₀)
    (_ : Fr h₀ L s.heap (lMap a b c d f g k l)) (_ : News h₀ L s.heap (cells L o1 o2 o3 o4 o5 ex))
    (_ : ∀ D ys h' tk', Fr h₀ L h' (lMap a (some (.ref D)) c d f g k l) → News h₀ L h' ((D, lst ys) :: cells L o1 o2 o3 o4 o5 ex) → (∀ p ∈ cells L o1 o2 o3 o4 o5 ex, p.1 ≠ D) → RowsAre ys (zrows 16) → Q .next { s with heap := h', toks := tk' }),
    wpN (model PySem.Challenge.rw_zw0001_01.prog w) (callerA.deeper (lEnv L fa cd)) (exec (stmt 3) (lEnv L fa cd)) Q noE s := by
  k_fill
  intro w mean mg mb h₀ L fa cd s ex o1 o2 o3 o4 o5 a b c d f g k l Q B X T F N hret
  have hB : stmt 3 = stmt 3 := rfl
  conv at hB => rhs; whnf
  have hS : fnScope 7 = fnScope 7 := rfl
  conv at hS => rhs; whnf
  unfold lEnv
  rw [hB, hS]
  clear hB hS
  refine wpN_Assign_comp (by rfl) (by intro _; rfl) (by with_unfolding_all rfl) (by rfl) (by decide) ?_
  refine wpN_of ?_
  k_steps
  rename IsRange _ _ _ _ _ _ _ _ => hr
  rename Fr _ _ _ _ => F₁; rename News _ _ _ _ => N₁
  refine wpN_of (iter_range hr (by decide) F₁ N₁ fun I h₂ F₂ N₂ hI => ?_)
  have N₂' : News h₀ L h₂ ((I, rit 0 ((16 : Nat) : Int) 1) :: cells L o1 o2 o3 o4 o5 ex) := N₂
  have zI := N₂' _ List.mem_cons_self
  obtain ⟨W, hst, hfp⟩ := walk_range (prog := PySem.Challenge.rw_zw0001_01.prog) (w := w) (A := callerA.deeper (lEnv L fa cd)) rfl (s := { s with heap := h₂ }) N₂'
  refine blockNC W (fun i h st => ⟨_, st⟩) range_st rfl rfl (fun h => rfl) (fun n => rfl) hst hfp F₂ (fun p hp => N₂' p (List.mem_cons_of_mem _ hp)) (Ne.symm zI.2.1) zI.2.2 (fun p hp => Nat.ne_of_lt (hI p hp))
    (fun i ys => RowsAre ys (zrows i)) ⟨rfl, by simp [zrows]⟩ ?_ ?_
  · intro C D cc hIC hID hCD i v ys m₂ oI oC oc h₃ tk₃ hi hP hJ hC hoc F₃ N₃ off₃
    obtain ⟨tn, rfl⟩ := hP
    rw [Int.zero_add] at hoc
    clear N₂ N₂' F₂ F₁ N₁
    refine tests_nil ?_
    dsimp only [if_true]
    refine wpN_Call_type (T := "bytes") ?_ ?_
    · intro Q' hQ'
      k_steps
      exact hQ'
    · refine wpN_spliced_cons ?_
      show wpN _ _ (eval _ _) _ _ _
      rw [eval_ListComp]
      refine compN (use := none) rfl (by intro _; rfl) (by with_unfolding_all rfl) (by rfl) (by decide) ?_
      show wpN _ _ (eval _ _) _ _ _
      refine wpN_of ?_
      k_steps
      rename IsRange _ _ _ _ _ _ _ _ => hr2
      rename Fr _ _ _ _ => F₅; rename News _ _ _ _ => N₅
      refine wpN_of (iter_range hr2 (by decide) F₅ N₅ fun I2 h₆ F₆ N₆ hI2 => ?_)
      have N₆' : News h₀ L h₆ ((I2, rit 0 ((4 : Nat) : Int) 1) :: (I, oI) :: (C, oC) :: (D, lst ys) :: (cc, oc) :: cells L o1 o2 o3 o4 o5 ex) := N₆
      have zI2 := N₆' _ List.mem_cons_self
      obtain ⟨W2, hst2, hfp2⟩ := walk_range (prog := PySem.Challenge.rw_zw0001_01.prog) (w := w) (A := callerA.deeper (lEnv L fa cd)) rfl (s := { s with heap := h₆ }) N₆'
      refine blockN_name W2 (fun i h st => ⟨_, st⟩) range_st (by decide) rfl rfl hst2 hfp2 F₆ (fun p hp => N₆' p (List.mem_cons_of_mem _ hp)) (Ne.symm zI2.2.1) zI2.2.2 (fun p hp => Nat.ne_of_lt (hI2 p hp))
        (fun j ys2 nw _ => nw = (I, oI) :: (C, oC) :: (D, lst ys) :: (cc, oc) :: cells L o1 o2 o3 o4 o5 ex ∧ IntsAre ys2 ((List.range j).map (zbit i))) (fun _ _ _ _ _ => trivial) ⟨rfl, .nil⟩ ?_ ?_
      · intro C2 D2 hIC2 hID2 hCD2 j v ys2 nw m₃ oJ oC2 h₇ tk₇ hj hP2 hJ2 hC2 F₇ N₇ off₇
        obtain ⟨rfl, hy2⟩ := hJ2
        obtain ⟨tk2, rfl⟩ := hP2
        rw [Int.zero_add] at hC2
        clear N₆ N₆' F₆ N₅ F₅ hC
        refine tests_nil ?_
        dsimp only [if_true]
        have hlen := IntsAre.length hy2
        rw [List.length_map, List.length_range] at hlen
        rcases (by omega : j = 0 ∨ j = 1 ∨ j = 2 ∨ j = 3) with rfl | rfl | rfl | rfl
        · obtain ⟨m4, hC9, ha9⟩ : ∃ m4, NsObj oC2 m4 ∧ m4 (Str.ofString "k") = some (.int 0 tk2) := ⟨_, hC2, if_pos rfl⟩
          clear hC2
          refine wpN_of ?_
          k_steps
          rename Fr _ _ _ _ => F₈; rename News _ _ _ _ => N₈
          exact ⟨_, _, ys2, _, m4, oC2, rfl, ⟨rfl, by rw [zto_succ]; exact ints_snoc hy2⟩, hC9, F₈, N₈, off₇, by rw [hlen, sizeLine_eq]; decide⟩
        · obtain ⟨m4, hC9, ha9⟩ : ∃ m4, NsObj oC2 m4 ∧ m4 (Str.ofString "k") = some (.int 1 tk2) := ⟨_, hC2, if_pos rfl⟩
          clear hC2
          refine wpN_of ?_
          k_steps
          rename Fr _ _ _ _ => F₈; rename News _ _ _ _ => N₈
          exact ⟨_, _, ys2, _, m4, oC2, rfl, ⟨rfl, by rw [zto_succ]; exact ints_snoc hy2⟩, hC9, F₈, N₈, off₇, by rw [hlen, sizeLine_eq]; decide⟩
        · obtain ⟨m4, hC9, ha9⟩ : ∃ m4, NsObj oC2 m4 ∧ m4 (Str.ofString "k") = some (.int 2 tk2) := ⟨_, hC2, if_pos rfl⟩
          clear hC2
          refine wpN_of ?_
          k_steps
          rename Fr _ _ _ _ => F₈; rename News _ _ _ _ => N₈
          exact ⟨_, _, ys2, _, m4, oC2, rfl, ⟨rfl, by rw [zto_succ]; exact ints_snoc hy2⟩, hC9, F₈, N₈, off₇, by rw [hlen, sizeLine_eq]; decide⟩
        · obtain ⟨m4, hC9, ha9⟩ : ∃ m4, NsObj oC2 m4 ∧ m4 (Str.ofString "k") = some (.int 3 tk2) := ⟨_, hC2, if_pos rfl⟩
          clear hC2
          refine wpN_of ?_
          k_steps
          rename Fr _ _ _ _ => F₈; rename News _ _ _ _ => N₈
          exact ⟨_, _, ys2, _, m4, oC2, rfl, ⟨rfl, by rw [zto_succ]; exact ints_snoc hy2⟩, hC9, F₈, N₈, off₇, by rw [hlen, sizeLine_eq]; decide⟩
      · intro D2 C2 h₇ tk₇ m' ys2 nw m₃ F₇ N₇ off₇ hn7 hC₀7 hCL7 hCD7 offC7 hJ2
        obtain ⟨rfl, hy2⟩ := hJ2
        refine end_plain F₇ N₇ hn7 hC₀7 hCL7 hCD7 offC7 fun h₈ F₈ N₈ => ?_
        refine wpN_spliced_nil ?_
        refine wpN_of (KBa.make_K F₈ N₈ rfl ⟨_, (N₈ _ List.mem_cons_self).1, rfl, _, rfl⟩ hy2 (zints_in i) (by rw [List.length_map, List.length_range]; decide) fun h₉ t₉ k₉ F₉ N₉ _ => ?_)
        refine ⟨h₉, k₉, ys, (cc, oc) :: cells L o1 o2 o3 o4 o5 ex, m₂, oC, rfl, ⟨oc, _, rfl, hoc, ?_⟩, hC, F₉, (fun p hp => N₉ p (List.mem_cons_of_mem _ hp)), off₃, by rw [hJ.1, sizeLine_eq, zrows, List.length_map, List.length_range]; omega⟩
        rw [show zrows (i + 1) = zrows i ++ [zrow i] by unfold zrows; rw [List.range_succ, List.map_append]; rfl]
        exact rows_append hJ ⟨rfl, fun i' v r hv hr => by
          cases i' with
          | zero => cases hv; cases hr; exact ⟨t₉, rfl⟩
          | succ i' => simp at hv⟩
  · intro D C h tk m' ys F₃ N₃ off hn hC₀ hCL hCD offC hJ
    refine end_assign (by rfl) (by rfl) (by rfl) F₃ N₃ hn hC₀ hCL hCD offC fun h₇ tk₇ F₇ N₇ => ?_
    exact hret D ys h₇ _ (Fr.eqv F₇ fun y => lset_zeros y) N₇ (fun p hp => off1_ne off p hp) hJ
end Mine
end

section
open PySem PySem.W PySem.Calls PyProof.Rows PyProof.Rows.LCg
namespace Mine
theorem newsHead2 {h₀ h : Heap} {L a : Addr} {o : Obj} {l : List (Addr × Obj)} (N : News h₀ L h ((a, o) :: l)) : ∃ t0 : Addr × Obj, t0.1 = a ∧ t0.2 = o ∧ News h₀ L h (t0 :: l) := ⟨(a, o), rfl, rfl, N⟩
def IsList' (o : Obj) (its : Array Value) : Prop := o.cls = .type "list" ∧ ∃ n, o.data = .seq its n
theorem mod_in (ns : List Int) : KBa.In (ns.map fun n => n.fmod 256) := by
  intro n hn
  obtain ⟨k, hk, rfl⟩ := List.mem_map.mp hn
  exact ⟨Int.fmod_nonneg_of_pos k (by decide), Int.fmod_lt_of_pos k (by decide)⟩
theorem ints_turn {ys : List Value} {ns : List Int} {f : Int → Int} {j : Nat} {t : Tok} (h : IntsAre ys ((ns.take j).map f)) (hj : j < ns.length) : IntsAre (ys ++ [.int (f (ns.getD j 0)) t]) ((ns.take (j + 1)).map f) := by
  have e : ns.getD j 0 = ns[j] := by rw [List.getD_eq_getElem?_getD, List.getElem?_eq_getElem hj]; rfl
  rw [List.take_add_one, List.getElem?_eq_getElem hj, Option.toList_some, List.map_append, e]
  exact h.append (.cons _ t .nil)
set_option maxRecDepth 100000 in
set_option maxHeartbeats 8000000 in
theorem s8 : ∀ (w : World) (mean : ExcName → Option Value) (mg mb : Str → Option Value) (h₀ : Heap) (L fa : Addr) (cd : Value) (s : Shared) (ex : List (Addr × Obj)) (o1 o2 o3 o4 o5 : Obj) (b c d f g k l : Option Value) (sc : Addr) (vs : List Value) (ns : List Int) (Q : Flow → Shared → Prop)
    (_ : Below callerA h₀ [] h₀) (_ : (Mine.hd.heap_39 w.params).In h₀) (_ : Top Mine.hd.view_39 (looseW Mine.hd.view_39 []) mean mg mb h₀)
    (_ : h₀.IsList sc vs.toArray) (_ : IntsAre vs ns) (_ : ns.length ≤ 63)
    (_ : Fr h₀ L s.heap (lMap (some (.ref sc)) b c d f g k l)) (_ : News h₀ L s.heap (cells L o1 o2 o3 o4 o5 ex))
    (_ : ∀ (dr : List UInt8) td h' tk', dr.length = 4 → Fr h₀ L h' (lMap (some (.ref sc)) b c d (some (.bytes dr.toArray td)) g k l) → News h₀ L h' (cells L o1 o2 o3 o4 o5 ex) → Q .next { s with heap := h', toks := tk' }),
    wpN (model PySem.Challenge.rw_zw0001_01.prog w) (callerA.deeper (lEnv L fa cd)) (exec (stmt 8) (lEnv L fa cd)) Q noE s := by
  k_fill
  intro w mean mg mb h₀ L fa cd s ex o1 o2 o3 o4 o5 b c d f g k l sc vs ns Q B X T hL hI hlen F N hret
  have hB : stmt 8 = stmt 8 := rfl
  conv at hB => rhs; whnf
  have hS : fnScope 7 = fnScope 7 := rfl
  conv at hS => rhs; whnf
  unfold lEnv
  rw [hB, hS]
  clear hB hS
  refine wpN_Assign_Name (wpN_Call_type (T := "bytes") ?_ ?_)
  · intro Q' hQ'
    k_steps
    exact hQ'
  · refine wpN_spliced_cons ?_
    show wpN _ _ (eval _ _) _ _ _
    rw [eval_ListComp]
    refine compN (use := none) rfl (by intro _; rfl) (by with_unfolding_all rfl) (by rfl) (by decide) ?_
    show wpN _ _ (eval _ _) _ _ _
    refine wpN_of ?_
    k_steps
    rename IntsAre _ (List.take _ _) => hI4
    rename Fr _ _ _ _ => F₁; rename News _ _ _ _ => N₁
    have hlen4 : (List.take 4 (ns ++ [7, 3, 5, 3])).length = 4 := by rw [List.length_take, List.length_append]; simp
    generalize hns4 : List.take 4 (ns ++ [7, 3, 5, 3]) = ns4 at hI4 hlen4
    obtain ⟨t0, ht0, e0, N₁'⟩ := newsHead2 N₁
    have hsz := hI4.length
    obtain ⟨ws, hws⟩ : ∃ ws, IntsAre ws ns4 ∧ t0.2 = W.listOf ws.toArray 0 := ⟨_, hI4, e0⟩
    have hIl : IsList' t0.2 ws.toArray := by rw [hws.2]; exact ⟨rfl, 0, rfl⟩
    rw [← ht0]
    have hsl : Heap.IsList _ t0.1 ws.toArray := ⟨t0.2, (N₁' (t0.1, t0.2) List.mem_cons_self).1, hIl.1, hIl.2⟩
    refine wpN_of (iter_list hsl F₁ N₁' fun I oI h₂ hI0 F₂ N₂ hne2 _ _ => ?_)
    generalize hnw : (t0 :: _ : List (Addr × Obj)) = nw0 at N₂ hne2
    have ht0m : t0 ∈ nw0 := by rw [← hnw]; exact List.mem_cons_self
    have hsrc : SrcAt h₀ t0.1 ws.toArray nw0 := .inr ⟨t0.2, ht0m, hIl.1, hIl.2⟩
    have hcell0 : ∀ p ∈ cells L o1 o2 o3 o4 o5 ex, p ∈ nw0 := fun p hp => by rw [← hnw]; exact List.mem_cons_of_mem _ (List.mem_cons_of_mem _ (List.mem_cons_of_mem _ hp))
    clear N₁ N₁' F₁
    refine blockN_list rfl hI0 F₂ N₂ hsrc (Nat.ne_of_lt (hne2 _ ht0m)) (fun p hp => Nat.ne_of_lt (hne2 p hp)) (by decide) rfl rfl
      (fun j ys nw _ => nw = nw0 ∧ IntsAre ys ((ns4.take j).map fun n => n.fmod 256)) (fun j ys nw _ hJ => by rw [hJ.1]; exact hsrc) ⟨rfl, .nil⟩ ?_ ?_
    · intro C D hIC hID hCD j v ys nw m₂ oI3 oC h₅ tk₅ hj hv hJ hC F₅ N₅ off₅
      obtain ⟨rfl, hys⟩ := hJ
      rw [List.size_toArray, hws.1.length, hlen4] at hj
      rw [List.getElem?_toArray] at hv
      obtain ⟨tv, rfl⟩ := hws.1.int_at j v hv
      obtain ⟨m3, hC', ha'⟩ : ∃ m3, NsObj oC m3 ∧ m3 (Str.ofString "number") = some (.int (ns4.getD j 0) tv) := ⟨_, hC, if_pos rfl⟩
      clear hC F₂ N₂
      refine tests_nil ?_
      dsimp only [if_true]
      refine wpN_of ?_
      k_steps
      rename Fr _ _ _ _ => F₆; rename News _ _ _ _ => N₆
      have hyl : ys.length ≤ sizeLine := by rw [hys.length, List.length_map, List.length_take, sizeLine_eq]; omega
      exact ⟨_, _, ys, _, m3, oC, rfl, ⟨rfl, ints_turn hys (by omega)⟩, hC', F₆, N₆, off₅, hyl⟩
    · intro D C h₇ tk₇ m' ys nw m₂ F₇ N₇ off₇ hn7 hC₀7 hCL7 hCD7 offC7 hJ2
      obtain ⟨rfl, hy2⟩ := hJ2
      refine end_plain F₇ N₇ hn7 hC₀7 hCL7 hCD7 offC7 fun h₈ F₈ N₈ => ?_
      rw [List.size_toArray, hws.1.length, List.take_length] at hy2
      refine wpN_spliced_nil ?_
      refine wpN_of (KBa.make_K F₈ N₈ rfl ⟨_, (N₈ _ List.mem_cons_self).1, rfl, _, rfl⟩ hy2 (mod_in ns4) (by rw [List.length_map, hlen4]; decide) fun h₉ t₉ k₉ F₉ N₉ _ => ?_)
      have N₁₀ : News h₀ L h₉ (cells L o1 o2 o3 o4 o5 ex) := fun p hp => N₉ p (List.mem_cons_of_mem _ (hcell0 p hp))
      clear N₈ N₉ F₈ N₇ F₇
      k_steps
      rename Fr _ _ _ _ => F₁₁; rename News _ _ _ _ => N₁₁
      exact hret ((ns4.map fun n => n.fmod 256).map fun n => n.toNat.toUInt8) t₉ _ _ (by rw [List.length_map, List.length_map, hlen4]) (Fr.eqv F₁₁ fun y => lset_drawn y) N₁₁
end Mine
end

section
open PySem PySem.W PySem.Calls PyProof.Rows PyProof.Rows.LCg
namespace Mine
theorem away2 {L : Addr} {p q : Addr × Obj} (hp : @LT.lt Nat _ (L + 1 + 1 + 1 + 1 + 1) p.1) (hq : @LT.lt Nat _ (L + 1 + 1 + 1 + 1 + 1) q.1) : Away L [p, q] := by
  have one : ∀ r : Addr × Obj, @LT.lt Nat _ (L + 1 + 1 + 1 + 1 + 1) r.1 → r.1 ≠ L + 1 ∧ r.1 ≠ L + 1 + 1 ∧ r.1 ≠ L + 1 + 1 + 1 ∧ r.1 ≠ L + 1 + 1 + 1 + 1 ∧ r.1 ≠ L + 1 + 1 + 1 + 1 + 1 := by
    intro r hr
    generalize r.1 = x at hr
    refine ⟨?_, ?_, ?_, ?_, ?_⟩ <;> (show @Ne Nat _ _; omega)
  intro r hr
  rcases List.mem_cons.mp hr with rfl | hr
  · exact one _ hp
  · rw [List.mem_singleton.mp hr]; exact one _ hq
theorem fmod3 (x : Int) : x.fmod 3 = 0 ∨ x.fmod 3 = 1 ∨ x.fmod 3 = 2 := by
  have h1 := Int.fmod_nonneg_of_pos x (by decide : (0 : Int) < 3)
  have h2 := Int.fmod_lt_of_pos x (by decide : (0 : Int) < 3)
  omega
theorem mem5 {α : Type} {a b c d e x : α} {l : List α} (h : x ∈ l) : x ∈ a :: b :: c :: d :: e :: l := List.mem_cons_of_mem _ (List.mem_cons_of_mem _ (List.mem_cons_of_mem _ (List.mem_cons_of_mem _ (List.mem_cons_of_mem _ h))))
theorem more_pick {h₀ h : Heap} {L : Addr} {d a b t3 t2 t1 : Addr × Obj} {l : List (Addr × Obj)} (N : News h₀ L h (d :: a :: b :: t3 :: t2 :: t1 :: l)) : News h₀ L h (d :: t3 :: l) ∧ News h₀ L h (d :: t2 :: l) ∧ News h₀ L h (d :: t1 :: l) := by
  refine ⟨fun p hp => N p ?_, fun p hp => N p ?_, fun p hp => N p ?_⟩ <;> (simp only [List.mem_cons] at hp ⊢; rcases hp with h | h | h <;> simp [h])
set_option maxRecDepth 100000 in
set_option maxHeartbeats 8000000 in
theorem s11 : ∀ (w : World) (mean : ExcName → Option Value) (mg mb : Str → Option Value) (h₀ : Heap) (L fa : Addr) (cd : Value) (s : Shared) (ex : List (Addr × Obj)) (o1 o2 o3 o4 o5 : Obj) (b c d f g k l : Option Value) (sc cc : Addr) (vs : List Value) (ns : List Int) (ps : List (Nat × Nat)) (Q : Flow → Shared → Prop)
    (_ : Below callerA h₀ [] h₀) (_ : (Mine.hd.heap_39 w.params).In h₀) (_ : Top Mine.hd.view_39 (looseW Mine.hd.view_39 []) mean mg mb h₀)
    (_ : h₀.IsList sc vs.toArray) (_ : IntsAre vs ns) (_ : ns.length ≤ 63) (_ : o2.data = .cell (some (.ref cc))) (_ : CmpIn ex cc ps) (_ : ps.length ≤ 1000)
    (_ : Fr h₀ L s.heap (lMap (some (.ref sc)) b c d f g k l)) (_ : News h₀ L s.heap (cells L o1 o2 o3 o4 o5 ex))
    (_ : ∀ D oD tup p h' tk', Fr h₀ L h' (lMap (some (.ref sc)) b c d f g k l) → News h₀ L h' ((D, oD) :: tup :: cells L o1 o2 o3 o4 o5 ex) → Away L [(D, oD), tup] → CmpIn ((D, oD) :: tup :: ex) D (ps ++ [p]) → GoodPair p →
      wpAny (model PySem.Challenge.rw_zw0001_01.prog w) (callerA.deeper (lEnv L fa cd)) (storeName (lEnv L fa cd) (Str.ofString "more") (.ref D)) (fun _ => Q .next) noE { s with heap := h', toks := tk' }),
    wpN (model PySem.Challenge.rw_zw0001_01.prog w) (callerA.deeper (lEnv L fa cd)) (exec (stmt 11) (lEnv L fa cd)) Q noE s := by
  k_fill
  intro w mean mg mb h₀ L fa cd s ex o1 o2 o3 o4 o5 b c d f g k l sc cc vs ns ps Q B X T hL hI hlen d2 hc hps F N hret
  have hB : stmt 11 = stmt 11 := rfl
  conv at hB => rhs; whnf
  have hS : fnScope 7 = fnScope 7 := rfl
  conv at hS => rhs; whnf
  unfold lEnv at hret ⊢
  rw [hB, hS]
  rw [hS] at hret
  clear hB hS
  obtain ⟨ci, oc, nc, hcm, hcc, hcd', hcr⟩ := id hc
  have hsub : ∀ q ∈ ex, q ∈ cells L o1 o2 o3 o4 o5 ex := fun q hq => List.mem_cons_of_mem _ (List.mem_cons_of_mem _ (List.mem_cons_of_mem _ (List.mem_cons_of_mem _ (List.mem_cons_of_mem _ hq))))
  refine wpN_Assign_Name (wpN_BinOp (wpN_of ?_))
  k_steps
  refine wpN_of ?_
  k_steps
  rcases fmod3 ns.sum with h | h | h
  · rw [h]
    k_steps
    rename Fr _ _ _ _ => F₂; rename News _ _ _ _ => N₂
    have hIs1 : Heap.IsList _ cc ci.toArray := ⟨oc, (N₂ _ (mem5 (hsub _ hcm))).1, hcc, nc, hcd'⟩
    refine wpN_of (kmk_add_lit F₂ N₂ hIs1 ⟨_, (N₂ _ List.mem_cons_self).1, rfl, _, rfl⟩ rfl ?_ (by show ci.length + 1 ≤ sizeLine; rw [hcr.1, sizeLine_eq]; omega))
    intro D h₃ F₃ N₃ hlt
    have N₄ := (more_pick N₃).2.2
    refine hret D _ _ (0, 1) _ _ F₃ N₄ (away2 (hlt (L + 1 + 1 + 1 + 1 + 1, o5) (List.mem_append_right [_, _, _, _, _] List.mem_cons_self)) ?_) ⟨_, _, 0, List.mem_cons_self, rfl, rfl, ?_⟩ (by unfold GoodPair; decide)
    · show @LT.lt Nat _ (L + 1 + 1 + 1 + 1 + 1) _
      omega
    · exact (hcr.mono fun q hq => List.mem_cons_of_mem _ (List.mem_cons_of_mem _ hq)).append (PairsIn.one ⟨_, _, _, _, _, rfl, List.mem_cons_of_mem _ List.mem_cons_self, rfl, rfl⟩)
  · rw [h]
    k_steps
    rename Fr _ _ _ _ => F₂; rename News _ _ _ _ => N₂
    have hIs1 : Heap.IsList _ cc ci.toArray := ⟨oc, (N₂ _ (mem5 (hsub _ hcm))).1, hcc, nc, hcd'⟩
    refine wpN_of (kmk_add_lit F₂ N₂ hIs1 ⟨_, (N₂ _ List.mem_cons_self).1, rfl, _, rfl⟩ rfl ?_ (by show ci.length + 1 ≤ sizeLine; rw [hcr.1, sizeLine_eq]; omega))
    intro D h₃ F₃ N₃ hlt
    have N₄ := (more_pick N₃).2.1
    refine hret D _ _ (1, 3) _ _ F₃ N₄ (away2 (hlt (L + 1 + 1 + 1 + 1 + 1, o5) (List.mem_append_right [_, _, _, _, _] List.mem_cons_self)) ?_) ⟨_, _, 0, List.mem_cons_self, rfl, rfl, ?_⟩ (by unfold GoodPair; decide)
    · show @LT.lt Nat _ (L + 1 + 1 + 1 + 1 + 1) _
      omega
    · exact (hcr.mono fun q hq => List.mem_cons_of_mem _ (List.mem_cons_of_mem _ hq)).append (PairsIn.one ⟨_, _, _, _, _, rfl, List.mem_cons_of_mem _ List.mem_cons_self, rfl, rfl⟩)
  · rw [h]
    k_steps
    rename Fr _ _ _ _ => F₂; rename News _ _ _ _ => N₂
    have hIs1 : Heap.IsList _ cc ci.toArray := ⟨oc, (N₂ _ (mem5 (hsub _ hcm))).1, hcc, nc, hcd'⟩
    refine wpN_of (kmk_add_lit F₂ N₂ hIs1 ⟨_, (N₂ _ List.mem_cons_self).1, rfl, _, rfl⟩ rfl ?_ (by show ci.length + 1 ≤ sizeLine; rw [hcr.1, sizeLine_eq]; omega))
    intro D h₃ F₃ N₃ hlt
    have N₄ := (more_pick N₃).1
    refine hret D _ _ (2, 3) _ _ F₃ N₄ (away2 (hlt (L + 1 + 1 + 1 + 1 + 1, o5) (List.mem_append_right [_, _, _, _, _] List.mem_cons_self)) ?_) ⟨_, _, 0, List.mem_cons_self, rfl, rfl, ?_⟩ (by unfold GoodPair; decide)
    · show @LT.lt Nat _ (L + 1 + 1 + 1 + 1 + 1) _
      omega
    · exact (hcr.mono fun q hq => List.mem_cons_of_mem _ (List.mem_cons_of_mem _ hq)).append (PairsIn.one ⟨_, _, _, _, _, rfl, List.mem_cons_of_mem _ List.mem_cons_self, rfl, rfl⟩)
end Mine
end

section
open PySem PySem.W PySem.Calls PyProof.Rows PyProof.Rows.LCg
namespace Mine
theorem PairsIn.cons {ex : List (Addr × Obj)} {v : Value} {p : Nat × Nat} {vs : List Value} {ps : List (Nat × Nat)} (h : PairIn ex v p) (k : PairsIn ex vs ps) : PairsIn ex (v :: vs) (p :: ps) := (PairsIn.one h).append k
def net5 : List (Nat × Nat) := [(0, 1), (2, 3), (0, 2), (1, 3), (1, 2)]
theorem away_all {L : Addr} {l : List (Addr × Obj)} (h : ∀ p ∈ l, @LT.lt Nat _ (L + 1 + 1 + 1 + 1 + 1) p.1) : Away L l := fun p hp => away2 (h p hp) (h p hp) p List.mem_cons_self
theorem far6 {L : Nat} {p1 p2 p3 p4 p5 p6 p7 : Addr × Obj} (h : (@LT.lt Nat _ (L + 1 + 1 + 1 + 1 + 1) p1.1) ∧ (@LT.lt Nat _ (L + 1 + 1 + 1 + 1 + 1) p2.1) ∧ (@LT.lt Nat _ (L + 1 + 1 + 1 + 1 + 1) p3.1) ∧ (@LT.lt Nat _ (L + 1 + 1 + 1 + 1 + 1) p4.1) ∧ (@LT.lt Nat _ (L + 1 + 1 + 1 + 1 + 1) p5.1) ∧ (@LT.lt Nat _ (L + 1 + 1 + 1 + 1 + 1) p6.1) ∧ (@LT.lt Nat _ (L + 1 + 1 + 1 + 1 + 1) p7.1)) :
    ∀ p ∈ [p1, p2, p3, p4, p5, p6, p7], @LT.lt Nat _ (L + 1 + 1 + 1 + 1 + 1) p.1 := by
  intro p hp
  simp only [List.mem_cons, List.not_mem_nil, or_false] at hp
  rcases hp with rfl | rfl | rfl | rfl | rfl | rfl | rfl
  · exact h.1
  · exact h.2.1
  · exact h.2.2.1
  · exact h.2.2.2.1
  · exact h.2.2.2.2.1
  · exact h.2.2.2.2.2.1
  · exact h.2.2.2.2.2.2
set_option maxRecDepth 100000 in
set_option maxHeartbeats 8000000 in
theorem s2 : ∀ (w : World) (mean : ExcName → Option Value) (mg mb : Str → Option Value) (h₀ : Heap) (L fa : Addr) (cd : Value) (s : Shared) (ex : List (Addr × Obj)) (o1 o2 o3 o4 o5 : Obj) (b c d f g k l : Option Value) (sc cc : Addr) (vs : List Value) (ns : List Int) (ps : List (Nat × Nat)) (Q : Flow → Shared → Prop)
    (_ : Below callerA h₀ [] h₀) (_ : (Mine.hd.heap_39 w.params).In h₀) (_ : Top Mine.hd.view_39 (looseW Mine.hd.view_39 []) mean mg mb h₀)
    (_ : h₀.IsList sc vs.toArray) (_ : IntsAre vs ns) (_ : ns.length ≤ 63) (_ : o2.data = .cell (some (.ref cc))) (_ : CmpIn ex cc ps) (_ : ps.length ≤ 1000)
    (_ : Fr h₀ L s.heap (lMap (some (.ref sc)) b c d f g k l)) (_ : News h₀ L s.heap (cells L o1 o2 o3 o4 o5 ex))
    (_ : ns.sum.fmod 2 ≠ 0 → ∀ h' tk', Fr h₀ L h' (lMap (some (.ref sc)) b c d f g k l) → News h₀ L h' (cells L o1 o2 o3 o4 o5 ex) → Q .next { s with heap := h', toks := tk' })
    (_ : ns.sum.fmod 2 = 0 → ∀ D oD tups h' tk', Fr h₀ L h' (lMap (some (.ref sc)) b c d f g k l) → News h₀ L h' ((D, oD) :: (tups ++ cells L o1 o2 o3 o4 o5 ex)) → Away L ((D, oD) :: tups) → CmpIn ((D, oD) :: (tups ++ ex)) D (ps ++ net5) →
      wpAny (model PySem.Challenge.rw_zw0001_01.prog w) (callerA.deeper (lEnv L fa cd)) (storeName (lEnv L fa cd) (Str.ofString "comparisons") (.ref D)) (fun _ => Q .next) noE { s with heap := h', toks := tk' }),
    wpN (model PySem.Challenge.rw_zw0001_01.prog w) (callerA.deeper (lEnv L fa cd)) (exec (stmt 2) (lEnv L fa cd)) Q noE s := by
  k_fill
  intro w mean mg mb h₀ L fa cd s ex o1 o2 o3 o4 o5 b c d f g k l sc cc vs ns ps Q B X T hL hI hlen d2 hc hps F N hodd heven
  have hB : stmt 2 = stmt 2 := rfl
  conv at hB => rhs; whnf
  have hS : fnScope 7 = fnScope 7 := rfl
  conv at hS => rhs; whnf
  unfold lEnv at heven ⊢
  rw [hB, hS]
  rw [hS] at heven
  clear hB hS
  obtain ⟨ci, oc, nc, hcm, hcc, hcd', hcr⟩ := id hc
  have hsub : ∀ q ∈ ex, q ∈ cells L o1 o2 o3 o4 o5 ex := fun q hq => List.mem_cons_of_mem _ (List.mem_cons_of_mem _ (List.mem_cons_of_mem _ (List.mem_cons_of_mem _ (List.mem_cons_of_mem _ hq))))
  refine wpN_If (wpN_of ?_)
  k_steps
  · rename ns.sum.fmod 2 = 0 => hev
    clear hodd
    refine wpN_execs_cons (wpN_Assign_Name (wpN_BinOp (wpN_of ?_)))
    k_steps
    refine wpN_of ?_
    k_steps
    rename Fr _ _ _ _ => F₂; rename News _ _ _ _ => N₂
    have hIs1 : Heap.IsList _ cc ci.toArray := ⟨oc, (N₂ _ (List.mem_cons_of_mem _ (mem5 (hsub _ hcm)))).1, hcc, nc, hcd'⟩
    refine wpN_of (kmk_add_lit F₂ N₂ hIs1 ⟨_, (N₂ _ List.mem_cons_self).1, rfl, _, rfl⟩ rfl ?_ (by show ci.length + 5 ≤ sizeLine; rw [hcr.1, sizeLine_eq]; omega))
    intro D h₃ F₃ N₃ hlt
    have hD := hlt (L + 1 + 1 + 1 + 1 + 1, o5) (List.mem_append_right [_, _, _, _, _, _] List.mem_cons_self)
    refine wpAny_mono (heven hev D _ [_, _, _, _, _, _] _ _ F₃ N₃ (away_all (far6 ?_)) ⟨_, _, 0, List.mem_cons_self, rfl, rfl, ?_⟩) ?_ fun _ _ x => x
    · dsimp only
      refine ⟨hD, ?_, ?_, ?_, ?_, ?_, ?_⟩ <;> omega
    · exact (hcr.mono fun q hq => List.mem_cons_of_mem _ (List.mem_append_right _ hq)).append (PairsIn.cons ⟨_, _, _, _, _, rfl, (List.mem_cons_of_mem _ (List.mem_cons_of_mem _ (List.mem_cons_of_mem _ (List.mem_cons_of_mem _ (List.mem_cons_of_mem _ (List.mem_cons_of_mem _ List.mem_cons_self)))))), rfl, rfl⟩ (PairsIn.cons ⟨_, _, _, _, _, rfl, (List.mem_cons_of_mem _ (List.mem_cons_of_mem _ (List.mem_cons_of_mem _ (List.mem_cons_of_mem _ (List.mem_cons_of_mem _ List.mem_cons_self))))), rfl, rfl⟩ (PairsIn.cons ⟨_, _, _, _, _, rfl, (List.mem_cons_of_mem _ (List.mem_cons_of_mem _ (List.mem_cons_of_mem _ (List.mem_cons_of_mem _ List.mem_cons_self)))), rfl, rfl⟩ (PairsIn.cons ⟨_, _, _, _, _, rfl, (List.mem_cons_of_mem _ (List.mem_cons_of_mem _ (List.mem_cons_of_mem _ List.mem_cons_self))), rfl, rfl⟩ (PairsIn.cons ⟨_, _, _, _, _, rfl, (List.mem_cons_of_mem _ (List.mem_cons_of_mem _ List.mem_cons_self)), rfl, rfl⟩ PairsIn.nil)))))
    · intro _ s' hq
      show wpN _ _ (execs [] _) _ _ _
      refine wpN_of ?_
      k_steps
      exact hq
  · rename ns.sum.fmod 2 ≠ 0 => hev
    refine wpN_of ?_
    k_steps
    rename Fr _ _ _ _ => F₂; rename News _ _ _ _ => N₂
    exact hodd hev _ _ F₂ N₂
end Mine
end

section
open PySem PySem.W PySem.Calls PyProof.Rows
set_option maxRecDepth 100000
namespace Mine
section
variable {prog : Program} {w : World} {A : Around} {E : Value → Shared → Prop} {s : Shared} {h₀ : Heap} {L : Addr} {m : Str → Option Value} {news : List (Addr × Obj)}
theorem min_tup2 {d : Addr} {a b : Int} {t u : Tok} {Q : Value → Shared → Prop} (hh : A.handled = none) (hT : s.heap.IsTuple d (intItems #[(a, t), (b, u)]))
    (h : ∀ h' tk, Grow s.heap h' → Q (if b < a then .int b u else .int a t) { s with heap := h', toks := tk }) : wpAny (model prog w) A (call (.builtin "min") [.ref d]) Q E s := by
  have hd : d < s.heap.objs.size := by obtain ⟨_, e, _⟩ := hT; exact Heap.lt_size e
  refine call_min_walk (wpAny_pyIter_tuple hT ?_)
  refine ⟨_, [_, d], [_], _, _, _, _, rfl, Walks.tuple (A := A.in1) hh _ d (Nat.ne_of_lt hd) (intItems #[(a, t), (b, u)]),
    ⟨⟨_, Heap.get?_push_size _ rfl, rfl, rfl⟩, hT.push _⟩, fun c hc => ?_, by simp [intItems], CmpOf.ints_lt (numAt #[(a, t), (b, u)]) (fun _ _ => intItems_at), fun v h' tk hP hk => ?_⟩
  · show c < (s.heap.push _).objs.size
    rw [Heap.size_push]
    rcases List.mem_cons.mp hc with rfl | hc
    · exact Nat.lt_succ_self _
    · rw [List.mem_singleton.mp hc]; exact Nat.lt_succ_of_lt hd
  · have hold : Grow s.heap h' := fun c o e => hk c o (fun hm => absurd (Heap.lt_size e) (by rw [List.mem_singleton.mp hm]; exact Nat.lt_irrefl _)) (Heap.get?_push_of_some _ e)
    have := h h' tk hold
    have hv : v = if b < a then Value.int b u else Value.int a t := by
      have hP' : (intItems #[(a, t), (b, u)])[argBest (fun i j => decide (numAt #[(a, t), (b, u)] i < numAt #[(a, t), (b, u)] j)) 1]? = some v := by
        have hsz2 : (intItems #[(a, t), (b, u)]).size - 1 = 1 := by simp [intItems]
        rw [← hsz2]; exact hP
      by_cases hba : b < a
      · have e : argBest (fun i j => decide (numAt #[(a, t), (b, u)] i < numAt #[(a, t), (b, u)] j)) 1 = 1 := by simp [argBest, numAt, hba]
        rw [e] at hP'
        simpa [intItems, hba] using hP'.symm
      · have e : argBest (fun i j => decide (numAt #[(a, t), (b, u)] i < numAt #[(a, t), (b, u)] j)) 1 = 0 := by simp [argBest, numAt, hba]
        rw [e] at hP'
        simpa [intItems, hba] using hP'.symm
    rw [hv]; exact this
theorem max_tup2 {d : Addr} {a b : Int} {t u : Tok} {Q : Value → Shared → Prop} (hh : A.handled = none) (hT : s.heap.IsTuple d (intItems #[(a, t), (b, u)]))
    (h : ∀ h' tk, Grow s.heap h' → Q (if b > a then .int b u else .int a t) { s with heap := h', toks := tk }) : wpAny (model prog w) A (call (.builtin "max") [.ref d]) Q E s := by
  have hd : d < s.heap.objs.size := by obtain ⟨_, e, _⟩ := hT; exact Heap.lt_size e
  refine call_max_walk (wpAny_pyIter_tuple hT ?_)
  refine ⟨_, [_, d], [_], _, _, _, _, rfl, Walks.tuple (A := A.in1) hh _ d (Nat.ne_of_lt hd) (intItems #[(a, t), (b, u)]),
    ⟨⟨_, Heap.get?_push_size _ rfl, rfl, rfl⟩, hT.push _⟩, fun c hc => ?_, by simp [intItems], CmpOf.ints_gt (numAt #[(a, t), (b, u)]) (fun _ _ => intItems_at), fun v h' tk hP hk => ?_⟩
  · show c < (s.heap.push _).objs.size
    rw [Heap.size_push]
    rcases List.mem_cons.mp hc with rfl | hc
    · exact Nat.lt_succ_self _
    · rw [List.mem_singleton.mp hc]; exact Nat.lt_succ_of_lt hd
  · have hold : Grow s.heap h' := fun c o e => hk c o (fun hm => absurd (Heap.lt_size e) (by rw [List.mem_singleton.mp hm]; exact Nat.lt_irrefl _)) (Heap.get?_push_of_some _ e)
    have := h h' tk hold
    have hv : v = if b > a then Value.int b u else Value.int a t := by
      have hP' : (intItems #[(a, t), (b, u)])[argBest (fun i j => decide (numAt #[(a, t), (b, u)] i > numAt #[(a, t), (b, u)] j)) 1]? = some v := by
        have hsz2 : (intItems #[(a, t), (b, u)]).size - 1 = 1 := by simp [intItems]
        rw [← hsz2]; exact hP
      by_cases hba : b > a
      · have e : argBest (fun i j => decide (numAt #[(a, t), (b, u)] i > numAt #[(a, t), (b, u)] j)) 1 = 1 := by simp [argBest, numAt, hba]
        rw [e] at hP'
        simpa [intItems, hba] using hP'.symm
      · have e : argBest (fun i j => decide (numAt #[(a, t), (b, u)] i > numAt #[(a, t), (b, u)] j)) 1 = 0 := by simp [argBest, numAt, hba]
        rw [e] at hP'
        simpa [intItems, hba] using hP'.symm
    rw [hv]; exact this
end
end Mine
end

section
open PySem PySem.W PySem.Calls PyProof.Rows PyProof.Rows.LCg
namespace Mine
def mm (p : Nat × Nat) : Nat × Nat := (if p.2 < p.1 then p.2 else p.1, if p.1 < p.2 then p.2 else p.1)
def prOf (n : Int) : Nat × Nat := mm ((pairsTo 4).getD (n.fmod 12).toNat (0, 1))
def ItemOK (NW : List (Addr × Obj)) (h₀ : Heap) (L pl : Addr) (k : Int) (v : Value) : Prop := (∀ h, News h₀ L h NW → ∃ its : List Value, h.IsList pl its.toArray ∧ its[k.toNat]? = some v) ∧ 0 ≤ k ∧ k < 2 ^ 63
def TupOK (NW : List (Addr × Obj)) (h₀ : Heap) (L a : Addr) (x y : Int) (t u : Tok) : Prop := ∀ h, News h₀ L h NW → h.IsTuple a (intItems #[(x, t), (y, u)])
section
variable {prog : Program} {w : World} {A : Around} {E : Value → Shared → Prop} {s : Shared} {h₀ : Heap} {L : Addr} {m : Str → Option Value} {NW : List (Addr × Obj)}
theorem item_ok {value slice : Expr} {pl : Addr} {k : Int} {u : Tok} {v : Value} {Q : Value → Shared → Prop} (I : ItemOK NW h₀ L pl k v) (N : News h₀ L s.heap NW) (h : Q v s)
    (hs : subscripted slice false (.ref pl) (.int k u) = operate [.ref pl, .int k u] (getItem (.ref pl) (.int k u)) := by with_unfolding_all rfl) (hg : ∀ r, letTemporaryGo value (.ref pl) r = pure () := by intro _; with_unfolding_all rfl) :
    wpAny (model prog w) A (subscriptTail value slice (.ref pl) (.int k u)) Q E s := by
  obtain ⟨its, hl, hv⟩ := I.1 _ N
  exact item_listL hl I.2.1 I.2.2 hv h hs hg
theorem min_ok {a : Addr} {x y : Int} {t u : Tok} {Q : Value → Shared → Prop} (hh : A.handled = none) (T : TupOK NW h₀ L a x y t u) (F : Fr h₀ L s.heap m) (N : News h₀ L s.heap NW)
    (h : ∀ h' tk, Fr h₀ L h' m → News h₀ L h' NW → Q (.int (if y < x then y else x) (if y < x then u else t)) { s with heap := h', toks := tk }) : wpAny (model prog w) A (call (.builtin "min") [.ref a]) Q E s :=
  min_tup2 hh (T _ N) fun h' tk hG => by
    have := h h' tk (F.keeps hG) (N.grown hG)
    by_cases hc : y < x
    · simp only [hc, if_true] at this ⊢; exact this
    · simp only [hc, if_false] at this ⊢; exact this
theorem max_ok {a : Addr} {x y : Int} {t u : Tok} {Q : Value → Shared → Prop} (hh : A.handled = none) (T : TupOK NW h₀ L a x y t u) (F : Fr h₀ L s.heap m) (N : News h₀ L s.heap NW)
    (h : ∀ h' tk, Fr h₀ L h' m → News h₀ L h' NW → Q (.int (if x < y then y else x) (if x < y then u else t)) { s with heap := h', toks := tk }) : wpAny (model prog w) A (call (.builtin "max") [.ref a]) Q E s :=
  max_tup2 hh (T _ N) fun h' tk hG => by
    have := h h' tk (F.keeps hG) (N.grown hG)
    by_cases hc : x < y
    · simp only [hc, if_true, gt_iff_lt] at this ⊢; exact this
    · simp only [hc, if_false, gt_iff_lt] at this ⊢; exact this
end
local macro_rules | `(tactic| walk_at "subscriptTail") => `(tactic| (k_here; (with_reducible show wpAny _ _ (subscriptTail _ _ (Value.ref _) (Value.int (Int.fmod _ _) _)) _ _ _); (refine item_ok (by assumption) (by assumption) ?_)))
local macro_rules | `(tactic| walk_at "call builtin:min") => `(tactic| (k_here; (with_reducible show wpAny _ _ (call (Value.builtin "min") [Value.ref _]) _ _ _); (refine min_ok rfl (by assumption) (by assumption) (by assumption) ?_); intro _ _ _ _))
local macro_rules | `(tactic| walk_at "call builtin:max") => `(tactic| (k_here; (with_reducible show wpAny _ _ (call (Value.builtin "max") [Value.ref _]) _ _ _); (refine max_ok rfl (by assumption) (by assumption) (by assumption) ?_); intro _ _ _ _))
set_option maxRecDepth 100000 in
set_option maxHeartbeats 8000000 in
theorem s1 : ∀ (w : World) (mean : ExcName → Option Value) (mg mb : Str → Option Value) (h₀ : Heap) (L fa : Addr) (cd : Value) (s : Shared) (ex : List (Addr × Obj)) (o1 o2 o3 o4 o5 : Obj) (b c d f g k l : Option Value) (sc pl : Addr) (vs : List Value) (ns : List Int) (Q : Flow → Shared → Prop)
    (_ : Below callerA h₀ [] h₀) (_ : (Mine.hd.heap_39 w.params).In h₀) (_ : Top Mine.hd.view_39 (looseW Mine.hd.view_39 []) mean mg mb h₀)
    (_ : h₀.IsList sc vs.toArray) (_ : IntsAre vs ns) (_ : ns.length ≤ 63) (_ : o1.data = .cell (some (.ref pl))) (_ : CmpIn ex pl (pairsTo 4))
    (_ : Fr h₀ L s.heap (lMap (some (.ref sc)) b c d f g k l)) (_ : News h₀ L s.heap (cells L o1 o2 o3 o4 o5 ex))
    (_ : ∀ D oD tups h' tk', Fr h₀ L h' (lMap (some (.ref sc)) b c d f g k l) → News h₀ L h' ((D, oD) :: (tups ++ cells L o1 o2 o3 o4 o5 ex)) → Away L ((D, oD) :: tups) → CmpIn ((D, oD) :: (tups ++ ex)) D ((ns.take 6).map prOf) →
      wpAny (model PySem.Challenge.rw_zw0001_01.prog w) (callerA.deeper (lEnv L fa cd)) (storeName (lEnv L fa cd) (Str.ofString "comparisons") (.ref D)) (fun _ => Q .next) noE { s with heap := h', toks := tk' }),
    wpN (model PySem.Challenge.rw_zw0001_01.prog w) (callerA.deeper (lEnv L fa cd)) (exec (stmt 1) (lEnv L fa cd)) Q noE s := by
  k_fill
  intro w mean mg mb h₀ L fa cd s ex o1 o2 o3 o4 o5 b c d f g k l sc pl vs ns Q B X T hL hI hlen d1 hc F N hret
  have hB : stmt 1 = stmt 1 := rfl
  conv at hB => rhs; whnf
  have hS : fnScope 7 = fnScope 7 := rfl
  conv at hS => rhs; whnf
  unfold lEnv at hret ⊢
  rw [hB, hS]
  rw [hS] at hret
  clear hB hS
  obtain ⟨ci, oc, nc, hcm, hcc, hcd', hcr⟩ := id hc
  have hsub : ∀ q ∈ ex, q ∈ cells L o1 o2 o3 o4 o5 ex := fun q hq => mem5 hq
  refine wpN_Assign_Name ?_
  rw [eval_ListComp]
  refine compN (use := none) rfl (by intro _; rfl) (by with_unfolding_all rfl) (by rfl) (by decide) ?_
  show wpN _ _ (eval _ _) _ _ _
  refine wpN_of ?_
  k_steps
  rename IntsAre _ (List.take _ _) => hI6
  rename Fr _ _ _ _ => F₁; rename News _ _ _ _ => N₁
  have hlen6 : (List.take 6 ns).length ≤ 6 := by rw [List.length_take]; omega
  generalize hns6 : List.take 6 ns = ns6 at hI6 hlen6
  obtain ⟨t0, ht0, e0, N₁'⟩ := newsHead2 N₁
  obtain ⟨ws, hws⟩ : ∃ ws, IntsAre ws ns6 ∧ t0.2 = W.listOf ws.toArray 0 := ⟨_, hI6, e0⟩
  have hIl : IsList' t0.2 ws.toArray := by rw [hws.2]; exact ⟨rfl, 0, rfl⟩
  rw [← ht0]
  have hsl : Heap.IsList _ t0.1 ws.toArray := ⟨t0.2, (N₁' (t0.1, t0.2) List.mem_cons_self).1, hIl.1, hIl.2⟩
  refine wpN_of (iter_list hsl F₁ N₁' fun I oI h₂ hI0 F₂ N₂ hne2 _ _ => ?_)
  have ht0L : @LT.lt Nat _ (L + 1 + 1 + 1 + 1 + 1) t0.1 := by rw [ht0]; omega
  have hsrc : ∀ tups : List (Addr × Obj), SrcAt h₀ t0.1 ws.toArray (t0 :: cells L o1 o2 o3 o4 o5 (tups ++ ex)) := fun tups => .inr ⟨t0.2, List.mem_cons_self, hIl.1, hIl.2⟩
  clear N₁ N₁' F₁
  refine blockN_list rfl hI0 F₂ N₂ (hsrc []) (Nat.ne_of_lt (hne2 _ List.mem_cons_self)) (fun p hp => Nat.ne_of_lt (hne2 p hp)) (by decide) rfl rfl
    (fun j ys nw _ => ∃ tups, nw = t0 :: cells L o1 o2 o3 o4 o5 (tups ++ ex) ∧ PairsIn tups ys ((ns6.take j).map prOf) ∧ ∀ p ∈ tups, @LT.lt Nat _ (L + 1 + 1 + 1 + 1 + 1) p.1)
    (fun j ys nw _ hJ => by obtain ⟨tups, e, _⟩ := hJ; rw [e]; exact hsrc tups) ⟨[], rfl, PairsIn.nil, fun _ h => nomatch h⟩ ?_ ?_
  · intro C D hIC hID hCD j v ys nw m₂ oI3 oC h₅ tk₅ hj hv hJ hC F₅ N₅ off₅
    obtain ⟨tups, rfl, hys, htl⟩ := hJ
    rw [List.size_toArray, hws.1.length] at hj
    rw [List.getElem?_toArray] at hv
    obtain ⟨tv, rfl⟩ := hws.1.int_at j v hv
    generalize hnn : ns6.getD j 0 = nn at hC
    obtain ⟨m3, hC', ha'⟩ : ∃ m3, NsObj oC m3 ∧ m3 (Str.ofString "number") = some (.int nn tv) := ⟨_, hC, if_pos rfl⟩
    clear hC F₂ N₂
    have hf0 := Int.fmod_nonneg_of_pos nn (by decide : (0 : Int) < 12)
    have hf1 := Int.fmod_lt_of_pos nn (by decide : (0 : Int) < 12)
    have hix : (nn.fmod 12).toNat < (pairsTo 4).length := by
      have : (pairsTo 4).length = 12 := by decide
      omega
    have hp : (pairsTo 4)[(nn.fmod 12).toNat]? = some (pairsTo 4)[(nn.fmod 12).toNat] := List.getElem?_eq_getElem hix
    have hpm : (pairsTo 4)[(nn.fmod 12).toNat] ∈ pairsTo 4 := List.getElem_mem hix
    have hpr : prOf nn = mm (pairsTo 4)[(nn.fmod 12).toNat] := by unfold prOf; rw [List.getD_eq_getElem?_getD, hp]; rfl
    generalize (pairsTo 4)[(nn.fmod 12).toNat] = pq at hp hpm hpr
    have hcv : ci[(nn.fmod 12).toNat]? = some (ci[(nn.fmod 12).toNat]'(by rw [hcr.1]; exact hix)) := List.getElem?_eq_getElem _
    generalize (ci[(nn.fmod 12).toNat]'(by rw [hcr.1]; exact hix)) = cv at hcv
    obtain ⟨ta, ot, t1, u1, nt, rfl, htm, htc, htd⟩ := hcr.2 _ _ _ hcv hp
    have up : ∀ q ∈ ex, q ∈ (I, oI3) :: (C, oC) :: (D, lst ys) :: (t0 :: cells L o1 o2 o3 o4 o5 (tups ++ ex)) := fun q hq => List.mem_cons_of_mem _ (List.mem_cons_of_mem _ (List.mem_cons_of_mem _ (List.mem_cons_of_mem _ (mem5 (List.mem_append_right _ hq)))))
    have hitem : ItemOK ((I, oI3) :: (C, oC) :: (D, lst ys) :: (t0 :: cells L o1 o2 o3 o4 o5 (tups ++ ex))) h₀ L pl (nn.fmod 12) (.ref ta) :=
      ⟨fun h N => ⟨ci, ⟨oc, (N _ (up _ hcm)).1, hcc, nc, hcd'⟩, hcv⟩, hf0, by omega⟩
    have htup : TupOK ((I, oI3) :: (C, oC) :: (D, lst ys) :: (t0 :: cells L o1 o2 o3 o4 o5 (tups ++ ex))) h₀ L ta pq.1 pq.2 t1 u1 :=
      fun h N => ⟨ot, (N _ (up _ htm)).1, htc, nt, by rw [htd]; simp [intItems]⟩
    have d1' := d1
    refine tests_nil ?_
    dsimp only [if_true]
    refine wpN_of ?_
    k_steps
    rename (_ ∧ _ ∧ _ ∧ _ ∧ _ ∧ _ ∧ _ ∧ _) => l9
    rename Fr _ _ _ _ => F₉; rename News _ _ _ _ => N₉
    obtain ⟨l1, l2, l3, l4, l5, -⟩ := l9
    have o5' := off₅.mem
    obtain ⟨tn, htn, etn, N₁₀⟩ := newsHead2 N₉
    rw [← htn] at l1 l2 l3 l5 ⊢
    have hyl : ys.length ≤ sizeLine := by rw [hys.1, List.length_map, List.length_take, sizeLine_eq]; omega
    refine ⟨_, _, ys, t0 :: cells L o1 o2 o3 o4 o5 ((tn :: tups) ++ ex), m3, oC, rfl, ⟨tn :: tups, rfl, ?_, fun p hp => ?_⟩, hC', F₉, (fun p hp => N₁₀ p ?_), Off3.of (fun p hp => ?_), hyl⟩
    · rw [List.take_add_one, List.getElem?_eq_getElem hj, Option.toList_some, List.map_append]
      have enn : ns6[j] = nn := by rw [← hnn, List.getD_eq_getElem?_getD, List.getElem?_eq_getElem hj]; rfl
      rw [enn]
      refine (hys.mono fun q hq => List.mem_cons_of_mem _ hq).append (PairsIn.one ?_)
      rw [hpr]
      refine ⟨tn.1, tn.2, (if (pq.2 : Int) < (pq.1 : Int) then u1 else t1), (if (pq.1 : Int) < (pq.2 : Int) then u1 else t1), 0, rfl, List.mem_cons_self, by rw [etn], ?_⟩
      rw [etn]
      simp only [mm]
      have e1 : (if (pq.2 : Int) < (pq.1 : Int) then (pq.2 : Int) else (pq.1 : Int)) = (((if pq.2 < pq.1 then pq.2 else pq.1) : Nat) : Int) := by split <;> split <;> first | rfl | omega
      have e2 : (if (pq.1 : Int) < (pq.2 : Int) then (pq.2 : Int) else (pq.1 : Int)) = (((if pq.1 < pq.2 then pq.2 else pq.1) : Nat) : Int) := by split <;> split <;> first | rfl | omega
      rw [e1, e2]
    · rcases List.mem_cons.mp hp with rfl | hp
      · exact l5
      · exact htl p hp
    · simp only [List.mem_cons, List.cons_append, List.mem_append] at hp ⊢
      rcases hp with hp | hp | hp | hp | hp | hp | hp | hp | hp | hp | hp | hp <;> simp [hp]
    · have hmem : p = tn ∨ p ∈ t0 :: cells L o1 o2 o3 o4 o5 (tups ++ ex) := by
        simp only [List.mem_cons, List.cons_append, List.mem_append] at hp ⊢
        rcases hp with hp | hp | hp | hp | hp | hp | hp | hp | hp <;> simp [hp]
      rcases hmem with rfl | hp
      · exact ⟨Nat.ne_of_gt l1, Nat.ne_of_gt l2, Nat.ne_of_gt l3⟩
      · exact o5' p hp
  · intro D C h₇ tk₇ m' ys nw m₂ F₇ N₇ off₇ hn7 hC₀7 hCL7 hCD7 offC7 hJ2
    obtain ⟨tups, rfl, hys, htl⟩ := hJ2
    refine end_plain F₇ N₇ hn7 hC₀7 hCL7 hCD7 offC7 fun h₈ F₈ N₈ => ?_
    rw [List.size_toArray, hws.1.length, List.take_length] at hys
    have of := off1_ne off₇
    refine hret D (lst ys) (t0 :: tups) h₈ _ F₈ (fun p hp => N₈ p ?_) (fun p hp => ?_) ⟨ys, lst ys, ys.length, List.mem_cons_self, rfl, rfl, ?_⟩
    · simp only [List.mem_cons, List.cons_append, List.mem_append] at hp ⊢
      rcases hp with hp | hp | hp | hp | hp | hp | hp | hp | hp <;> simp [hp]
    · rcases List.mem_cons.mp hp with rfl | hp
      · refine ⟨Ne.symm (of (L + 1, o1) ?_), Ne.symm (of (L + 1 + 1, o2) ?_), Ne.symm (of (L + 1 + 1 + 1, o3) ?_), Ne.symm (of (L + 1 + 1 + 1 + 1, o4) ?_), Ne.symm (of (L + 1 + 1 + 1 + 1 + 1, o5) ?_)⟩ <;> simp
      · have hl : @LT.lt Nat _ (L + 1 + 1 + 1 + 1 + 1) p.1 := by
          rcases List.mem_cons.mp hp with rfl | hp
          · exact ht0L
          · exact htl p hp
        exact away_all (l := [p]) (fun q hq => by rw [List.mem_singleton.mp hq]; exact hl) p List.mem_cons_self
    · rw [hns6]
      exact hys.mono fun q hq => List.mem_cons_of_mem _ (List.mem_append_left _ (List.mem_cons_of_mem _ hq))
end Mine
end

section
open PySem PySem.W PySem.Calls PyProof.Rows PyProof.Rows.LCg
set_option maxRecDepth 100000
namespace Mine
section
variable {prog : Program} {w : World} {A : Around} {E : Value → Shared → Prop} {s : Shared} {h₀ : Heap} {L : Addr} {m : Str → Option Value} {news : List (Addr × Obj)} {env : Env}
abbrev bit0 (b : Array UInt8) (t : Tok) : Obj := { cls := .type "bytes_iterator", data := .fields #[.bytes b t, .int 0 0] }
theorem iter_bytes {b : Array UInt8} {t : Tok} {Q : Value → Shared → Prop} (F : Fr h₀ L s.heap m) (N : News h₀ L s.heap news)
    (hQ : ∀ I h', Fr h₀ L h' m → News h₀ L h' ((I, bit0 b t) :: news) → (∀ p ∈ news, p.1 < I) → Q (.ref I) { s with heap := h' }) : wpAny (model prog w) A (pyIter (.bytes b t)) Q E s :=
  KBw.pyIter_bytes (hQ _ _ (F.push _) (N.push F _) fun p hp => Heap.lt_size (N p hp).1)
theorem bytes_st {I : Addr} {b : Array UInt8} {t : Tok} : ∀ i (h h' : Heap) (o : Obj) (nw : List (Addr × Obj)), KBw.IsBytesIter h I b t i → h.get? I = some o → h'.get? I = some o → (∀ b o, h₀.get? b = some o → h'.get? b = some o) → News h₀ L h' nw → True → KBw.IsBytesIter h' I b t i :=
  fun i h h' o nw st e e' _ _ _ => by
    obtain ⟨o', q, r⟩ := st
    rw [e] at q; cases q
    exact ⟨o, e', r⟩
theorem blockN_bytes {elt iter : Expr} {x : Str} {px : Pos} {ifs : List Expr} {scope : Scope} {cl : List (Str × Addr)} {pos : Pos} {I : Addr} {b : Array UInt8} {t : Tok} {use : Option (Value → Sem Unit)} {Q : Value → Shared → Prop}
    (hh : A.handled = none) (F : Fr h₀ L s.heap m) (N : News h₀ L s.heap ((I, bit0 b t) :: news)) (off : ∀ p ∈ news, p.1 ≠ I)
    (hcell : ∀ y ∈ scope.names, y.2 ≠ .cell) (hkind : scope.kind = .function) (hx : scope.names.lookup x = some .local)
    (J : Nat → List Value → List (Addr × Obj) → (Str → Option Value) → Prop) (hJ0 : J 0 [] news (fun _ => none))
    (turn : ∀ C D, I ≠ C → I ≠ D → C ≠ D → ∀ i v ys nw m₂ oI oC h tk, i < b.size → (∃ c u, b[i]? = some c ∧ v = .int (c.toNat : Int) u) → J i ys nw m₂ → NsObj oC (fun y => if y = x then some v else m₂ y) → Fr h₀ L h m → News h₀ L h ((I, oI) :: (C, oC) :: (D, lst ys) :: nw) → Off3 I C D nw →
      wpN (model prog w) A (tests ifs (compEnvC scope cl C env)) (fun ok s₄ => if ok = true then wpN (model prog w) A (eval elt (compEnvC scope cl C env)) (TEy h₀ L m s I C D J (i + 1) oI) noE s₄ else TE h₀ L m s I C D J (i + 1) oI s₄) noE { s with heap := h, toks := tk })
    (hEnd : ∀ D C h tk m' ys nw m₂, Fr h₀ L h m → News h₀ L h ((D, lst ys) :: nw) → Off1 D nw → h.Ns C m' → h₀.get? C = none → C ≠ L → C ≠ D → (∀ p ∈ nw, p.1 ≠ C) → J b.size ys nw m₂ → endN (model prog w) A E use Q (.ref D) C (.ok .next) { s with heap := h, toks := tk }) :
    wpAny (model prog w) A (newList []) (fun acc s₃ => wpAny (model prog w) A (newFunctionEnv scope env.globals cl [] env.qual none .none (some env)) (fun cenv s₄ =>
      codeN (model prog w) A (.compStart (.ListComp elt [⟨.Name x px, iter, ifs, 0⟩] scope pos) 0 (.ref I) acc { cenv with scope := relabel scope env }) (endN (model prog w) A E use Q acc cenv.locals) s₄) E s₃) E s := by
  have zI := N _ List.mem_cons_self
  exact blockN_name (KBw.walks (prog := prog) (w := w) (A := A) hh I b t) (fun i h st => by obtain ⟨o, e, _⟩ := st; exact ⟨o, e⟩) bytes_st hcell hkind hx ⟨_, zI.1, rfl, rfl⟩ (fun b hb => by rw [List.mem_singleton.mp hb]; exact Heap.lt_size zI.1) F
    (fun p hp => N p (List.mem_cons_of_mem _ hp)) (Ne.symm zI.2.1) zI.2.2 off J (fun _ _ _ _ _ => trivial) hJ0 turn hEnd
/-- the ledger holds a list -/
def ListOK (NW : List (Addr × Obj)) (h₀ : Heap) (L a : Addr) (its : List Value) : Prop := (∀ h, News h₀ L h NW → h.IsList a its.toArray) ∧ its.length ≤ 1000
theorem slice_ok {ops : List Value} {value slice : Expr} {a : Addr} {its : List Value} {k : Tok} {Q : Value → Shared → Prop} (T : ListOK news h₀ L a its) (F : Fr h₀ L s.heap m) (N : News h₀ L s.heap news)
    (h : ∀ D h', Fr h₀ L h' m → News h₀ L h' ((D, { cls := .type "list", data := .seq (slicePick its.toArray none none (some 3)) }) :: news) → (∀ p ∈ news, p.1 < D) → Q (.ref D) { s with heap := h' })
    (hs : subscripted slice false (.ref a) (.ref s.heap.objs.size) = operate ops (getItem (.ref a) (.ref s.heap.objs.size)) := by with_unfolding_all rfl)
    (ht : ∀ r, letTemporaryGo value (.ref a) r = pure () := by intro _; with_unfolding_all rfl) :
    wpAny (model prog w) A (subscriptTail value slice (.ref a) (.ref s.heap.objs.size)) Q E { s with heap := s.heap.push { cls := .type "slice", data := .fields #[.none, .none, .int 3 k] } } := by
  refine slice_list3 F N (T.1 _ N) .none .none (.int 3 k) (by decide) (fun h' F' N' => h _ h' F' N' fun p hp => Nat.lt_succ_of_lt (Heap.lt_size (N p hp).1)) hs ht ?_
  rw [List.size_toArray, sizeLine_eq]; have := T.2; omega
theorem pick_mem {its : List Value} {lo hi st : Option Int} {i : Nat} {v : Value} (h : (slicePick its.toArray lo hi st)[i]? = some v) : v ∈ its := by
  have h1 := Array.mem_of_getElem? h
  unfold slicePick at h1
  simp only [List.mem_toArray, List.mem_filterMap] at h1
  obtain ⟨j, _, hj⟩ := h1
  rw [List.getElem?_toArray] at hj
  exact List.mem_of_getElem? hj
end
end Mine
end

section
open PySem PySem.W PySem.Calls PyProof.Rows PyProof.Rows.LCg
namespace Mine
def outerBody : List Stmt := match stmt 10 with
  | .For _ _ b _ _ => b
  | _ => []
def tbit (bd : Int) (c : UInt8) : Int := if (c.toNat : Int) > bd then 1 else 0
def tints (bd : Int) (r : List UInt8) : List Int := r.map (tbit bd)
def thr (bd : Int) (r : List UInt8) : List UInt8 := (tints bd r).map fun n => n.toNat.toUInt8
theorem tints_in (bd : Int) (r : List UInt8) : KBa.In (tints bd r) := by
  intro n hn
  obtain ⟨c, _, rfl⟩ := List.mem_map.mp hn
  unfold tbit
  split <;> omega
theorem thr_length (bd : Int) (r : List UInt8) : (thr bd r).length = r.length := by unfold thr tints; rw [List.length_map, List.length_map]
theorem tturn {ys : List Value} {r : List UInt8} {bd : Int} {j : Nat} {c : UInt8} {t : Tok} {x : Int} (h : IntsAre ys ((r.take j).map (tbit bd))) (hc : r[j]? = some c) (hx : x = tbit bd c) : IntsAre (ys ++ [.int x t]) ((r.take (j + 1)).map (tbit bd)) := by
  subst hx
  rw [List.take_add_one, hc, Option.toList_some, List.map_append]
  exact h.append (.cons _ t .nil)
set_option maxRecDepth 100000 in
set_option maxHeartbeats 8000000 in
theorem s10_inner : ∀ (w : World) (mean : ExcName → Option Value) (mg mb : Str → Option Value) (h₀ : Heap) (L fa : Addr) (cd : Value) (s : Shared) (ex : List (Addr × Obj)) (p1 p2 p3 : Addr × Obj) (o1 o2 o3 o4 o5 : Obj) (a b or wr dr cut : Option Value) (c : Addr) (row : List UInt8) (tr tt tb : Tok) (bd : Int) (ps : List (Nat × Nat)) (Q : Flow → Shared → Prop)
    (_ : Below callerA h₀ [] h₀) (_ : (Mine.hd.heap_39 w.params).In h₀) (_ : Top Mine.hd.view_39 (looseW Mine.hd.view_39 []) mean mg mb h₀)
    (_ : Fr h₀ L s.heap (lMap a b or wr dr (some (.bytes row.toArray tr)) (some (.bytes (net ps row).toArray tt)) cut)) (_ : News h₀ L s.heap (p1 :: p2 :: p3 :: cells L o1 o2 o3 o4 o5 ex)) (_ : o2.data = .cell (some (.ref c))) (_ : o4.data = .cell (some (.int bd tb)))
    (_ : CmpIn ex c ps) (_ : ∀ p ∈ ps, GoodPair p) (_ : row.length = 4) (_ : net ps (thr bd row) = thr bd (net ps row))
    (_ : ∀ cut' h' tk', Fr h₀ L h' (lMap a b or wr dr (some (.bytes row.toArray tr)) (some (.bytes (net ps row).toArray tt)) cut') → News h₀ L h' (p1 :: p2 :: p3 :: cells L o1 o2 o3 o4 o5 ex) → Q .next { s with heap := h', toks := tk' }),
    wpN (model PySem.Challenge.rw_zw0001_01.prog w) (callerA.deeper (lEnv L fa cd)) (execs (forBody outerBody 1) (lEnv L fa cd)) Q noE s := by
  k_fill
  intro w mean mg mb h₀ L fa cd s ex p1 p2 p3 o1 o2 o3 o4 o5 a b or wr dr cut c row tr tt tb bd ps Q B X T F N d2 d4 hc hgood hr4 hlaw hret
  have hB : forBody outerBody 1 = forBody outerBody 1 := rfl
  conv at hB => rhs; whnf
  have hS : fnScope 7 = fnScope 7 := rfl
  conv at hS => rhs; whnf
  unfold lEnv
  rw [hB, hS]
  clear hB hS
  obtain ⟨ci, oc, nc, hcm, hcc, hcd', hcr⟩ := id hc
  have hsub : ∀ q ∈ ex, q ∈ p1 :: p2 :: p3 :: cells L o1 o2 o3 o4 o5 ex := fun q hq => List.mem_cons_of_mem _ (List.mem_cons_of_mem _ (List.mem_cons_of_mem _ (mem5 hq)))
  refine wpN_execs_cons (wpN_Assign_Name (wpN_Call_type (T := "bytes") ?_ ?_))
  · intro Q' hQ'
    k_steps
    exact hQ'
  · refine wpN_spliced_cons ?_
    show wpN _ _ (eval _ _) _ _ _
    rw [eval_ListComp]
    refine compN (use := none) rfl (by intro _; rfl) (by with_unfolding_all rfl) (by rfl) (by decide) ?_
    show wpN _ _ (eval _ _) _ _ _
    refine wpN_of ?_
    k_steps
    rename Fr _ _ _ _ => F₁; rename News _ _ _ _ => N₁
    refine wpN_of (iter_bytes F₁ N₁ fun I h₂ F₂ N₂ hI => ?_)
    refine blockN_bytes rfl F₂ N₂ (fun p hp => Nat.ne_of_lt (hI p hp)) (by decide) rfl rfl
      (fun j ys nw _ => nw = p1 :: p2 :: p3 :: cells L o1 o2 o3 o4 o5 ex ∧ IntsAre ys ((row.take j).map (tbit bd))) ⟨rfl, .nil⟩ ?_ ?_
    · intro C D hIC hID hCD j v ys nw m₂ oI3 oC h₅ tk₅ hj hv hJ hC F₅ N₅ off₅
      obtain ⟨rfl, hys⟩ := hJ
      obtain ⟨oct, tu, hoc, rfl⟩ := hv
      rw [List.getElem?_toArray] at hoc
      rw [List.size_toArray] at hj
      obtain ⟨m3, hC', ha'⟩ : ∃ m3, NsObj oC m3 ∧ m3 (Str.ofString "octet") = some (.int (oct.toNat : Int) tu) := ⟨_, hC, if_pos rfl⟩
      clear hC F₂ N₂ F₁ N₁
      have hyl : ys.length ≤ sizeLine := by rw [hys.length, List.length_map, List.length_take, sizeLine_eq]; omega
      refine tests_nil ?_
      dsimp only [if_true]
      refine wpN_of ?_
      k_steps
      rename Fr _ _ _ _ => F₆; rename News _ _ _ _ => N₆
      exact ⟨_, _, ys, _, m3, oC, rfl, ⟨rfl, tturn hys hoc (by simp [tbit])⟩, hC', F₆, N₆, off₅, hyl⟩
    · intro D C h₇ tk₇ m' ys nw m₂ F₇ N₇ off₇ hn7 hC₀7 hCL7 hCD7 offC7 hJ2
      obtain ⟨rfl, hy2⟩ := hJ2
      refine end_plain F₇ N₇ hn7 hC₀7 hCL7 hCD7 offC7 fun h₈ F₈ N₈ => ?_
      rw [List.size_toArray, List.take_length] at hy2
      refine wpN_spliced_nil ?_
      refine wpN_of (KBa.make_K F₈ N₈ rfl ⟨_, (N₈ _ List.mem_cons_self).1, rfl, _, rfl⟩ hy2 (tints_in bd row) (by rw [List.length_map]; omega) fun h₉ t₉ k₉ F₉ N₉ _ => ?_)
      have N₁₀ : News h₀ L h₉ (p1 :: p2 :: p3 :: cells L o1 o2 o3 o4 o5 ex) := fun p hp => N₉ p (List.mem_cons_of_mem _ hp)
      clear N₈ N₉ F₈ N₇ F₇
      have ebytes : byteArr ((row).map (tbit bd)) = (thr bd (row)).toArray := rfl
      rw [ebytes]
      k_steps
      dsimp only
      rename Fr _ _ _ _ => F₁₁; rename News _ _ _ _ => N₁₁
      have F₁₂ := Fr.eqv F₁₁ fun y => lset_cut y
      clear F₁₁
      refine wpN_execs_cons (wpN_If (wpN_isTrue_Compare1 (wpN_Call_def (K := Mine.hd.heap_39 w.params) (fv := .ref 56) (by k_is) ?_ ?_)))
      · intro Q' hQ'
        k_steps
        exact hQ'
      · refine wpN_of ?_
        k_steps
        rename Fr _ _ _ _ => F₁₃; rename News _ _ _ _ => N₁₃
        refine sortedN w mean mg mb _ L h₀ _ ⟨_, _, _, _, _⟩ c ci ps (thr bd row) t₉ _ _ rfl rfl B F₁₃ X T ⟨oc, (N₁₃ _ (hsub _ hcm)).1, hcc, nc, hcd'⟩ (hcr.at fun p hp => N₁₃ p (hsub p hp)) hgood (by rw [thr_length]; exact hr4) ?_
        intro t₁₄ h₁₄ k₁₄ hG
        have F₁₄ := F₁₃.keeps hG
        have N₁₄ := N₁₃.grown hG
        clear F₁₃ N₁₃
        have hnl := net_length ps row
        refine wpN_Call_type (T := "bytes") ?_ ?_
        · intro Q' hQ'
          k_steps
          exact hQ'
        · refine wpN_spliced_cons ?_
          show wpN _ _ (eval _ _) _ _ _
          rw [eval_ListComp]
          refine compN (use := none) rfl (by intro _; rfl) (by with_unfolding_all rfl) (by rfl) (by decide) ?_
          show wpN _ _ (eval _ _) _ _ _
          refine wpN_of ?_
          k_steps
          rename Fr _ _ _ _ => F₁; rename News _ _ _ _ => N₁
          refine wpN_of (iter_bytes F₁ N₁ fun I h₂ F₂ N₂ hI => ?_)
          refine blockN_bytes rfl F₂ N₂ (fun p hp => Nat.ne_of_lt (hI p hp)) (by decide) rfl rfl
            (fun j ys nw _ => nw = p1 :: p2 :: p3 :: cells L o1 o2 o3 o4 o5 ex ∧ IntsAre ys (((net ps row).take j).map (tbit bd))) ⟨rfl, .nil⟩ ?_ ?_
          · intro C D hIC hID hCD j v ys nw m₂ oI3 oC h₅ tk₅ hj hv hJ hC F₅ N₅ off₅
            obtain ⟨rfl, hys⟩ := hJ
            obtain ⟨oct, tu, hoc, rfl⟩ := hv
            rw [List.getElem?_toArray] at hoc
            rw [List.size_toArray] at hj
            obtain ⟨m3, hC', ha'⟩ : ∃ m3, NsObj oC m3 ∧ m3 (Str.ofString "octet") = some (.int (oct.toNat : Int) tu) := ⟨_, hC, if_pos rfl⟩
            clear hC F₂ N₂ F₁ N₁
            have hyl : ys.length ≤ sizeLine := by rw [hys.length, List.length_map, List.length_take, sizeLine_eq]; omega
            refine tests_nil ?_
            dsimp only [if_true]
            refine wpN_of ?_
            k_steps
            rename Fr _ _ _ _ => F₆; rename News _ _ _ _ => N₆
            exact ⟨_, _, ys, _, m3, oC, rfl, ⟨rfl, tturn hys hoc (by simp [tbit])⟩, hC', F₆, N₆, off₅, hyl⟩
          · intro D C h₇ tk₇ m' ys nw m₂ F₇ N₇ off₇ hn7 hC₀7 hCL7 hCD7 offC7 hJ2
            obtain ⟨rfl, hy2⟩ := hJ2
            refine end_plain F₇ N₇ hn7 hC₀7 hCL7 hCD7 offC7 fun h₈ F₈ N₈ => ?_
            rw [List.size_toArray, List.take_length] at hy2
            refine wpN_spliced_nil ?_
            refine wpN_of (KBa.make_K F₈ N₈ rfl ⟨_, (N₈ _ List.mem_cons_self).1, rfl, _, rfl⟩ hy2 (tints_in bd (net ps row)) (by rw [List.length_map]; omega) fun h₉ t₉ k₉ F₉ N₉ _ => ?_)
            have N₁₀ : News h₀ L h₉ (p1 :: p2 :: p3 :: cells L o1 o2 o3 o4 o5 ex) := fun p hp => N₉ p (List.mem_cons_of_mem _ hp)
            clear N₈ N₉ F₈ N₇ F₇
            have ebytes : byteArr ((net ps row).map (tbit bd)) = (thr bd (net ps row)).toArray := rfl
            rw [ebytes]
            rw [hlaw]
            refine wpN_of ?_
            k_steps
            rw [bne_self_eq_false]
            refine wpN_of (wpAny_truthy_bool ?_)
            simp only [Bool.false_eq_true, if_false]
            refine wpN_of ?_
            k_steps
            dsimp only
            refine wpN_of ?_
            k_steps
            rename Fr _ _ _ _ => F₂₀; rename News _ _ _ _ => N₂₀
            exact hret _ _ _ F₂₀ N₂₀
end Mine
end

section
open PySem PySem.W PySem.Calls PyProof.Rows PyProof.Rows.LCg
namespace Mine
section
variable {M : Model} {A : Around} {E : Value → Shared → Prop} {s : Shared} {h₀ : Heap} {L fa : Addr} {cd : Value} {m : Str → Option Value} {x : Str} {c : Addr} {v : Value} {v₀ : Option Value} {o : Obj} {pre post : List (Addr × Obj)} {Q : Unit → Shared → Prop}
theorem store_cell (hk : (lEnv L fa cd).kindOf x = some NameKind.cell) (hc : (lEnv L fa cd).cells.lookup x = some c) (F : Fr h₀ L s.heap m) (N : News h₀ L s.heap (pre ++ (c, o) :: post)) (hd : o.data = .cell v₀)
    (hpre : ∀ p ∈ pre, p.1 ≠ c) (hpost : ∀ p ∈ post, p.1 ≠ c) (h : ∀ h' o', o'.data = .cell (some v) → Fr h₀ L h' m → News h₀ L h' (pre ++ (c, o') :: post) → Q () { s with heap := h' }) :
    wpAny M A (storeName (lEnv L fa cd) x v) Q E s := by
  have z := N (c, o) (List.mem_append_right _ List.mem_cons_self)
  refine wpAny_storeName_cell (c := c) rfl hk hc ⟨o, z.1, hd⟩ fun h' hcell hs => ?_
  obtain ⟨o', e', hd'⟩ := hcell
  exact h h' o' hd' (F.change hs z.2.1 z.2.2) (News.mid N hs e' hpre hpost)
end
theorem ne5 (L : Nat) : L + 1 ≠ L + 1 + 1 + 1 + 1 ∧ L + 1 + 1 ≠ L + 1 + 1 + 1 + 1 ∧ L + 1 + 1 + 1 ≠ L + 1 + 1 + 1 + 1 ∧ L + 1 + 1 + 1 + 1 + 1 ≠ L + 1 + 1 + 1 + 1 := by omega
set_option maxRecDepth 100000 in
set_option maxHeartbeats 8000000 in
theorem bound_loop (w : World) (mean : ExcName → Option Value) (mg mb : Str → Option Value) (h₀ : Heap) (L fa : Addr) (cd : Value) (ex : List (Addr × Obj)) (p2 p3 : Addr × Obj) (I : Addr) (o1 o2 o3 o5 : Obj) (a b or wr dr : Option Value) (c : Addr) (row : List UInt8) (tr tt : Tok) (ps : List (Nat × Nat)) (R : Result → Shared → Prop)
    (B : Below callerA h₀ [] h₀) (X : (Mine.hd.heap_39 w.params).In h₀) (T : Top Mine.hd.view_39 (looseW Mine.hd.view_39 []) mean mg mb h₀)
    (d2 : o2.data = .cell (some (.ref c))) (hc : CmpIn ex c ps) (hgood : ∀ p ∈ ps, GoodPair p) (hr4 : row.length = 4) (hlaw : ∀ bd, net ps (thr bd row) = thr bd (net ps row))
    (hex : Away L ex) (hp2 : p2.1 ≠ L + 1 + 1 + 1 + 1) (hp3 : p3.1 ≠ L + 1 + 1 + 1 + 1) (hI : @LT.lt Nat _ (L + 1 + 1 + 1 + 1 + 1) I) (hne : ∀ p ∈ p2 :: p3 :: cells L o1 o2 o3 o1 o5 ex, p.1 ≠ I) (k : Nat) :
    ∀ (i : Int) (s : Shared) (cut : Option Value) (o4 : Obj) (v4 : Option Value) (_ : o4.data = .cell v4) (_ : Fr h₀ L s.heap (lMap a b or wr dr (some (.bytes row.toArray tr)) (some (.bytes (net ps row).toArray tt)) cut)) (_ : News h₀ L s.heap ((I, rit i (k : Int) 1) :: p2 :: p3 :: cells L o1 o2 o3 o4 o5 ex))
    (_ : ∀ cut' o4' v4' h' tk', o4'.data = .cell v4' → Fr h₀ L h' (lMap a b or wr dr (some (.bytes row.toArray tr)) (some (.bytes (net ps row).toArray tt)) cut') → News h₀ L h' (p2 :: p3 :: cells L o1 o2 o3 o4' o5 ex) → R (.ok .next) { s with heap := h', toks := tk' }),
    codeN (model PySem.Challenge.rw_zw0001_01.prog w) (callerA.deeper (lEnv L fa cd)) (.forLoop (forTarget outerBody 1) (.ref I) (forBody outerBody 1) [] (lEnv L fa cd)) R s := by
  have hT : forTarget outerBody 1 = forTarget outerBody 1 := rfl
  conv at hT => rhs; whnf
  have hne' : ∀ o4 : Obj, ∀ p ∈ p2 :: p3 :: cells L o1 o2 o3 o4 o5 ex, p.1 ≠ I := by
    intro o4 p hp
    simp only [List.mem_cons] at hp
    rcases hp with rfl | rfl | rfl | rfl | rfl | rfl | rfl | hp
    · exact hne _ List.mem_cons_self
    · exact hne _ (List.mem_cons_of_mem _ List.mem_cons_self)
    · exact hne (L + 1 + 1 + 1 + 1 + 1, o5) (by simp)
    · exact hne (L + 1 + 1 + 1 + 1, o1) (by simp)
    · exact hne (L + 1 + 1 + 1, o3) (by simp)
    · exact hne (L + 1 + 1, o2) (by simp)
    · exact hne (L + 1, o1) (by simp)
    · exact hne p (by simp [hp])
  induction k with
  | zero =>
    intro i s cut o4 v4 d4 F N hret
    refine codeN_for_step (wpN_of (next_range_end rfl F N (hne' o4) (by decide) fun h' F' N' => ?_))
    exact hret cut o4 v4 h' _ d4 F' N'
  | succ k ih =>
    intro i s cut o4 v4 d4 F N hret
    refine codeN_for_step (wpN_of (next_range_item F N (hne' o4) (by omega) fun h' F' N' => ?_))
    dsimp only
    refine wpN_of (wpAny_of_eq (a := ()) (by rw [hT]; rfl) ?_)
    rw [hT]
    have hl5 := ne5 L
    refine wpN_of (wpAny_assign_Name (store_cell (c := L + 1 + 1 + 1 + 1) (pre := [(I, rit (i + 1) (((k + 1 : Nat) : Int) - 1) 1), p2, p3, (L + 1 + 1 + 1 + 1 + 1, o5)]) (by rfl) (by rfl) F' N' d4 ?_ ?_ fun h₂ o4' d4' F₂ N₂ => ?_))
    · intro p hp
      simp only [List.mem_cons, List.not_mem_nil, or_false] at hp
      rcases hp with rfl | rfl | rfl | rfl
      · show @Ne Nat I (L + 1 + 1 + 1 + 1); omega
      · exact hp2
      · exact hp3
      · exact hl5.2.2.2
    · intro p hp
      simp only [List.mem_cons] at hp
      rcases hp with rfl | rfl | rfl | hp
      · exact hl5.2.2.1
      · exact hl5.2.1
      · exact hl5.1
      · exact (hex p hp).2.2.2.1
    · rw [show (((k + 1 : Nat) : Int) - 1) = (k : Int) by omega] at N₂
      refine s10_inner w mean mg mb h₀ L fa cd ⟨_, _, _, _, _⟩ ex (I, rit (i + 1) (k : Int) 1) p2 p3 o1 o2 o3 o4' o5 a b or wr dr cut c row tr tt _ i ps _ B X T F₂ N₂ d2 d4' hc hgood hr4 (hlaw i) ?_
      intro cut' h₃ k₃ F₃ N₃
      dsimp only
      rw [← hT]
      exact ih (i + 1) _ cut' o4' _ d4' F₃ N₃ hret
end Mine
end

section
open PySem PySem.W PySem.Calls PyProof.Rows PyProof.Rows.LCg
namespace Mine
set_option maxRecDepth 100000 in
set_option maxHeartbeats 8000000 in
theorem rows_turn : ∀ (w : World) (mean : ExcName → Option Value) (mg mb : Str → Option Value) (h₀ : Heap) (L fa : Addr) (cd : Value) (ex : List (Addr × Obj)) (p2 p3 : Addr × Obj) (o1 o2 o3 o4 o5 : Obj) (v4 a b or wr dr told cut : Option Value) (c : Addr) (row : List UInt8) (tr : Tok) (ps : List (Nat × Nat)) (s : Shared) (Q : Flow → Shared → Prop)
    (_ : Below callerA h₀ [] h₀) (_ : (Mine.hd.heap_39 w.params).In h₀) (_ : Top Mine.hd.view_39 (looseW Mine.hd.view_39 []) mean mg mb h₀)
    (_ : o2.data = .cell (some (.ref c))) (_ : o4.data = .cell v4) (_ : CmpIn ex c ps) (_ : ∀ p ∈ ps, GoodPair p) (_ : row.length = 4) (_ : ∀ bd, net ps (thr bd row) = thr bd (net ps row))
    (_ : Away L ex) (_ : p2.1 ≠ L + 1 + 1 + 1 + 1) (_ : p3.1 ≠ L + 1 + 1 + 1 + 1)
    (_ : Fr h₀ L s.heap (lMap a b or wr dr (some (.bytes row.toArray tr)) told cut)) (_ : News h₀ L s.heap (p2 :: p3 :: cells L o1 o2 o3 o4 o5 ex))
    (_ : ∀ told' cut' o4' v4' h' tk', o4'.data = .cell v4' → Fr h₀ L h' (lMap a b or wr dr (some (.bytes row.toArray tr)) told' cut') → News h₀ L h' (p2 :: p3 :: cells L o1 o2 o3 o4' o5 ex) → Q .next { s with heap := h', toks := tk' }),
    wpN (model PySem.Challenge.rw_zw0001_01.prog w) (callerA.deeper (lEnv L fa cd)) (execs outerBody (lEnv L fa cd)) Q noE s := by
  k_fill
  intro w mean mg mb h₀ L fa cd ex p2 p3 o1 o2 o3 o4 o5 v4 a b or wr dr told cut c row tr ps s Q B X T d2 d4 hc hgood hr4 hlaw hex hp2 hp3 F N hret
  have hB : outerBody = outerBody := rfl
  conv at hB => rhs; whnf
  have hS : fnScope 7 = fnScope 7 := rfl
  conv at hS => rhs; whnf
  have hT : forTarget outerBody 1 = forTarget outerBody 1 := rfl
  conv at hT => rhs; whnf
  have hI : forBody outerBody 1 = forBody outerBody 1 := rfl
  conv at hI => rhs; whnf
  unfold lEnv
  rw [hB, hS]
  obtain ⟨ci, oc, nc, hcm, hcc, hcd', hcr⟩ := id hc
  have hsub : ∀ q ∈ ex, q ∈ p2 :: p3 :: cells L o1 o2 o3 o4 o5 ex := fun q hq => List.mem_cons_of_mem _ (List.mem_cons_of_mem _ (mem5 hq))
  refine wpN_execs_cons (wpN_Assign_Name (wpN_Call_def (K := Mine.hd.heap_39 w.params) (fv := .ref 56) (by k_is) ?_ ?_))
  · intro Q' hQ'
    k_steps
    exact hQ'
  · refine wpN_of ?_
    k_steps
    rename Fr _ _ _ _ => F₁₃; rename News _ _ _ _ => N₁₃
    refine sortedN w mean mg mb _ L h₀ _ ⟨_, _, _, _, _⟩ c ci ps row tr _ _ rfl rfl B F₁₃ X T ⟨oc, (N₁₃ _ (hsub _ hcm)).1, hcc, nc, hcd'⟩ (hcr.at fun p hp => N₁₃ p (hsub p hp)) hgood hr4 ?_
    intro t₁₄ h₁₄ k₁₄ hG
    have F₁₄ := F₁₃.keeps hG
    have N₁₄ := N₁₃.grown hG
    clear F₁₃ N₁₃
    k_steps
    dsimp only
    rename Fr _ _ _ _ => F₁₅; rename News _ _ _ _ => N₁₅
    have F₁₆ := Fr.eqv F₁₅ fun y => lset_told y
    clear F₁₅
    refine wpN_execs_cons (wpN_For (wpN_of ?_))
    k_steps
    rename IsRange _ _ _ _ _ _ _ _ => hr
    rename Fr _ _ _ _ => F₁₇; rename News _ _ _ _ => N₁₇
    refine wpN_of (iter_range hr (by decide) F₁₇ N₁₇ fun I h₂ F₂ N₂ hIlt => ?_)
    have N₂' : News h₀ L h₂ ((I, rit 1 ((3 : Nat) : Int) 1) :: p2 :: p3 :: cells L o1 o2 o3 o4 o5 ex) := N₂
    rw [← hS, ← hT, ← hI]
    refine bound_loop w mean mg mb h₀ L fa cd ex p2 p3 I o1 o2 o3 o5 a b or wr dr c row tr t₁₄ ps _ B X T d2 hc hgood hr4 hlaw hex hp2 hp3 (hIlt (L + 1 + 1 + 1 + 1 + 1, o5) (by simp)) ?_ 3 1 ⟨_, _, _, _, _⟩ cut o4 v4 d4 F₂ N₂' ?_
    · intro p hp
      simp only [List.mem_cons] at hp
      rcases hp with rfl | rfl | rfl | rfl | rfl | rfl | rfl | hp
      · exact Nat.ne_of_lt (hIlt _ List.mem_cons_self)
      · exact Nat.ne_of_lt (hIlt _ (List.mem_cons_of_mem _ List.mem_cons_self))
      · exact Nat.ne_of_lt (hIlt (L + 1 + 1 + 1 + 1 + 1, o5) (by simp))
      · exact Nat.ne_of_lt (hIlt (L + 1 + 1 + 1 + 1, o4) (by simp))
      · exact Nat.ne_of_lt (hIlt (L + 1 + 1 + 1, o3) (by simp))
      · exact Nat.ne_of_lt (hIlt (L + 1 + 1, o2) (by simp))
      · exact Nat.ne_of_lt (hIlt (L + 1, o1) (by simp))
      · exact Nat.ne_of_lt (hIlt p (by simp [hp]))
    · intro cut' o4' v4' h₃ k₃ d4' F₃ N₃
      dsimp only
      rw [hS]
      refine wpN_of ?_
      k_steps
      exact hret _ _ _ v4' _ _ d4' F₃ N₃
set_option maxRecDepth 100000 in
set_option maxHeartbeats 8000000 in
theorem rows_loop (w : World) (mean : ExcName → Option Value) (mg mb : Str → Option Value) (h₀ : Heap) (L fa : Addr) (cd : Value) (ex : List (Addr × Obj)) (p3 : Addr × Obj) (I : Addr) (o1 o2 o3 o5 : Obj) (a b or wr dr : Option Value) (c : Addr) (its : Array Value) (ps : List (Nat × Nat)) (R : Result → Shared → Prop)
    (B : Below callerA h₀ [] h₀) (X : (Mine.hd.heap_39 w.params).In h₀) (T : Top Mine.hd.view_39 (looseW Mine.hd.view_39 []) mean mg mb h₀)
    (d2 : o2.data = .cell (some (.ref c))) (hc : CmpIn ex c ps) (hgood : ∀ p ∈ ps, GoodPair p) (hlaw : ∀ bd row, row.length = 4 → net ps (thr bd row) = thr bd (net ps row))
    (hex : Away L ex) (hp3 : p3.1 ≠ L + 1 + 1 + 1 + 1) (hIL : I ≠ L + 1 + 1 + 1 + 1) (hl3 : IsList' p3.2 its) (hits : ∀ (i : Nat) (v : Value), its[i]? = some v → ∃ row t, v = .bytes (List.toArray row) t ∧ row.length = 4) (hne : ∀ p ∈ p3 :: cells L o1 o2 o3 o1 o5 ex, p.1 ≠ I) (k : Nat) :
    ∀ (i : Nat) (s : Shared) (row told cut : Option Value) (oI o4 : Obj) (v4 : Option Value) (_ : i + k = its.size) (_ : IsIt oI p3.1 i) (_ : o4.data = .cell v4) (_ : Fr h₀ L s.heap (lMap a b or wr dr row told cut)) (_ : News h₀ L s.heap ((I, oI) :: p3 :: cells L o1 o2 o3 o4 o5 ex))
    (_ : ∀ row' told' cut' o4' v4' h' tk', o4'.data = .cell v4' → Fr h₀ L h' (lMap a b or wr dr row' told' cut') → News h₀ L h' (p3 :: cells L o1 o2 o3 o4' o5 ex) → R (.ok .next) { s with heap := h', toks := tk' }),
    codeN (model PySem.Challenge.rw_zw0001_01.prog w) (callerA.deeper (lEnv L fa cd)) (.forLoop (match stmt 10 with | .For t _ _ _ _ => t | _ => default) (.ref I) outerBody [] (lEnv L fa cd)) R s := by
  have hT : (match stmt 10 with | .For t _ _ _ _ => t | _ => default : Expr) = (match stmt 10 with | .For t _ _ _ _ => t | _ => default : Expr) := rfl
  conv at hT => rhs; whnf
  rw [hT]
  have hne' : ∀ o4 : Obj, ∀ p ∈ p3 :: cells L o1 o2 o3 o4 o5 ex, p.1 ≠ I := by
    intro o4 p hp
    simp only [List.mem_cons] at hp
    rcases hp with rfl | rfl | rfl | rfl | rfl | rfl | hp
    · exact hne _ List.mem_cons_self
    · exact hne (L + 1 + 1 + 1 + 1 + 1, o5) (by simp)
    · exact hne (L + 1 + 1 + 1 + 1, o1) (by simp)
    · exact hne (L + 1 + 1 + 1, o3) (by simp)
    · exact hne (L + 1 + 1, o2) (by simp)
    · exact hne (L + 1, o1) (by simp)
    · exact hne p (by simp [hp])
  induction k with
  | zero =>
    intro i s row told cut oI o4 v4 hi hI d4 F N hret
    have hsl : s.heap.IsList p3.1 its := ⟨p3.2, (N (p3.1, p3.2) (List.mem_cons_of_mem _ List.mem_cons_self)).1, hl3.1, hl3.2⟩
    refine codeN_for_step (wpN_of (next_list_end rfl hI F N (hne' o4) hsl (by rw [Array.getElem?_eq_none]; omega) fun h' F' N' _ => ?_))
    exact hret row told cut o4 v4 h' _ d4 F' N'
  | succ k ih =>
    intro i s row told cut oI o4 v4 hi hI d4 F N hret
    have hsl : s.heap.IsList p3.1 its := ⟨p3.2, (N (p3.1, p3.2) (List.mem_cons_of_mem _ List.mem_cons_self)).1, hl3.1, hl3.2⟩
    have hlt : i < its.size := by omega
    obtain ⟨rw0, tr, hv, hr4⟩ := hits i _ (Array.getElem?_eq_getElem hlt)
    refine codeN_for_step (wpN_of (next_list_item hI F N (hne' o4) hsl (v := .bytes rw0.toArray tr) (by rw [Array.getElem?_eq_getElem hlt, hv]) fun oI' h' hI' F' N' _ => ?_))
    dsimp only
    refine wpN_of (wpAny_of_eq (a := ()) (by rfl) ?_)
    refine wpN_of (wpAny_assign_Name (storeX_L F' N' fun h₂ F₂ N₂ => ?_))
    have F₃ := Fr.eqv F₂ fun y => lset_row y
    refine rows_turn w mean mg mb h₀ L fa cd ex (I, oI') p3 o1 o2 o3 o4 o5 v4 a b or wr dr told cut c rw0 tr ps ⟨_, _, _, _, _⟩ _ B X T d2 d4 hc hgood hr4 (fun bd => hlaw bd rw0 hr4) hex hIL hp3 F₃ N₂ ?_
    intro told' cut' o4' v4' h₄ k₄ d4' F₄ N₄
    exact ih (i + 1) _ _ told' cut' oI' o4' v4' (by omega) hI' d4' F₄ N₄ hret
set_option maxRecDepth 100000 in
set_option maxHeartbeats 8000000 in
theorem s10 : ∀ (w : World) (mean : ExcName → Option Value) (mg mb : Str → Option Value) (h₀ : Heap) (L fa : Addr) (cd : Value) (ex : List (Addr × Obj)) (o1 o2 o3 o4 o5 : Obj) (v4 a b wr dr row told cut : Option Value) (ol c : Addr) (rows : List (List UInt8)) (ps : List (Nat × Nat)) (s : Shared) (Q : Flow → Shared → Prop)
    (_ : Below callerA h₀ [] h₀) (_ : (Mine.hd.heap_39 w.params).In h₀) (_ : Top Mine.hd.view_39 (looseW Mine.hd.view_39 []) mean mg mb h₀)
    (_ : o2.data = .cell (some (.ref c))) (_ : o4.data = .cell v4) (_ : CmpIn ex c ps) (_ : ∀ p ∈ ps, GoodPair p) (_ : ∀ bd row, row.length = 4 → net ps (thr bd row) = thr bd (net ps row))
    (_ : Away L ex) (_ : RowsIn ex ol rows) (_ : rows.length ≤ 1000) (_ : ∀ r ∈ rows, r.length = 4)
    (_ : Fr h₀ L s.heap (lMap a b (some (.ref ol)) wr dr row told cut)) (_ : News h₀ L s.heap (cells L o1 o2 o3 o4 o5 ex))
    (_ : ∀ row' told' cut' o4' v4' h' tk', o4'.data = .cell v4' → Fr h₀ L h' (lMap a b (some (.ref ol)) wr dr row' told' cut') → News h₀ L h' (cells L o1 o2 o3 o4' o5 ex) → Q .next { s with heap := h', toks := tk' }),
    wpN (model PySem.Challenge.rw_zw0001_01.prog w) (callerA.deeper (lEnv L fa cd)) (exec (stmt 10) (lEnv L fa cd)) Q noE s := by
  k_fill
  intro w mean mg mb h₀ L fa cd ex o1 o2 o3 o4 o5 v4 a b wr dr row told cut ol c rows ps s Q B X T d2 d4 hc hgood hlaw hex hro hfew h4 F N hret
  have hB : stmt 10 = stmt 10 := rfl
  conv at hB => rhs; whnf
  have hS : fnScope 7 = fnScope 7 := rfl
  conv at hS => rhs; whnf
  have hO : outerBody = outerBody := rfl
  conv at hO => rhs; whnf
  have hT : (match stmt 10 with | .For t _ _ _ _ => t | _ => default : Expr) = (match stmt 10 with | .For t _ _ _ _ => t | _ => default : Expr) := rfl
  conv at hT => rhs; whnf
  unfold lEnv
  rw [hB, hS]
  obtain ⟨zi, oz, nz, hzm, hzc, hzd, hzr⟩ := id hro
  have hlok : ListOK (cells L o1 o2 o3 o4 o5 ex) h₀ L ol zi := ⟨fun h N => ⟨oz, (N _ (mem5 hzm)).1, hzc, nz, hzd⟩, by rw [hzr.1]; exact hfew⟩
  refine wpN_For (wpN_of ?_)
  k_steps
  rename Fr _ _ _ _ => F₁; rename News _ _ _ _ => N₁
  refine slice_ok (s := ⟨_, _, _, _, _⟩) hlok F₁ N₁ ?_
  intro D h₂ F₂ N₂ hD
  generalize hpk : slicePick zi.toArray none none (some 3) = pk at N₂
  have hits : ∀ (i : Nat) (v : Value), pk[i]? = some v → ∃ row t, v = .bytes (List.toArray row) t ∧ row.length = 4 := by
    intro i v hv
    rw [← hpk] at hv
    have hm := pick_mem hv
    obtain ⟨j, hj, rfl⟩ := List.getElem_of_mem hm
    have hr : rows[j]? = some (rows[j]'(by rw [← hzr.1]; exact hj)) := List.getElem?_eq_getElem _
    obtain ⟨t, e⟩ := hzr.2 j _ _ (List.getElem?_eq_getElem hj) hr
    exact ⟨_, t, e, h4 _ (List.mem_of_getElem? hr)⟩
  have hDl : Heap.IsList h₂ D pk := ⟨_, (N₂ _ List.mem_cons_self).1, rfl, _, rfl⟩
  obtain ⟨p3, hp31, hp32, N₃⟩ := newsHead2 N₂
  have hl3 : IsList' p3.2 pk := by rw [hp32]; exact ⟨rfl, _, rfl⟩
  rw [← hp31] at hDl hD ⊢
  refine wpN_of (iter_list hDl F₂ N₃ fun I oI h₄ hI F₄ N₄ hIlt _ _ => ?_)
  have hl5 : @LT.lt Nat _ (L + 1 + 1 + 1 + 1) p3.1 := hD (L + 1 + 1 + 1 + 1, o4) (by simp)
  have hI5 : @LT.lt Nat _ (L + 1 + 1 + 1 + 1) I := hIlt (L + 1 + 1 + 1 + 1, o4) (by simp)
  rw [← hT, ← hS, ← hO]
  refine rows_loop w mean mg mb h₀ L fa cd ex p3 I o1 o2 o3 o5 a b _ wr dr c pk ps _ B X T d2 hc hgood hlaw hex (Nat.ne_of_gt hl5) (Nat.ne_of_gt hI5) hl3 hits ?_ pk.size 0 ⟨_, _, _, _, _⟩ row told cut oI o4 v4 (Nat.zero_add _) hI d4 F₄ N₄ ?_
  · intro p hp
    simp only [List.mem_cons] at hp
    rcases hp with rfl | rfl | rfl | rfl | rfl | rfl | hp
    · exact Nat.ne_of_lt (hIlt _ List.mem_cons_self)
    · exact Nat.ne_of_lt (hIlt (L + 1 + 1 + 1 + 1 + 1, o5) (by simp))
    · exact Nat.ne_of_lt (hIlt (L + 1 + 1 + 1 + 1, o4) (by simp))
    · exact Nat.ne_of_lt (hIlt (L + 1 + 1 + 1, o3) (by simp))
    · exact Nat.ne_of_lt (hIlt (L + 1 + 1, o2) (by simp))
    · exact Nat.ne_of_lt (hIlt (L + 1, o1) (by simp))
    · exact Nat.ne_of_lt (hIlt p (by simp [hp]))
  · intro row' told' cut' o4' v4' h₅ k₅ d4' F₅ N₅
    exact hret row' told' cut' o4' v4' _ _ d4' F₅ fun p hp => N₅ p (List.mem_cons_of_mem _ hp)
end Mine
end

section
open PySem PySem.W PySem.Calls PyProof.Rows
set_option maxRecDepth 100000
namespace Mine
section
variable {prog : Program} {w : World} {s : Shared} {R : Result → Shared → Prop}
/-- the law's def is entered from the top, in N -/
theorem enter_topN {name : Str} {params : Arguments} {body : List Stmt} {scope : Scope} {pm cdv doc : Value} {f : Addr} {fo : Obj} {args : Args} {binds : List (Str × Value)} (hlim : s.heap.NoLimit) (ho : s.heap.get? f = some fo) (hd : fo.data = .func (docDef name params body scope pm cdv doc)) (hcd : s.heap.CodeRec cdv name)
    (hbind : BindsTo s (docDef name params body scope pm cdv doc) args binds) (hkind : (binds.all fun y => scope.names.lookup y.1 == some .local || scope.names.lookup y.1 == some .cell) = true) (hnd : ((cellsFrom 0 scope.names []).map (·.1)).Nodup)
    (h : ∀ h₁ tk cells, Fr s.heap s.heap.objs.size h₁ (bindL (envOfC name scope s.heap.objs.size f cdv).kindOf binds fun _ => none) → News s.heap s.heap.objs.size h₁ cells →
      CellsAre (bindC (envOfC name scope s.heap.objs.size f cdv).kindOf binds fun _ => none) (cellsFrom (s.heap.objs.size + 1) scope.names []) cells →
      wpN (model prog w) (callerA.deeper (envOfC name scope s.heap.objs.size f cdv)) (execs body (envOfC name scope s.heap.objs.size f cdv)) (fun fl s' => R (.ok (.ret (match fl with | .ret v => v | _ => .none))) s') noE { s with heap := h₁, toks := tk })
    (hco : scope.isCoroutine = false) (hgen : scope.isGenerator = false) (hk : scope.kind = .function) : codeN (model prog w) callerA (.call (.ref f) args) R s := by
  refine codeN_call_function (fd := docDef name params body scope pm cdv doc) (by decide) ho hd hco hgen rfl hcd (hbind _ _ _ _ ?_)
  refine wpAny_newFunctionEnv_cells hk (kindsX hkind _) fun env' he s' x => ?_
  subst he
  refine ⟨hlim.keeps x.toInCall.keep, codeN_func (wpN_calm ?_)⟩
  obtain ⟨h₁, tk, rfl, _⟩ := x.done
  have hk₁ := x.toInCall.keep
  obtain ⟨cells, NC, Y⟩ := Cl.news (h₀ := s.heap) (Nat.le_refl _) fun n c hm => ⟨x.cell n c (lookup_of_mem_nodup (cellsFrom_names scope.names 0 (s.heap.objs.size + 1) [] [] rfl ▸ hnd) hm), x.above n c hm⟩
  exact h h₁ tk cells ⟨x.toInCall.ns, fun b o e => hk₁ b o e, Nat.le_refl _⟩ NC Y
end
end Mine
end

section
open PySem PySem.W PySem.Calls PyProof.Rows
set_option maxRecDepth 100000
namespace Mine
/-- a run from the top ends as the N-logic says: the top's stack is empty -/
theorem ends_ND {prog : Program} {w : World} {t : Sem Fin} {s : Shared} {R : Result → Shared → Prop} (hz : s.asleep)
    (h : wpN (model prog w) callerA t (fun fin s' => ∃ f, fin = .done f ∧ (R (.ok f) s' ∧ leftWithCleanup s'.gens = false)) (fun e s' => R (.error e) s' ∧ leftWithCleanup s'.gens = false) s) :
    ∃ n r s' s'', runN (denote table) prog w n s ⟨t, .builtin "claim.caller" {}, default, []⟩ = .halted (outcomeOf r) s' ∧
      schedN (denote table) prog w n (.single s ⟨t, .builtin "claim.caller" {}, default, []⟩) = .halted (outcomeOf r) s' ∧ s'.forget = s''.forget ∧ R r s'' := by
  have top := h ⟨.builtin "claim.caller" {}, none, none, [], none⟩ default caller_in (by decide) (fun x hx => by cases hx)
  obtain ⟨n, r, s₁, s₂, hs, hn, hf, hR⟩ := wp_halts_full (M := model prog w) (R := R) (c := .builtin "claim.caller" {}) (p := default) hz
    (Sem.wp_mono _ _ t (fun fin p' s' q => by obtain ⟨f, rfl, q⟩ := q; exact q) (fun _ _ _ q => q) default s top)
  exact ⟨n, r, s₂, s₁, hn, hs, hf, hR⟩
theorem callFrom_ND {c : ClaimW} {tree : List Value → Sem Fin} {w : World} {s : Shared} {free : Addr → Prop} {gens : Prop} {kept : Heap → Prop} (hz : s.asleep) (hgens : s.gens = #[])
    (spec : ∀ args, c.pre args = true → WData.layableAll args = true → ∀ ord : List DictEntry → List DictEntry, (∀ l, (ord l).Perm l) →
      ∃ vs s₁, layAllW c.records (classAt s.heap) w.params ord args s = some (vs, s₁) ∧
        wpN (model c.prog w) callerA (tree vs) (fun fin s' => ∃ f, fin = .done f ∧ (c.Ends s args vs s₁ (.ok f) s' ∧ s'.os = s.os ∧ AllBare s'.gens ∧ kept s'.heap))
          (fun e s' => c.Ends s args vs s₁ (.error e) s' ∧ s'.os = s.os ∧ AllBare s'.gens ∧ kept s'.heap) s₁) :
    c.CallFrom (fun vs => ⟨tree vs, .builtin "claim.caller" {}, default, []⟩) w free gens kept s := by
  intro args hpre hlay ord hord
  obtain ⟨vs, s₁, hlaid, hcode⟩ := spec args hpre hlay ord hord
  have rest := layAllW_rest _ _ _ hlaid
  have hz₁ : s₁.asleep := Shared.asleep_of_life rest.2.2.2 hz
  obtain ⟨k, r, s', s'', hrun, hsched, hfo, hends, hos, hkp⟩ := ends_ND (prog := c.prog) (w := w) (t := tree vs) (s := s₁) (R := fun r s' => c.Ends s args vs s₁ r s' ∧ s'.os = s.os ∧ kept s'.heap) hz₁
    (wpN_mono hcode (fun fin s' ⟨f, e, a, b, d, k⟩ => ⟨f, e, ⟨a, b, k⟩, leftWithCleanup_false_of_bare d⟩) fun e s' ⟨a, b, d, k⟩ => ⟨⟨a, b, k⟩, leftWithCleanup_false_of_bare d⟩)
  obtain ⟨eh, _, _, eo, _⟩ := Shared.forget_eq hfo
  have hends' := hends.congr eh
  have hkp' : kept s'.heap := by rw [eh]; exact hkp
  have hos' : s'.os = s.os := eo.trans hos
  have hlife : s'.heap.life = s.heap.life := (runN_life _ _ _ hrun).trans rest.2.2.2
  refine ⟨vs, s₁, hlaid, k, _, s', hsched, ?_, fun _ i x hx => by rw [hgens] at hx; simp at hx, hkp', by rw [hlife], Shared.rest_eq hos'⟩
  rcases hends' with ⟨v, rfl, d1, d2, d3, d4, d5⟩ | ⟨e, ob, cls, rfl, d1, d2, d3, d4, d5⟩
  · exact .inl ⟨v, rfl, d1, d2, d3, fun b o y _ => d4 b o y, d5⟩
  · exact .inr ⟨e, ob, cls, rfl, d1, d2, d3, d4, fun b o y _ => d5 b o y⟩
/-- the open head with its premise in N -/
theorem holdsND {r : OpenRow} {q : Program} {loose : List Str} {Xt : Shared → Bool} {XP : (Str → Option Value) → Heap → Prop} {α : Type} {Yf : Shared → α} {Ya : World → α} {YP : World → Heap → Prop} {d : DefRec} {kwd : List (Str × Expr)} {N : Nat}
    (left : LeftO r.prog q loose Xt Yf Ya N) (hY : ∀ w s, Yf s = Ya w → YP w s.heap) (hYk : ∀ w h h', YP w h → (∀ b o, h.get? b = some o → h'.get? b = some o) → YP w h')
    (hX : ∀ s, Xt s = true → XP (s.heap.nsMap mainGlobals) s.heap) (hXk : ∀ mg h h', XP mg h → (∀ b o, h.get? b = some o → h'.get? b = some o) → XP mg h')
    (hdef : defOf q r.name = some (d, kwd)) (hp : r.prog.theDef r.name = some (d.params, d.body, d.scope)) (hk : kwWritten? d.params.kwonlyargs d.params.kw_defaults = some kwd) (hRf : ∀ s, Xt s = true → RecFacts r.records s.heap) (hwr : (!r.writes || r.records.isEmpty) = true)
    (k1 : r.wellSaid = true) (ok : (chainsOk q && opensWell r.prog && (frees r.toRowW && r.within.isEmpty)) = true) (hb : r.prog.bare) (hw : r.toRowW.promised)
    (walk : ∀ (w : World) (s₀ s₁ : Shared) (mg mb : Str → Option Value), Ground q loose r.records XP w s₀ mg mb s₁.heap → YP w s₁.heap → ∀ (a : Addr) (o : Obj) (pm cd doc dV kV : Value), s₁.heap.get? a = some o →
      o.data = .func { docDef d.name d.params d.body d.scope pm cd doc with defaults := dV, kwdefaults := kV } → s₁.heap.CodeRec cd d.name → Dflts mg s₁.heap d.params kwd dV kV → mg d.name = some (.ref a) → s₁.gens = #[] →
      ∀ (args : List WData) (vals : List Value) (as : List Addr), r.toRowW.claim.pre args = true → WData.layableAll args = true → ReadsAllW r.records (classAt s₀.heap) s₁.heap vals args as → WellAll w.params s₁.heap vals args → (∀ a ∈ as, (a == sysModules) = false) →
        wpN (model r.prog w) callerA (PySem.call (.ref a) vals) (fun v s' => GoodWG r.toRowW.claim (classAt s₀.heap) (ExcName.means s₀.heap) args s₁ (.ok (.ret v)) s')
          (fun e s' => GoodWG r.toRowW.claim (classAt s₀.heap) (ExcName.means s₀.heap) args s₁ (.error e) s') s₁) : r.Holds := by
  obtain ⟨ok, kf⟩ := Bool.and_eq_true_iff.mp ok
  obtain ⟨hch, hopens⟩ := Bool.and_eq_true_iff.mp ok
  obtain ⟨kf, kw⟩ := Bool.and_eq_true_iff.mp kf
  obtain ⟨hsame, hu, ha, hap, hm⟩ := frees_parts kf
  have hi := ident_freeW hu ha hap
  have hwi : r.toRowW.claim.within = [] := List.isEmpty_iff.mp kw
  refine ⟨k1, hw, ⟨hb, hopens, by show r.toRowW.makers.map _ = []; rw [hm]; rfl⟩, hw.witness, fun w => ⟨(left.behind hX hch w).1, fun s' hs' => ?_⟩⟩
  obtain ⟨s₀, hf, hg0, s, hT, hz, hgens, hg, G00, y⟩ := (left.behind (XP := fun mg h => XP mg h ∧ RecFacts r.records h) (fun s hs => ⟨hX s hs, hRf s hs⟩) hch w).2 s' hs'
  have RF : RecFacts r.records s.heap := G00.X.2
  have G0 : Ground q loose [] XP w s (s.heap.nsMap mainGlobals) (s.heap.nsMap builtinsNs) s.heap := { G00 with X := G00.X.1 }
  have hgens' : s.gens = #[] := Array.eq_empty_of_size_eq_zero (beq_iff_eq.mp hgens)
  have G : Ground q loose r.records XP w s _ _ s.heap := RF.ground G0
  refine ⟨s₀, hf, hg0, s, hT, fun n hn => ?_, RF.1, RF.2.1, ?_⟩
  · obtain rfl : n = r.name := by split at hn <;> simp_all
    exact pinned_of_view hg G0 hdef hp hk
  · refine callFrom_ND (c := r.toRowW.claim) hz hgens' fun args hpre hlay ord hord => ?_
    obtain ⟨⟨vs, s₁⟩, hlaid⟩ := Option.isSome_iff_exists.mp (layAllW_isSome (P := w.params) (ord := ord) G.has args r.args s (pre_splitW hpre).1)
    have keeps := layAllW_keeps _ _ _ hlaid
    have rest := layAllW_rest _ _ _ hlaid
    obtain ⟨as, hrd, hin, hold⟩ := reads_layAllW hord _ _ _ hlaid hlay s₁.heap (fun _ _ e => e)
    have L : Laid r.records w s s₁ args vs as := ⟨⟨ord, hord, hlaid⟩, hrd, hin, hold, keeps, rest.1.trans hgens', rest.2.2.1⟩
    have G₁ := G.keeps hXk keeps
    obtain ⟨a, o, pm, cd, doc, dV, kV, h1, h2, h3, h4, h5⟩ := G₁.fn hdef
    have run := walk w s s₁ _ _ G₁ (hYk _ _ _ (hY w s y) keeps) a o pm cd doc dV kV h2 h3 h4 h5 (defOf_name hdef ▸ h1) L.gens args vs as hpre hlay L.reads L.well (L.low G.low)
    refine ⟨vs, s₁, hlaid, ?_⟩
    refine wpN_step (wpAny_nsGet G₁.T.g ?_)
    rw [h1]
    refine wpN_bind (wpN_mono run (fun v s' g => wpN_pure ?_) fun e s' g => ?_)
    · have z := g.laid (c := r.toRowW.claim) hsame hwi hi L
      exact ⟨_, rfl, z.1, z.2.1, z.2.2, fun q => ⟨namesKept_of hT hg _ keeps g.2.1.old, noTable hwr q⟩⟩
    · have z := g.laid (c := r.toRowW.claim) hsame hwi hi L
      exact ⟨z.1, z.2.1, z.2.2, fun q => ⟨namesKept_of hT hg _ keeps g.2.1.old, noTable hwr q⟩⟩
end Mine
end

section
open PySem PySem.W PySem.Calls PyProof.Rows
namespace Mine
theorem prOf_good (n : Int) : GoodPair (prOf n) := by
  have all : ∀ p ∈ pairsTo 4, (mm p).1 < (mm p).2 ∧ (mm p).2 < 4 := by decide
  have d0 : (mm (0, 1)).1 < (mm (0, 1)).2 ∧ (mm (0, 1)).2 < 4 := by decide
  unfold prOf GoodPair
  rw [List.getD_eq_getElem?_getD]
  cases h : (pairsTo 4)[(n.fmod 12).toNat]? with
  | none => exact d0
  | some p => exact all p (List.mem_of_getElem? h)
theorem net5_good : ∀ p ∈ net5, GoodPair p := by
  have : ∀ p ∈ net5, p.1 < p.2 ∧ p.2 < 4 := by decide
  exact this
def fb (bd : Int) (c : UInt8) : UInt8 := (tbit bd c).toNat.toUInt8
theorem thr_map (bd : Int) (r : List UInt8) : thr bd r = r.map (fb bd) := by unfold thr tints; rw [List.map_map]; rfl
theorem fb_le {bd : Int} {x y : UInt8} (h : ¬ y < x) : ¬ fb bd y < fb bd x := by
  have h' : x.toNat ≤ y.toNat := Nat.not_lt.mp fun q => h (UInt8.lt_iff_toNat_lt.mpr q)
  unfold fb tbit
  by_cases hx : (x.toNat : Int) > bd
  · have hy : (y.toNat : Int) > bd := by omega
    rw [if_pos hx, if_pos hy]; decide
  · rw [if_neg hx]
    split <;> decide
theorem fb_eq {x y : UInt8} (h1 : ¬ x < y) (h2 : ¬ y < x) : x = y := by
  apply UInt8.toNat_inj.mp
  have a : ¬ x.toNat < y.toNat := fun q => h1 (UInt8.lt_iff_toNat_lt.mpr q)
  have b : ¬ y.toNat < x.toNat := fun q => h2 (UInt8.lt_iff_toNat_lt.mpr q)
  omega
theorem u_asymm {x y : UInt8} (h : x < y) : ¬ y < x := fun q => Nat.lt_asymm (UInt8.lt_iff_toNat_lt.mp h) (UInt8.lt_iff_toNat_lt.mp q)
theorem thr_key {bd : Int} (x y : UInt8) {S U sw un : List UInt8} (hS : S = sw.map (fb bd)) (hU : U = un.map (fb bd)) (h : fb bd x = fb bd y → S = U) :
    (if fb bd y < fb bd x then S else U) = (if y < x then sw else un).map (fb bd) := by
  by_cases hxy : y < x
  · rw [if_pos hxy]
    by_cases hf : fb bd y < fb bd x
    · rw [if_pos hf, hS]
    · rw [if_neg hf, ← hS]
      exact (h (fb_eq (fb_le (u_asymm hxy)) hf)).symm
  · rw [if_neg hxy, if_neg (fb_le hxy), hU]
theorem swp_thr {bd : Int} {r : List UInt8} {p : Nat × Nat} (hr : r.length = 4) (hp : GoodPair p) : swp (thr bd r) p = thr bd (swp r p) := by
  obtain ⟨i, j⟩ := p
  obtain ⟨h1, h2⟩ := hp
  rw [thr_map, thr_map]
  match r, hr with
  | [a, b, c, d], _ =>
    have hi : i = 0 ∨ i = 1 ∨ i = 2 := by omega
    have hj : j = 1 ∨ j = 2 ∨ j = 3 := by omega
    rcases hi with rfl | rfl | rfl <;> rcases hj with rfl | rfl | rfl <;> first
      | omega
      | (unfold swp
         simp only [List.map_cons, List.map_nil, List.getD_cons_zero, List.getD_cons_succ, List.set_cons_zero, List.set_cons_succ]
         exact thr_key _ _ rfl rfl fun e => by rw [e])
theorem net_thr : ∀ {ps : List (Nat × Nat)} {bd : Int} {r : List UInt8}, r.length = 4 → (∀ p ∈ ps, GoodPair p) → net ps (thr bd r) = thr bd (net ps r)
  | [], _, _, _, _ => rfl
  | p :: ps, bd, r, hr, h => by
    show net ps (swp (thr bd r) p) = thr bd (net ps (swp r p))
    rw [swp_thr hr (h p List.mem_cons_self)]
    exact net_thr (by rw [swp_length]; exact hr) fun q hq => h q (List.mem_cons_of_mem _ hq)
theorem srt4 (a b c d : UInt8) : srt [a, b, c, d] = decide (a.toNat ≤ b.toNat ∧ b.toNat ≤ c.toNat ∧ c.toNat ≤ d.toNat) := by
  unfold srt
  rw [KBw.ints_list]
  rw [Bool.eq_iff_iff, decide_eq_true_iff, decide_eq_true_iff]
  simp only [List.map_cons, List.map_nil, List.pairwise_cons, List.mem_cons, List.not_mem_nil, or_false, forall_eq_or_imp, forall_eq, List.Pairwise.nil, and_true]
  constructor
  · intro h
    obtain ⟨⟨h1, -⟩, ⟨h2, -⟩, h3, -⟩ := h
    omega
  · intro h
    refine ⟨⟨?_, ?_, ?_⟩, ⟨?_, ?_⟩, ?_, fun _ q => q.elim⟩ <;> omega
theorem four {r : List UInt8} (h : r.length = 4) : ∃ a b c d, r = [a, b, c, d] := by
  match r, h with
  | [a, b, c, d], _ => exact ⟨a, b, c, d, rfl⟩
theorem fb_bit (bd : Int) (c : UInt8) : fb bd c = 0 ∨ fb bd c = 1 := by
  unfold fb tbit
  split
  · right; rfl
  · left; rfl
theorem zrows_all : ∀ a ∈ ([0, 1] : List UInt8), ∀ b ∈ ([0, 1] : List UInt8), ∀ c ∈ ([0, 1] : List UInt8), ∀ d ∈ ([0, 1] : List UInt8), [a, b, c, d] ∈ zrows 16 := by decide +kernel
theorem thr_in {bd : Int} {r : List UInt8} (hr : r.length = 4) : thr bd r ∈ zrows 16 := by
  obtain ⟨a, b, c, d, rfl⟩ := four hr
  rw [thr_map]
  have m : ∀ c, fb bd c ∈ ([0, 1] : List UInt8) := fun c => by rcases fb_bit bd c with h | h <;> simp [h]
  exact zrows_all _ (m a) _ (m b) _ (m c) _ (m d)
theorem fb_self (c : UInt8) : fb (c.toNat : Int) c = 0 := by unfold fb tbit; rw [if_neg (by omega)]; rfl
theorem fb_big {c x : UInt8} (h : c.toNat < x.toNat) : fb (c.toNat : Int) x = 1 := by unfold fb tbit; rw [if_pos (by omega)]; rfl
/-- an unsorted row has a threshold that shows it -/
theorem thr_shows {x : List UInt8} (hx : x.length = 4) (h : srt x = false) : ∃ bd, srt (thr bd x) = false := by
  obtain ⟨a, b, c, d, rfl⟩ := four hx
  rw [srt4] at h
  have h' := of_decide_eq_false h
  have hc : b.toNat < a.toNat ∨ c.toNat < b.toNat ∨ d.toNat < c.toNat := by omega
  have one : (1 : UInt8).toNat = 1 := rfl
  have zero : (0 : UInt8).toNat = 0 := rfl
  rcases hc with hc | hc | hc
  · refine ⟨b.toNat, ?_⟩
    rw [thr_map, List.map_cons, List.map_cons, List.map_cons, List.map_cons, List.map_nil, srt4, fb_self, fb_big hc, one, zero]
    exact decide_eq_false (by omega)
  · refine ⟨c.toNat, ?_⟩
    rw [thr_map, List.map_cons, List.map_cons, List.map_cons, List.map_cons, List.map_nil, srt4, fb_self, fb_big hc, one, zero]
    exact decide_eq_false (by omega)
  · refine ⟨d.toNat, ?_⟩
    rw [thr_map, List.map_cons, List.map_cons, List.map_cons, List.map_cons, List.map_nil, srt4, fb_self, fb_big hc, one, zero]
    exact decide_eq_false (by omega)
/-- a sorted row stays sorted under a threshold -/
theorem srt_thr {x : List UInt8} {bd : Int} (hx : x.length = 4) (h : srt x = true) : srt (thr bd x) = true := by
  obtain ⟨a, b, c, d, rfl⟩ := four hx
  rw [srt4] at h
  have h' := of_decide_eq_true h
  rw [thr_map, List.map_cons, List.map_cons, List.map_cons, List.map_cons, List.map_nil, srt4]
  have mono : ∀ x y : UInt8, x.toNat ≤ y.toNat → (fb bd x).toNat ≤ (fb bd y).toNat := fun x y hxy => by
    have : ¬ fb bd y < fb bd x := fb_le fun q => absurd (UInt8.lt_iff_toNat_lt.mp q) (by omega)
    exact Nat.not_lt.mp fun q => this (UInt8.lt_iff_toNat_lt.mpr q)
  exact decide_eq_true ⟨mono _ _ h'.1, mono _ _ h'.2.1, mono _ _ h'.2.2⟩
abbrev bads (ps : List (Nat × Nat)) : List (List UInt8) := (zrows 16).filter fun r => !srt (net ps r)
abbrev wrongs (ps : List (Nat × Nat)) : List (List UInt8) := (ords 3 [1, 2, 3, 4]).filter fun r => !srt (net ps r)
/-- the 0-1 principle -/
theorem zero_one {ps : List (Nat × Nat)} (hg : ∀ p ∈ ps, GoodPair p) (h : bads ps = []) (r : List UInt8) (hr : r.length = 4) : srt (net ps r) = true := by
  cases hs : srt (net ps r) with
  | true => rfl
  | false =>
    obtain ⟨bd, hb⟩ := thr_shows (by rw [net_length]; exact hr) hs
    rw [← net_thr hr hg] at hb
    have hm : thr bd r ∈ bads ps := List.mem_filter.mpr ⟨thr_in hr, by rw [hb]; rfl⟩
    rw [h] at hm
    cases hm
theorem ords4 : ∀ r ∈ ords 3 [1, 2, 3, 4], r.length = 4 := fun r hr => ords_len 3 _ r hr
theorem zrow_from : ∀ z ∈ zrows 16, ∃ q ∈ ords 3 [1, 2, 3, 4], ∃ bd ∈ ([0, 1, 2, 3, 4] : List Int), thr bd q = z := by decide +kernel
theorem both {ps : List (Nat × Nat)} (hg : ∀ p ∈ ps, GoodPair p) : decide (bads ps = []) = decide (wrongs ps = []) := by
  rw [Bool.eq_iff_iff, decide_eq_true_iff, decide_eq_true_iff]
  constructor
  · intro h
    refine List.filter_eq_nil_iff.mpr fun r hr => ?_
    rw [zero_one hg h r (ords4 r hr)]; decide
  · intro h
    refine List.filter_eq_nil_iff.mpr fun z hz => ?_
    obtain ⟨q, hq, bd, _, rfl⟩ := zrow_from z hz
    have h1 := List.filter_eq_nil_iff.mp h q hq
    have hs : srt (net ps q) = true := by
      cases hs : srt (net ps q) with
      | true => rfl
      | false => rw [hs] at h1; exact absurd rfl h1
    rw [net_thr (ords4 q hq) hg, srt_thr (by rw [net_length]; exact ords4 q hq) hs]; decide
theorem net_append (a b : List (Nat × Nat)) (r : List UInt8) : net (a ++ b) r = net b (net a r) := by unfold net; rw [List.foldl_append]
theorem bads5 : bads net5 = [] := by decide +kernel
theorem zrows4 : ∀ r ∈ zrows 16, r.length = 4 := by decide +kernel
theorem even_ok {ps : List (Nat × Nat)} : bads (ps ++ net5) = [] := by
  refine List.filter_eq_nil_iff.mpr fun z hz => ?_
  rw [net_append, zero_one net5_good bads5 _ (by rw [net_length]; exact zrows4 z hz)]; decide
/-- a sorted row is not changed by a comparison -/
theorem swp_sorted {x : List UInt8} {p : Nat × Nat} (hx : x.length = 4) (hp : GoodPair p) (h : srt x = true) : swp x p = x := by
  obtain ⟨i, j⟩ := p
  obtain ⟨h1, h2⟩ := hp
  obtain ⟨a, b, c, d, rfl⟩ := four hx
  rw [srt4] at h
  have h' := of_decide_eq_true h
  have no : ∀ x y : UInt8, x.toNat ≤ y.toNat → ¬ y < x := fun x y hxy q => absurd (UInt8.lt_iff_toNat_lt.mp q) (by omega)
  have hi : i = 0 ∨ i = 1 ∨ i = 2 := by omega
  have hj : j = 1 ∨ j = 2 ∨ j = 3 := by omega
  rcases hi with rfl | rfl | rfl <;> rcases hj with rfl | rfl | rfl <;> first
    | omega
    | (refine swp_no (no _ _ ?_); simp only [List.getD_cons_zero, List.getD_cons_succ]; omega)
theorem more_ok {ps : List (Nat × Nat)} {p : Nat × Nat} (hp : GoodPair p) : ((zrows 16).filter fun r => !((bads ps).any fun q => decide (q = r)) && !srt (net (ps ++ [p]) r)) = [] := by
  refine List.filter_eq_nil_iff.mpr fun z hz => ?_
  cases hs : srt (net ps z) with
  | true =>
    rw [net_append, show net [p] (net ps z) = swp (net ps z) p from rfl, swp_sorted (by rw [net_length]; exact zrows4 z hz) hp hs, hs]
    simp
  | false =>
    have hm : z ∈ bads ps := List.mem_filter.mpr ⟨hz, by rw [hs]; rfl⟩
    have ha : ((bads ps).any fun q => decide (q = z)) = true := List.any_eq_true.mpr ⟨z, hm, decide_eq_true rfl⟩
    rw [ha]; simp
end Mine
end

section
open PySem PySem.W PySem.Calls PyProof.Rows PyProof.Rows.LCg
set_option maxRecDepth 100000
namespace Mine
theorem ne_five (L : Nat) : L + 1 ≠ L + 1 + 1 ∧ L + 1 ≠ L + 1 + 1 + 1 ∧ L + 1 ≠ L + 1 + 1 + 1 + 1 ∧ L + 1 ≠ L + 1 + 1 + 1 + 1 + 1 ∧ L + 1 + 1 ≠ L + 1 + 1 + 1 ∧ L + 1 + 1 ≠ L + 1 + 1 + 1 + 1 ∧ L + 1 + 1 ≠ L + 1 + 1 + 1 + 1 + 1 ∧ L + 1 + 1 + 1 ≠ L + 1 + 1 + 1 + 1 ∧ L + 1 + 1 + 1 ≠ L + 1 + 1 + 1 + 1 + 1 ∧ L + 1 + 1 + 1 + 1 ≠ L + 1 + 1 + 1 + 1 + 1 := by omega
theorem news_in {h₀ h : Heap} {L : Addr} {o1 o2 o3 o4 o5 : Obj} {x : Addr × Obj} {ex : List (Addr × Obj)} (N : News h₀ L h (x :: cells L o1 o2 o3 o4 o5 ex)) : News h₀ L h (cells L o1 o2 o3 o4 o5 (x :: ex)) := fun p hp => N p (by
  simp only [List.mem_cons] at hp ⊢
  rcases hp with hp | hp | hp | hp | hp | hp | hp <;> simp [hp])
theorem news_ins {h₀ h : Heap} {L : Addr} {o1 o2 o3 o4 o5 : Obj} {x : Addr × Obj} {l ex : List (Addr × Obj)} (N : News h₀ L h (x :: (l ++ cells L o1 o2 o3 o4 o5 ex))) : News h₀ L h (cells L o1 o2 o3 o4 o5 (x :: (l ++ ex))) := fun p hp => N p (by
  simp only [List.mem_cons, List.mem_append] at hp ⊢
  rcases hp with hp | hp | hp | hp | hp | hp | hp | hp <;> simp [hp])
theorem away_cons {L D : Addr} {oD o1 o2 o3 o4 o5 : Obj} {ex ex' : List (Addr × Obj)} (hne : ∀ p ∈ cells L o1 o2 o3 o4 o5 ex, p.1 ≠ D) (hex : Away L ex') : Away L ((D, oD) :: ex') := fun p hp => by
  rcases List.mem_cons.mp hp with rfl | hp
  · refine ⟨Ne.symm (hne (L + 1, o1) ?_), Ne.symm (hne (L + 1 + 1, o2) ?_), Ne.symm (hne (L + 1 + 1 + 1, o3) ?_), Ne.symm (hne (L + 1 + 1 + 1 + 1, o4) ?_), Ne.symm (hne (L + 1 + 1 + 1 + 1 + 1, o5) ?_)⟩ <;> simp
  · exact hex p hp
theorem away_app {L : Addr} {a b : List (Addr × Obj)} (ha : Away L a) (hb : Away L b) : Away L (a ++ b) := fun p hp => by
  rcases List.mem_append.mp hp with hp | hp
  · exact ha p hp
  · exact hb p hp
section
variable {M : Model} {A : Around} {E : Value → Shared → Prop} {s : Shared} {h₀ : Heap} {L fa : Addr} {cd : Value} {m : Str → Option Value} {v : Value} {v₀ : Option Value} {o1 o2 o3 o4 o5 : Obj} {ex : List (Addr × Obj)} {Q : Unit → Shared → Prop}
theorem store_pairs (F : Fr h₀ L s.heap m) (N : News h₀ L s.heap (cells L o1 o2 o3 o4 o5 ex)) (hd : o1.data = .cell v₀) (hex : Away L ex)
    (h : ∀ h' o', o'.data = .cell (some v) → Fr h₀ L h' m → News h₀ L h' (cells L o' o2 o3 o4 o5 ex) → Q () { s with heap := h' }) : wpAny M A (storeName (lEnv L fa cd) (Str.ofString "pairs") v) Q E s := by
  have nn := ne_five L
  refine store_cell (c := L + 1) (pre := [(L + 1 + 1 + 1 + 1 + 1, o5), (L + 1 + 1 + 1 + 1, o4), (L + 1 + 1 + 1, o3), (L + 1 + 1, o2)]) (post := ex) (by rfl) (by rfl) F N hd ?_ ?_ h
  · intro p hp
    simp only [List.mem_cons, List.not_mem_nil, or_false] at hp
    rcases hp with rfl | rfl | rfl | rfl <;> (show @Ne Nat _ _; omega)
  · intro p hp
    exact (hex p hp).1
theorem store_comparisons (F : Fr h₀ L s.heap m) (N : News h₀ L s.heap (cells L o1 o2 o3 o4 o5 ex)) (hd : o2.data = .cell v₀) (hex : Away L ex)
    (h : ∀ h' o', o'.data = .cell (some v) → Fr h₀ L h' m → News h₀ L h' (cells L o1 o' o3 o4 o5 ex) → Q () { s with heap := h' }) : wpAny M A (storeName (lEnv L fa cd) (Str.ofString "comparisons") v) Q E s := by
  have nn := ne_five L
  refine store_cell (c := L + 1 + 1) (pre := [(L + 1 + 1 + 1 + 1 + 1, o5), (L + 1 + 1 + 1 + 1, o4), (L + 1 + 1 + 1, o3)]) (post := (L + 1, o1) :: ex) (by rfl) (by rfl) F N hd ?_ ?_ h
  · intro p hp
    simp only [List.mem_cons, List.not_mem_nil, or_false] at hp
    rcases hp with rfl | rfl | rfl <;> (show @Ne Nat _ _; omega)
  · intro p hp
    simp only [List.mem_cons] at hp
    rcases hp with rfl | hp
    · show @Ne Nat _ _; omega
    · exact (hex p hp).2.1
theorem store_bad (F : Fr h₀ L s.heap m) (N : News h₀ L s.heap (cells L o1 o2 o3 o4 o5 ex)) (hd : o3.data = .cell v₀) (hex : Away L ex)
    (h : ∀ h' o', o'.data = .cell (some v) → Fr h₀ L h' m → News h₀ L h' (cells L o1 o2 o' o4 o5 ex) → Q () { s with heap := h' }) : wpAny M A (storeName (lEnv L fa cd) (Str.ofString "bad") v) Q E s := by
  have nn := ne_five L
  refine store_cell (c := L + 1 + 1 + 1) (pre := [(L + 1 + 1 + 1 + 1 + 1, o5), (L + 1 + 1 + 1 + 1, o4)]) (post := (L + 1 + 1, o2) :: (L + 1, o1) :: ex) (by rfl) (by rfl) F N hd ?_ ?_ h
  · intro p hp
    simp only [List.mem_cons, List.not_mem_nil, or_false] at hp
    rcases hp with rfl | rfl <;> (show @Ne Nat _ _; omega)
  · intro p hp
    simp only [List.mem_cons] at hp
    rcases hp with rfl | rfl | hp
    · show @Ne Nat _ _; omega
    · show @Ne Nat _ _; omega
    · exact (hex p hp).2.2.1
theorem store_more (F : Fr h₀ L s.heap m) (N : News h₀ L s.heap (cells L o1 o2 o3 o4 o5 ex)) (hd : o5.data = .cell v₀) (hex : Away L ex)
    (h : ∀ h' o', o'.data = .cell (some v) → Fr h₀ L h' m → News h₀ L h' (cells L o1 o2 o3 o4 o' ex) → Q () { s with heap := h' }) : wpAny M A (storeName (lEnv L fa cd) (Str.ofString "more") v) Q E s := by
  have nn := ne_five L
  refine store_cell (c := L + 1 + 1 + 1 + 1 + 1) (pre := []) (post := (L + 1 + 1 + 1 + 1, o4) :: (L + 1 + 1 + 1, o3) :: (L + 1 + 1, o2) :: (L + 1, o1) :: ex) (by rfl) (by rfl) F N hd ?_ ?_ h
  · intro p hp
    simp only [List.mem_cons, List.not_mem_nil, or_false] at hp
  · intro p hp
    simp only [List.mem_cons] at hp
    rcases hp with rfl | rfl | rfl | rfl | hp
    · show @Ne Nat _ _; omega
    · show @Ne Nat _ _; omega
    · show @Ne Nat _ _; omega
    · show @Ne Nat _ _; omega
    · exact (hex p hp).2.2.2.2
end
end Mine
end

section
open PySem PySem.W PySem.Calls PyProof.Rows PyProof.Rows.LCg
set_option maxRecDepth 100000
namespace Mine
theorem law_tail (w : World) (mean : ExcName → Option Value) (mg mb : Str → Option Value) (h₀ : Heap) (L fa : Addr) (cd : Value) (s : Shared) (ex : List (Addr × Obj)) (o1 o2 o3 o4 o5 : Obj) (v3 v4 v5 : Option Value) (sc c : Addr) (vs : List Value) (ns : List Int) (ps : List (Nat × Nat)) (Q : Flow → Shared → Prop)
    (B : Below callerA h₀ [] h₀) (X : (Mine.hd.heap_39 w.params).In h₀) (T : Top Mine.hd.view_39 (looseW Mine.hd.view_39 []) mean mg mb h₀)
    (hL : h₀.IsList sc vs.toArray) (hI : IntsAre vs ns) (hlen : ns.length ≤ 63) (d2 : o2.data = .cell (some (.ref c))) (d3 : o3.data = .cell v3) (d4 : o4.data = .cell v4) (d5 : o5.data = .cell v5)
    (hc : CmpIn ex c ps) (hgood : ∀ p ∈ ps, GoodPair p) (hps : ps.length ≤ 1000) (heven : ns.sum.fmod 2 = 0 → bads ps = []) (hex : Away L ex)
    (F : Fr h₀ L s.heap (lMap (some (.ref sc)) none none none none none none none)) (N : News h₀ L s.heap (cells L o1 o2 o3 o4 o5 ex))
    (hret : ∀ h' tk', Grow h₀ h' → Q (.ret (.bool true)) { s with heap := h', toks := tk' }) :
    wpN (model PySem.Challenge.rw_zw0001_01.prog w) (callerA.deeper (lEnv L fa cd)) (execs [stmt 3, stmt 4, stmt 5, stmt 6, stmt 7, stmt 8, stmt 9, stmt 10, stmt 11, stmt 12] (lEnv L fa cd)) Q noE s := by
  -- zeros
  refine wpN_execs_cons (s3 w mean mg mb h₀ L fa cd s ex o1 o2 o3 o4 o5 _ _ _ _ _ _ _ _ _ B X T F N ?_)
  intro D3 y3 h3 k3 F3 N3' hne3 hz3
  have N3 := news_in N3'
  have hex3 := away_cons (oD := lst y3) hne3 hex
  have hc3 := hc.mono fun q hq => List.mem_cons_of_mem (D3, lst y3) hq
  have hz : RowsIn ((D3, lst y3) :: ex) D3 (zrows 16) := ⟨y3, lst y3, y3.length, List.mem_cons_self, rfl, rfl, hz3⟩
  generalize (D3, lst y3) :: ex = ex3 at N3 hex3 hc3 hz
  clear N3' hne3 hz3 N F hc hex
  -- orders
  refine wpN_execs_cons (s4 w mean mg mb h₀ L fa cd ⟨_, _, _, _, _⟩ ex3 o1 o2 o3 o4 o5 _ _ _ _ _ _ _ _ _ B X T F3 N3 ?_)
  intro D4 oD4 h4 k4 F4 N4' hne4 ho4
  have N4 := news_in N4'
  have hex4 := away_cons (oD := oD4) hne4 hex3
  have hc4 := hc3.mono fun q hq => List.mem_cons_of_mem (D4, oD4) hq
  have hz4 := hz.mono fun q hq => List.mem_cons_of_mem (D4, oD4) hq
  have ho : RowsIn ((D4, oD4) :: ex3) D4 (ords 3 [1, 2, 3, 4]) := ho4.mono fun q hq => by rw [List.mem_singleton.mp hq]; exact List.mem_cons_self
  generalize (D4, oD4) :: ex3 = ex4 at N4 hex4 hc4 hz4 ho
  clear N4' hne4 ho4 N3 F3 hc3 hex3 hz
  -- bad
  refine wpN_execs_cons (s5 w mean mg mb h₀ L fa cd ⟨_, _, _, _, _⟩ ex4 o1 o2 o3 o4 o5 _ _ _ _ _ _ _ c D3 ps (zrows 16) _ B X T F4 N4 d2 hc4 hgood hz4 (by decide +kernel) zrows4 ?_)
  intro D5 y5 h5 k5 F5 N5' off5 hb5
  have N5 := news_in N5'
  have hex5 := away_cons (oD := lst y5) (fun p hp => off1_ne off5 p hp) hex4
  have hc5 := hc4.mono fun q hq => List.mem_cons_of_mem (D5, lst y5) hq
  have hz5 := hz4.mono fun q hq => List.mem_cons_of_mem (D5, lst y5) hq
  have ho5 := ho.mono fun q hq => List.mem_cons_of_mem (D5, lst y5) hq
  have hb : RowsIn ((D5, lst y5) :: ex4) D5 (bads ps) := ⟨y5, lst y5, y5.length, List.mem_cons_self, rfl, rfl, hb5⟩
  generalize (D5, lst y5) :: ex4 = ex5 at N5 hex5 hc5 hz5 ho5 hb
  clear N5' off5 hb5 N4 F4 hc4 hex4 hz4 ho
  refine store_bad F5 N5 d3 hex5 fun h5' o3' d3' F5' N5'' => ?_
  clear F5 N5
  dsimp only
  -- wrong
  refine wpN_execs_cons (s6 w mean mg mb h₀ L fa cd ⟨_, _, _, _, _⟩ ex5 o1 o2 o3' o4 o5 _ _ _ _ _ _ _ c D4 ps (ords 3 [1, 2, 3, 4]) _ B X T F5' N5'' d2 hc5 hgood ho5 (by decide +kernel) ords4 ?_)
  intro D6 y6 h6 k6 F6 N6' off6 hw6
  have N6 := news_in N6'
  have hex6 := away_cons (oD := lst y6) (fun p hp => off1_ne off6 p hp) hex5
  have hc6 := hc5.mono fun q hq => List.mem_cons_of_mem (D6, lst y6) hq
  have hz6 := hz5.mono fun q hq => List.mem_cons_of_mem (D6, lst y6) hq
  have ho6 := ho5.mono fun q hq => List.mem_cons_of_mem (D6, lst y6) hq
  have hb6 := hb.mono fun q hq => List.mem_cons_of_mem (D6, lst y6) hq
  have hw : RowsIn ((D6, lst y6) :: ex5) D6 (wrongs ps) := ⟨y6, lst y6, y6.length, List.mem_cons_self, rfl, rfl, hw6⟩
  generalize (D6, lst y6) :: ex5 = ex6 at N6 hex6 hc6 hz6 ho6 hb6 hw
  clear N6' off6 hw6 N5'' F5' hc5 hex5 hz5 ho5 hb
  dsimp only
  -- the first question
  refine wpN_execs_cons (s7 w mean mg mb h₀ L fa cd ⟨_, _, _, _, _⟩ ex6 o1 o2 o3' o4 o5 _ _ _ _ _ _ D5 D6 sc vs ns (bads ps) (wrongs ps) _ B X T hL hI hlen F6 N6 d3' hb6 hw (both hgood) heven ?_)
  intro h7 k7 F7 N7
  clear F6 N6
  dsimp only
  -- drawn
  refine wpN_execs_cons (s8 w mean mg mb h₀ L fa cd ⟨_, _, _, _, _⟩ ex6 o1 o2 o3' o4 o5 _ _ _ _ _ _ _ sc vs ns _ B X T hL hI hlen F7 N7 ?_)
  intro dr td h8 k8 hdr F8 N8
  clear F7 N7
  dsimp only
  -- the second question
  refine wpN_execs_cons (s9 w mean mg mb h₀ L fa cd ⟨_, _, _, _, _⟩ ex6 o1 o2 o3' o4 o5 _ _ _ _ _ _ _ c D5 dr td (bads ps) ps _ B X T F8 N8 d2 d3' hb6 hc6 hgood hdr (fun hb0 => zero_one hgood hb0 dr hdr) ?_)
  intro h9 k9 F9 N9
  clear F8 N8
  dsimp only
  -- the orders
  refine wpN_execs_cons (s10 w mean mg mb h₀ L fa cd ex6 o1 o2 o3' o4 o5 v4 _ _ _ _ _ _ _ D4 c (ords 3 [1, 2, 3, 4]) ps ⟨_, _, _, _, _⟩ _ B X T d2 d4 hc6 hgood (fun bd row hr => net_thr hr hgood) hex6 ho6 (by decide +kernel) ords4 F9 N9 ?_)
  intro row' told' cut' o4' v4' h10 k10 d4' F10 N10
  clear F9 N9
  dsimp only
  -- more
  refine wpN_execs_cons (s11 w mean mg mb h₀ L fa cd ⟨_, _, _, _, _⟩ ex6 o1 o2 o3' o4' o5 _ _ _ _ _ _ _ sc c vs ns ps _ B X T hL hI hlen d2 hc6 hps F10 N10 ?_)
  intro D11 oD11 tup p h11 k11 F11 N11 ha11 hc11 hp
  clear F10 N10
  have N11' : News h₀ L h11 (cells L o1 o2 o3' o4' o5 ((D11, oD11) :: ([tup] ++ ex6))) := news_ins N11
  have hex11 : Away L ((D11, oD11) :: ([tup] ++ ex6)) := away_app (a := [(D11, oD11), tup]) ha11 hex6
  refine store_more F11 N11' d5 hex11 fun h12 o5' d5' F12 N12 => ?_
  clear F11 N11 N11'
  dsimp only
  have hsub11 : ∀ q ∈ ex6, q ∈ (D11, oD11) :: ([tup] ++ ex6) := fun q hq => List.mem_cons_of_mem _ (List.mem_append_right _ hq)
  -- the last question
  have hgood' : ∀ q ∈ ps ++ [p], GoodPair q := fun q hq => by
    rcases List.mem_append.mp hq with hq | hq
    · exact hgood q hq
    · rw [List.mem_singleton.mp hq]; exact hp
  refine wpN_execs_cons (s12 w mean mg mb h₀ L fa cd ⟨_, _, _, _, _⟩ ((D11, oD11) :: ([tup] ++ ex6)) o1 o2 o3' o4' o5' _ _ _ _ _ _ _ D11 D3 D5 (bads ps) (ps ++ [p]) (zrows 16) _ B X T F12 N12 d5' d3' (hb6.mono hsub11) hc11 hgood' (hz6.mono hsub11) (by decide +kernel) zrows4 ?_)
  intro h13 k13 F13
  rw [more_ok hp]
  exact hret h13 k13 F13.keep
end Mine
end

section
open PySem PySem.W PySem.Calls PyProof.Rows PyProof.Rows.LCg
set_option maxRecDepth 100000
namespace Mine
def fnParams (n : Nat) : Arguments := match PySem.Challenge.pw_zw0001_01.main.body[n]? with
  | some (.FunctionDef _ p _ _ _ _ _ _ _ _) => p
  | _ => { posonlyargs := [], args := [], vararg := none, kwonlyargs := [], kw_defaults := [], kwarg := none, defaults := [] }
theorem lmap_start {sc : Addr} (y : Str) : (if y = Str.ofString "script" then some (Value.ref sc) else none) = lMap (some (.ref sc)) none none none none none none none y := by
  unfold lMap
  by_cases h0 : y = Str.ofString "script"
  · rw [if_pos h0, if_pos h0]
  · rw [if_neg h0, if_neg h0]
    simp
theorem lawN (w : World) (mean : ExcName → Option Value) (mg mb : Str → Option Value) (s : Shared) (fa : Addr) (fo : Obj) (pm cd doc : Value) (sc : Addr) (vs : List Value) (ns : List Int) (Q E : Value → Shared → Prop)
    (X : (Mine.hd.heap_39 w.params).In s.heap) (T : Top Mine.hd.view_39 (looseW Mine.hd.view_39 []) mean mg mb s.heap) (B : Below callerA s.heap [] s.heap)
    (ho : s.heap.get? fa = some fo) (hd : fo.data = .func (docDef (Str.ofString "law") (fnParams 7) (fnBody 7) (fnScope 7) pm cd doc)) (hcd : s.heap.CodeRec cd (Str.ofString "law"))
    (hL : s.heap.IsList sc vs.toArray) (hI : IntsAre vs ns) (hlen : ns.length ≤ 63)
    (hret : ∀ h' tk', Grow s.heap h' → Q (.bool true) { s with heap := h', toks := tk' }) :
    wpN (model PySem.Challenge.rw_zw0001_01.prog w) callerA (call (.ref fa) [.ref sc]) Q E s := by
  have hbody : fnBody 7 = [stmt 0, stmt 1, stmt 2, stmt 3, stmt 4, stmt 5, stmt 6, stmt 7, stmt 8, stmt 9, stmt 10, stmt 11, stmt 12] := rfl
  refine wpN_call (enter_topN T.nolimit ho hd hcd (binds := [(Str.ofString "script", .ref sc)]) (BindsTo.of_eq rfl) (by rfl) (by decide) ?_ rfl rfl rfl)
  intro h₁ tk cs F N Y
  rw [hbody]
  have Y' : CellsAre _ [(Str.ofString "more", s.heap.objs.size + 1 + 1 + 1 + 1 + 1), (Str.ofString "bound", s.heap.objs.size + 1 + 1 + 1 + 1), (Str.ofString "bad", s.heap.objs.size + 1 + 1 + 1), (Str.ofString "comparisons", s.heap.objs.size + 1 + 1), (Str.ofString "pairs", s.heap.objs.size + 1)] cs := Y
  obtain ⟨o5, o4, o3, o2, o1, he, d5, d4, d3, d2, d1⟩ := kc_five Y'
  subst he
  have d1' : o1.data = .cell none := d1
  have d2' : o2.data = .cell none := d2
  have d3' : o3.data = .cell none := d3
  have d4' : o4.data = .cell none := d4
  have d5' : o5.data = .cell none := d5
  clear Y Y' d1 d2 d3 d4 d5
  have F₁ : Fr s.heap s.heap.objs.size h₁ (lMap (some (.ref sc)) none none none none none none none) := Fr.eqv F fun y => lmap_start y
  have N₁ : News s.heap s.heap.objs.size h₁ (cells s.heap.objs.size o1 o2 o3 o4 o5 []) := N
  clear F N
  show wpN _ (callerA.deeper (lEnv s.heap.objs.size fa cd)) (execs _ (lEnv s.heap.objs.size fa cd)) _ _ _
  generalize s.heap.objs.size = L at F₁ N₁ ⊢
  -- pairs
  refine wpN_execs_cons (s0_pairs w mean mg mb s.heap L fa cd _ ⟨_, _, _, _, _⟩ (cells L o1 o2 o3 o4 o5 []) _ B X T F₁ N₁ ?_)
  intro D y0 tups h2 k2 F2 N2' hDb htb hps
  have N2 := news_ins N2'
  have hex2 : Away L ((D, lst y0) :: (tups ++ [])) := by
    refine away_cons (o1 := o1) (o2 := o2) (o3 := o3) (o4 := o4) (o5 := o5) (ex := []) hDb ?_
    rw [List.append_nil]
    exact away_all fun p hp => htb p hp (L + 1 + 1 + 1 + 1 + 1, o5) List.mem_cons_self
  have hc2 : CmpIn ((D, lst y0) :: (tups ++ [])) D (pairsTo 4) := ⟨y0, lst y0, y0.length, List.mem_cons_self, rfl, rfl, hps.mono fun q hq => List.mem_cons_of_mem _ (List.mem_append_left _ hq)⟩
  generalize (D, lst y0) :: (tups ++ []) = ex2 at N2 hex2 hc2
  clear N2' hDb htb hps F₁ N₁
  refine store_pairs F2 N2 d1' hex2 fun h3 o1' d1 F3 N3 => ?_
  clear F2 N2
  dsimp only
  -- comparisons
  refine wpN_execs_cons (s1 w mean mg mb s.heap L fa cd ⟨_, _, _, _, _⟩ ex2 o1' o2 o3 o4 o5 _ _ _ _ _ _ _ sc D vs ns _ B X T hL hI hlen d1 hc2 F3 N3 ?_)
  intro D4 oD4 tups4 h4 k4 F4 N4' ha4 hc4
  have N4 := news_ins N4'
  have hex4 : Away L ((D4, oD4) :: (tups4 ++ ex2)) := away_app (a := (D4, oD4) :: tups4) ha4 hex2
  generalize (D4, oD4) :: (tups4 ++ ex2) = ex4 at N4 hex4 hc4
  clear N4' ha4 F3 N3
  refine store_comparisons F4 N4 d2' hex4 fun h5 o2' d2 F5 N5 => ?_
  clear F4 N4
  dsimp only
  have hgood : ∀ p ∈ (ns.take 6).map prOf, GoodPair p := fun p hp => by
    obtain ⟨n, _, rfl⟩ := List.mem_map.mp hp
    exact prOf_good n
  have hfew : ((ns.take 6).map prOf).length ≤ 6 := by rw [List.length_map, List.length_take]; omega
  generalize (ns.take 6).map prOf = ps at hgood hfew hc4
  -- under the parity
  refine wpN_execs_cons (s2 w mean mg mb s.heap L fa cd ⟨_, _, _, _, _⟩ ex4 o1' o2' o3 o4 o5 _ _ _ _ _ _ _ sc D4 vs ns ps _ B X T hL hI hlen d2 hc4 (by omega) F5 N5 ?_ ?_)
  · intro hodd h6 k6 F6 N6
    dsimp only
    refine law_tail w mean mg mb s.heap L fa cd ⟨_, _, _, _, _⟩ ex4 o1' o2' o3 o4 o5 none none none sc D4 vs ns ps _ B X T hL hI hlen d2 d3' d4' d5' hc4 hgood (by omega) (fun h => absurd h hodd) hex4 F6 N6 ?_
    intro h' tk' hG
    exact hret h' tk' hG
  · intro hev D6 oD6 tups6 h6 k6 F6 N6' ha6 hc6
    have N6 := news_ins N6'
    have hex6 : Away L ((D6, oD6) :: (tups6 ++ ex4)) := away_app (a := (D6, oD6) :: tups6) ha6 hex4
    refine store_comparisons F6 N6 d2 hex6 fun h7 o2'' d2'' F7 N7 => ?_
    dsimp only
    have hgood' : ∀ q ∈ ps ++ net5, GoodPair q := fun q hq => by
      rcases List.mem_append.mp hq with hq | hq
      · exact hgood q hq
      · exact net5_good q hq
    refine law_tail w mean mg mb s.heap L fa cd ⟨_, _, _, _, _⟩ _ o1' o2'' o3 o4 o5 none none none sc D6 vs ns (ps ++ net5) _ B X T hL hI hlen d2'' d3' d4' d5' hc6 hgood' (by rw [List.length_append]; have : net5.length = 5 := rfl; omega) (fun _ => even_ok) hex6 F7 N7 ?_
    intro h' tk' hG
    exact hret h' tk' hG
end Mine
end

section
open PySem PySem.W PySem.Calls PyProof.Rows
namespace Mine
theorem post_true (A B : List WData) :
    (WShape.has [] (.bool true) .bool && WTm.holds [] (.eq .res (.lit (.bool true))) { args := A, res := some (.bool true), after := B }) = true := by
  simp [WTm.holds, WTm.value, WShape.has, WShape.arms, same]
theorem post_true2 (A B : List WData) : PySem.Challenge.rw_zw0001_01.row.claim.post A (.bool true) B = true := post_true A B
end Mine
set_option maxRecDepth 100000 in
set_option maxHeartbeats 8000000 in
theorem PySem.Challenge.cw_zw0001_01_holds : PySem.Challenge.rw_zw0001_01.Holds := by
  w_on; o_law
  have hh := @Mine.holdsND
  revert hh
  intro PySem.W.holds_open
  k_head
  (case hw => w_witness2)
  intro w s₀ s₁ mg mb G Y fa o pm cd doc dV kV ho hd hcd hD hmg hg args vals as hpre hlay hrd hwl hlo
  have KX := kIn_of Y
  have e1 : dV = .none := by rcases hD.pos with h | h; exact h.2; exact absurd rfl h.1
  have e2 : kV = .none := by rcases hD.kw with h | h; exact h.2; exact absurd rfl h.1
  subst e1
  subst e2
  refine Ground.open G ?_
  intro T B D TE TW
  wrow_args hpre hlay hrd hwl hlo
  have X : (Mine.hd.heap_39 w.params).In s₁.heap := KX
  have T' : Top Mine.hd.view_39 (looseW Mine.hd.view_39 []) (ExcName.means s₀.heap) mg mb s₁.heap := T
  have K0 := below_caller (Top.heap T)
  rename IntsAre _ _ => hI
  rename Heap.IsList _ _ _ => hL
  refine Mine.lawN w (ExcName.means s₀.heap) mg mb s₁ fa o pm cd doc _ _ _ _ _ X T' K0 ho hd hcd hL hI (by omega) ?_
  intro h' tk' hG
  refine GoodW.toG ⟨.inl ⟨.bool true, .bool true, [], rfl, fun _ => rfl, .bool _, ?_, fun _ => ⟨List.nodup_nil, fun _ h => nomatch h⟩⟩, hG, rfl, hg⟩
  exact Mine.post_true2 _ _
end

