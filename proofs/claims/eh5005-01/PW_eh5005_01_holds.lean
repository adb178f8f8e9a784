import PyProof.Rows.All
import Wide.All
import OpenK.AllK
import Wide.FinOn
import PySem.Challenge.RW_eh5005_01
set_option Elab.async false

/-! W1 -/
section
open PySem PySem.W PyProof.Rows PySem.Calls
open PySem.Sem (wp)
namespace Mine

/-! A logic over clean stacks: no running decoder stands on the stack. -/
def isDec : Code → Bool
  | .builtin id _ => Builtin.Bytes.decodersThatHold.contains id
  | _ => false
def Clean (l : List (Code × Pos)) : Prop := ∀ x ∈ l, isDec x.1 = false

def wpC {α : Type} (M : Model) (A : Around) (t : Sem α) (Q : α → Shared → Prop) (E : Value → Shared → Prop) (s : Shared) : Prop :=
  ∀ Γ p, Γ.In A → isDec Γ.code = false → Clean Γ.below → wp M Γ t (fun a _ s' => Q a s') (fun e _ s' => E e s') p s
def codeC (M : Model) (A : Around) (c : Code) (R : Result → Shared → Prop) (s : Shared) : Prop :=
  ∀ Γ p, Γ.code = c → Γ.Below A → Clean Γ.below → wpCode M Γ R p s

section
variable {α β : Type} {M : Model} {A : Around} {E : Value → Shared → Prop} {s : Shared}
theorem wpC_of {t : Sem α} {Q : α → Shared → Prop} (h : wpAny M A t Q E s) : wpC M A t Q E s := fun Γ p hΓ _ _ => h Γ p hΓ
theorem wpC_mono {t : Sem α} {Q Q' : α → Shared → Prop} {E' : Value → Shared → Prop} (h : wpC M A t Q E s)
    (hQ : ∀ a s, Q a s → Q' a s) (hE : ∀ e s, E e s → E' e s) : wpC M A t Q' E' s :=
  fun Γ p hΓ hd hc => Sem.wp_mono M Γ t (fun a _ s => hQ a s) (fun e _ s => hE e s) p s (h Γ p hΓ hd hc)
theorem wpC_bind {m : Sem α} {f : α → Sem β} {Q : β → Shared → Prop} (h : wpC M A m (fun a s' => wpC M A (f a) Q E s') E s) :
    wpC M A (m >>= f) Q E s := fun Γ p hΓ hd hc => by
  rw [Sem.wp_bind']
  exact Sem.wp_mono M Γ m (fun a p' s' h' => h' Γ p' hΓ hd hc) (fun _ _ _ h' => h') p s (h Γ p hΓ hd hc)
theorem wpC_bindA {m : Sem α} {f : α → Sem β} {Q : β → Shared → Prop} (h : wpAny M A m (fun a s' => wpC M A (f a) Q E s') E s) :
    wpC M A (m >>= f) Q E s := wpC_bind (wpC_of h)
theorem wpC_onRaise {m : Sem α} {k : Value → Sem Unit} {Q : α → Shared → Prop}
    (h : wpC M A m Q (fun e s' => wpAny M A (k e) (fun _ s'' => E e s'') E s') s) : wpC M A (m.onRaise k) Q E s := fun Γ p hΓ hd hc => by
  rw [Sem.wp_onRaise]
  exact Sem.wp_mono M Γ m (fun _ _ _ h' => h') (fun e p' s' h' => h' Γ p' hΓ) p s (h Γ p hΓ hd hc)
theorem wpC_holding {vs : List Value} {m : Sem α} {Q : α → Shared → Prop} (h : wpC M A m Q E s) : wpC M A (holding vs m) Q E s :=
  fun Γ p hΓ hd hc => by rw [Sem.wp_holding]; exact h Γ p hΓ hd hc
theorem codeC_mono {c : Code} {R R' : Result → Shared → Prop} (h : codeC M A c R s) (hR : ∀ r s, R r s → R' r s) : codeC M A c R' s :=
  fun Γ p hc hΓ hl => wpCode_mono hR (h Γ p hc hΓ hl)
theorem codeC_of {c : Code} {R : Result → Shared → Prop} (h : codeAny M A c R s) : codeC M A c R s := fun Γ p hc hΓ _ => h Γ p hc hΓ

theorem clean_enter {Γ : Ctx} {c : Code} {h : Option Value} {p : Pos} (hd : isDec Γ.code = false) (hc : Clean Γ.below) : Clean (Γ.enter c h p).below := by
  intro x hx
  rcases List.mem_cons.mp hx with rfl | hx
  · exact hd
  · exact hc x hx
theorem wpC_run {c : Code} {h : Option Value} {Q : Flow → Shared → Prop}
    (hc : codeC M (A.mark h) c (fun r s' => match r with | .ok f => Q f s' | .error e => E e s') s) (hnb : h ≠ some byPass := by intro x; cases x) :
    wpC M A (run c h) Q E s :=
  fun Γ p hΓ hd hl => by rw [Sem.wp_run]; exact hc _ p rfl (hΓ.enter c h p hnb) (clean_enter hd hl)
theorem wpC_runValue {c : Code} {Q : Value → Shared → Prop}
    (hc : codeC M A c (fun r s' => match r with | .ok (.ret v) => Q v s' | .ok _ => False | .error e => E e s') s) :
    wpC M A (runValue c) Q E s := fun Γ p hΓ hd hl => by rw [Sem.wp_runValue]; exact hc _ p rfl (hΓ.enter c none p (by intro x; cases x)) (clean_enter hd hl)
theorem wpC_call {f : Value} {pos : List Value} {kw : List (Str × Value)} {Q : Value → Shared → Prop}
    (hc : codeC M A (.call f ⟨pos, kw⟩) (fun r s' => match r with | .ok (.ret v) => Q v s' | .ok _ => False | .error e => E e s') s) :
    wpC M A (call f pos kw) Q E s := wpC_runValue hc
theorem codeC_of_tree {c : Code} {R : Result → Shared → Prop} (hd : isDec c = false)
    (h : wpC M (A.under c) (M.den c) (fun fin s' => match fin with | .done f => R (.ok f) s' | .again c' => c'.quiet = true ∧ codeC M A c' R s')
      (fun e s' => R (.error e) s') s) : codeC M A c R s := fun Γ p hc hΓ hl => by
  rw [wpCode_iff_wp, hc]
  refine Sem.wp_mono M Γ _ (fun fin p' s' h' => ?_) (fun _ _ _ h' => h') p s (h Γ p (hc ▸ hΓ.in) (by rw [hc]; exact hd) hl)
  cases fin with
  | done f => exact h'
  | again c' => exact ⟨h'.1, h'.2 (Γ.goto c') p' rfl (hΓ.goto c') hl⟩
theorem guard_not {id : String} {args : Args} (h : guardIds.contains id = true) (hng : (Code.builtin id args).isGuard = false) : False := by
  rw [show (Code.builtin id args).isGuard = guardIds.contains id from rfl, h] at hng
  cases hng
/-- the stack of a clean run: no entry lends the object out -/
theorem wpC_exported_false {a : Addr} {Q : Bool → Shared → Prop} (hg : A.guards = some []) (h : Q false s) : wpC M A (Builtin.Bytes.exported (.ref a)) Q E s := by
  intro Γ p hΓ hd hl
  unfold Builtin.Bytes.exported
  rw [Sem.wp_bind']
  show Q (List.any ((Γ.code, p) :: Γ.below) _) s
  refine cast (congrArg (fun b => Q b s) ?_) h
  symm
  rw [List.any_eq_false]
  intro x hx
  obtain ⟨c, q⟩ := x
  have hgu : guardsOf ((Γ.code, p) :: Γ.below) = [] := by rw [guardsOf_cons]; exact hΓ.2.2.2.1 _ hg
  have hdec : isDec c = false := by
    rcases List.mem_cons.mp hx with e | hx
    · cases e; exact hd
    · exact hl _ hx
  have hng : c.isGuard = false := by
    cases hq : c.isGuard with
    | false => rfl
    | true =>
      have : c ∈ guardsOf ((Γ.code, p) :: Γ.below) := List.mem_filter.mpr ⟨List.mem_map.mpr ⟨(c, q), hx, rfl⟩, hq⟩
      rw [hgu] at this
      cases this
  split
  · rename_i h1; cases h1; exact (guard_not (id := "bytearray.__contains__") (by decide) hng).elim
  · rename_i h1; cases h1; exact (guard_not (id := "bytearray.__mod__") (by decide) hng).elim
  · rename_i h1; cases h1; exact (guard_not (id := "bytearray.__rmod__") (by decide) hng).elim
  · rename_i h1; cases h1; exact (guard_not (id := "_struct.pack_into.held") (by decide) hng).elim
  · rename_i h1; cases h1; exact (guard_not (id := "bytearray.find.held") (by decide) hng).elim
  · rename_i h1; cases h1
    have : Builtin.Bytes.decodersThatHold.contains _ = false := hdec
    rw [this, Bool.and_false]; exact Bool.false_ne_true
  · exact Bool.false_ne_true
end

section
variable {prog : Program} {w : World} {A : Around} {E : Value → Shared → Prop} {s : Shared} {env : Env}
theorem wpC_execs_cons {st rest} {Q : Flow → Shared → Prop}
    (h : wpC (model prog w) A (exec st env) (fun f s' => match f with | .next => wpC (model prog w) A (execs rest env) Q E s' | f => Q f s') E s) :
    wpC (model prog w) A (execs (st :: rest) env) Q E s := by
  rw [execs_cons]
  refine wpC_bind (wpC_mono h (fun f s' h' => ?_) fun _ _ e => e)
  cases f <;> first | exact h' | exact wpC_of (wpAny_pure h')
theorem wpC_execs_step {st rest} {Q : Flow → Shared → Prop}
    (h : wpAny (model prog w) A (exec st env) (fun f s' => match f with | .next => wpC (model prog w) A (execs rest env) Q E s' | f => Q f s') E s) :
    wpC (model prog w) A (execs (st :: rest) env) Q E s := wpC_execs_cons (wpC_of h)
theorem wpC_execs_nil {Q : Flow → Shared → Prop} (h : Q .next s) : wpC (model prog w) A (execs [] env) Q E s := wpC_of (wpAny_pure h)
theorem wpC_If {test body orelse pos} {Q : Flow → Shared → Prop}
    (h : wpAny (model prog w) A (isTrue test env (eval test env))
      (fun b s₂ => (b = true → wpC (model prog w) A (execs body env) Q E s₂) ∧ (b = false → wpC (model prog w) A (execs orelse env) Q E s₂)) E s) :
    wpC (model prog w) A (exec (.If test body orelse pos) env) Q E s := by
  rw [exec_If]
  refine wpC_bindA (wpAny_standAt (wpC_bindA (wpAny_mono h (fun b s₂ h₂ => ?_) fun _ _ e => e)))
  cases b
  · exact h₂.2 rfl
  · exact h₂.1 rfl

theorem codeC_forLoop {R : Result → Shared → Prop} {target it body} (I : Nat → Shared → Prop)
    (turn : ∀ n s, I n s → wpAny (model prog w) A (pyNext it) (fun r s₁ => match r with
      | none => R (.ok .next) s₁
      | some v => wpAny (model prog w) A (assign target env v) (fun _ s₂ => wpC (model prog w) A (execs body env) (fun f s₃ => match f with
          | .next | .cont => ∃ m, m < n ∧ I m s₃
          | .brk => R (.ok .next) s₃
          | .ret v => R (.ok (.ret v)) s₃) (fun _ _ => False) s₂) (fun _ _ => False) s₁) (fun _ _ => False) s)
    (n : Nat) (h : I n s) (ht : ∀ v, letOwnedTupleGo target it v = pure () := by intro _; rfl) : codeC (model prog w) A (.forLoop target it body [] env) R s := by
  induction n using Nat.strongRecOn generalizing s with
  | ind n ih =>
    refine codeC_of_tree rfl ?_
    show wpC _ A ((forTurn target it body [] env).onRaise (fun x => do noteFrame x env; theTreesLotGoes x)) _ _ s
    refine wpC_onRaise (wpC_mono (E := fun _ _ => False) ?_ (fun _ _ q => q) fun _ _ e => e.elim)
    simp only [forTurn]
    refine wpC_bindA (wpAny_standAt (wpC_bindA (wpAny_onRaise (wpAny_mono (turn n s h) (fun r s₁ h₁ => ?_) fun _ _ e => e.elim))))
    cases r with
    | none => exact wpC_of (wpAny_pure ⟨rfl, codeC_of (codeAny_block (wpAny_pure h₁))⟩)
    | some v =>
      refine wpC_bindA (wpAny_of_eq (ht v) ?_)
      refine wpC_bindA (wpAny_mono h₁ (fun _ s₂ h₂ => wpC_bind (wpC_mono h₂ (fun f s₃ h₃ => ?_) fun _ _ h' => h')) fun _ _ h' => h')
      cases f with
      | next => obtain ⟨m, hm, hI⟩ := h₃; exact wpC_of (wpAny_pure ⟨rfl, ih m hm hI⟩)
      | cont => obtain ⟨m, hm, hI⟩ := h₃; exact wpC_of (wpAny_pure ⟨rfl, ih m hm hI⟩)
      | brk => exact wpC_of (wpAny_pure h₃)
      | ret v => exact wpC_of (wpAny_pure h₃)

theorem wpC_For {target iter body pos} {Q : Flow → Shared → Prop}
    (h : wpAny (model prog w) A (eval iter env) (fun x s₁ => wpAny (model prog w) A (pyIter x) (fun it s₂ =>
      codeC (model prog w) A (.forLoop target it body [] env) (fun r s' => match r with | .ok f => Q f s' | .error _ => False) s₂) (fun _ _ => False) s₁) (fun _ _ => False) s)
    (hs : ∀ x, foldedSetIterable iter env x = pure x := by intro _; rfl) :
    wpC (model prog w) A (exec (.For target iter body [] pos) env) Q (fun _ _ => False) s := by
  rw [exec_For]
  refine wpC_bindA (wpAny_standAt (wpC_bindA (wpAny_mono h (fun x s₁ h₁ => wpC_bindA (wpAny_of_eq (hs x) (wpC_bindA (wpAny_standAt (wpC_bindA (wpAny_holding
    (wpAny_mono h₁ (fun it s₂ h₂ => ?_) fun _ _ h' => h'))))))) fun _ _ h' => h')))
  unfold runOwn
  exact wpC_onRaise (wpC_run (codeC_mono h₂ fun r s' hr => by cases r with | ok f => exact hr | error e => exact hr.elim))

theorem wpC_Assign_Name {x px value pos} {Q : Flow → Shared → Prop} (hs : swapsWith value (some (.Name x px)) pos.line env = pure false)
    (h : wpC (model prog w) A (eval value env) (fun v s' => wpAny (model prog w) A (storeName env x v) (fun _ s'' => Q .next s'') E s') E s) :
    wpC (model prog w) A (exec (.Assign [.Name x px] value pos) env) Q E s := by
  have e : exec (.Assign [.Name x px] value pos) env = (do
      standAt pos
      if ← swapsWith value (some (.Name x px)) pos.line env then
        evalThenUse value env (assign (.Name x px) env)
        return .next
      let v ← eval value env
      standAt px
      bindName env x v
      pure .next) := rfl
  rw [e]
  refine wpC_bindA (wpAny_standAt (wpC_bindA (wpAny_of_eq hs ?_)))
  rw [if_neg Bool.false_ne_true]
  exact wpC_bind (wpC_mono h (fun v s' h' => wpC_of (wpAny_bind (wpAny_standAt (wpAny_bind (wpAny_bindName (wpAny_mono h' (fun _ _ q => wpAny_pure q) fun _ _ e => e)))))) fun _ _ e => e)

theorem wpC_callType1 {f x : Str} {pf px pos : Pos} {T : String} {Q : Value → Shared → Prop}
    (h : wpAny (model prog w) A (eval (.Name f pf) env) (fun v s₁ => v = .type T ∧ wpAny (model prog w) A (eval (.Name x px) env) (fun a s₂ => wpC (model prog w) A (call (.type T) [a]) Q E s₂) E s₁) E s) :
    wpC (model prog w) A (eval (.Call (.Name f pf) [.Name x px] [] pos) env) Q E s := by
  show wpC _ _ (eval (.Name f pf) env >>= fun v => callWith pos v [] (backTo pos (starEach [.Name x px] env)) []) _ _ _
  refine wpC_bindA (wpAny_mono h (fun v s₁ h₁ => ?_) fun _ _ e => e)
  obtain ⟨rfl, h₁⟩ := h₁
  unfold callWith
  refine wpC_bindA (wpAny_holding (evalArgs_plain (wpAny_mono (Q := fun vs s₂ => ∃ a, vs = [a] ∧ wpC (model prog w) A (call (.type T) [a]) Q E s₂) ?_ (fun vs s₂ h₂ => ?_) fun _ _ e => e)))
  · exact spliced_cons (wpAny_mono h₁ (fun a s₂ h₂ => spliced_nil ⟨a, rfl, h₂⟩) fun _ _ e => e)
  · obtain ⟨a, rfl, h₂⟩ := h₂
    refine wpC_bindA (wpAny_standAt ?_)
    refine wpC_bindA (wpAny_pure ?_)
    exact wpC_bind (wpC_mono h₂ (fun r s₃ hr => wpC_of (wpAny_bind (wpAny_holding (wpAny_point (wpAny_pure hr))))) fun _ _ e => e)
end
end Mine
end

/-! W2 -/
section
open PySem PySem.W PyProof.Rows PySem.Calls
open PySem.Sem (wp)
set_option maxRecDepth 100000
namespace Mine
namespace BA
open Builtin
theorem mro : mroOf (.type "bytearray") = pure [.type "bytearray", .type "object"] := by rw [mroOf_type]; kernel_rfl
theorem lookup_new : typeLookup (.type "bytearray") "__new__" = pure (some (.builtin "bytearray.__new__")) := by rw [typeLookup_type, builtinLookup_eq_fast]; kernel_rfl
theorem slot_init : Slot "bytearray" "__init__" "bytearray.__init__" :=
  .of (owner := "bytearray") (n := "__init__") (by rw [typeLookup_type, builtinLookup_eq_fast]; kernel_rfl) (by decide +kernel) (by decide +kernel) (by decide +kernel)
    (by first | exact .inl (by decide +kernel) | exact .inr (by decide +kernel)) (by rw [isSubtype_type]; kernel_rfl)
theorem sub : isSubtype (.type "bytearray") (.type "bytearray") = pure true := by rw [isSubtype_type]; kernel_rfl
theorem called : TypeCalled "bytearray" "bytearray.__new__" "bytearray.__init__" :=
  ⟨by decide +kernel, by decide +kernel, ⟨_, _, mro⟩, madeBy_type mro lookup_new (by decide +kernel), by decide +kernel, sub, slot_init⟩
theorem typeCall (a : Value) : checkTypeCall "bytearray" ⟨[a], []⟩ = pure () := by kernel_rfl
theorem newCall (a : Value) : checkBuiltinCall "bytearray.__new__" ⟨[.type "bytearray", a], []⟩ = pure () := by kernel_rfl
theorem entry_new : entryFor table "bytearray.__new__" = some Builtin.«list.__new__» :=
  entryFor_alias (id' := "list.__new__") (by kernel_rfl) (by first | rfl | decide +kernel) (by decide +kernel) (by kernel_rfl)
theorem entry_init : entryFor table "bytearray.__init__" = some Builtin.«bytearray.__init__» := entryFor_of_tree (by kernel_rfl)
theorem args_init (a b : Value) : argsOk "bytearray.__init__" ⟨[a, b], []⟩ := by unfold argsOk; kernel_rfl
theorem bind (v : Value) : Builtin.Bytes.bindOptional "bytearray.__init__" "bytearray" ["source", "encoding", "errors"] [v] [] = pure [some v, none, none] := by kernel_rfl
theorem look_release : typeLookup (.type "bytearray") "__release_buffer__" = pure (some (.builtin "bytearray.__release_buffer__")) := by rw [typeLookup_type, builtinLookup_eq_fast]; kernel_rfl
theorem look_buffer : typeLookup (.type "bytearray") "__buffer__" = pure (some (.builtin "bytearray.__buffer__")) := by rw [typeLookup_type, builtinLookup_eq_fast]; kernel_rfl
theorem no_bytes : typeLookup (.type "bytearray") "__bytes__" = pure none := by rw [typeLookup_type, builtinLookup_eq_fast]; kernel_rfl
theorem noidx : typeLookup (.type "bytearray") "__index__" = pure none := by rw [typeLookup_type, builtinLookup_eq_fast]; kernel_rfl
theorem bytes_noidx : typeLookup (.type "bytes") "__index__" = pure none := by rw [typeLookup_type, builtinLookup_eq_fast]; kernel_rfl

section
variable {M : Model} {A : Around} {E : Value → Shared → Prop} {s : Shared} {a : Addr} {b : Array UInt8} {n : Nat}
theorem own_slot {name : String} {id : String} {Q : Bool → Shared → Prop} (hT : s.TypeIs (.ref a) "bytearray") (hl : typeLookup (.type "bytearray") (name : Str) = pure (some (.builtin id)))
    (he : id.endsWith ("." ++ name) = true) (hd : id.dropRight (name.length + 1) = "bytearray") (h : Q true s) : wpAny M A (Bytes.slotIsOwn (.ref a) name) Q E s := by
  unfold Bytes.slotIsOwn
  refine wpAny_bind (wpAny_specialOf hT hl ?_)
  show wpAny _ _ (if (!id.endsWith ("." ++ name)) = true then _ else _) _ _ _
  rw [he]
  show wpAny _ _ (isInstance (.ref a) (.type (id.dropRight (name.length + 1)))) _ _ _
  rw [hd]
  exact wpAny_isInstance hT sub h
theorem ownRelease_false {Q : Bool → Shared → Prop} (hT : s.TypeIs (.ref a) "bytearray") (h : Q false s) : wpAny M A (Bytes.ownRelease (.ref a)) Q E s := by
  unfold Bytes.ownRelease
  exact wpAny_bind (own_slot hT look_release (by decide +kernel) (by decide +kernel) (wpAny_pure h))
theorem buffer {id : String} {full : Bool} {Q : Option (Array UInt8) → Shared → Prop} (ho : s.heap.get? a = some { cls := .type "bytearray", data := .bytearray b n }) (h : Q (some b) s) : wpAny M A (Bytes.buffer? id (.ref a) full) Q E s := by
  have hT : s.TypeIs (.ref a) "bytearray" := ⟨_, ho, rfl⟩
  unfold Bytes.buffer?
  refine wpAny_bind (wpAny_specialOf hT look_buffer ?_)
  refine wpAny_bind (own_slot hT look_buffer (by decide +kernel) (by decide +kernel) ?_)
  refine bm_if_false rfl ?_
  refine wpAny_bind (wpAny_specialOf hT look_buffer ?_)
  refine wpAny_bind (ownRelease_false hT ?_)
  refine wpAny_bind ?_
  unfold Bytes.payload Bytes.payload?
  refine wpAny_bind (wpAny_bind (wpAny_load ho ?_))
  exact wpAny_pure (wpAny_pure (wpAny_pure h))
end
end BA
end Mine
end

/-! W3 -/
section
open PySem PySem.W PyProof.Rows PySem.Calls
open PySem.Sem (wp)
set_option maxRecDepth 100000
namespace Mine
open Builtin
section
variable {prog : Program} {w : World} {A : Around} {E : Value → Shared → Prop} {s : Shared} {a : Addr} {b : Array UInt8} {n : Nat} {t u : Tok} {Q : Value → Shared → Prop}

/-! bytes(b) of bytes; bytes(x) of a bytearray -/
theorem bytes_ne : (some "bytes.__new__" != some "object.__new__") = true := by decide +kernel
theorem bytes_dbytes : typeLookup (.type "bytes") "__bytes__" = pure (some (.builtin "bytes.__bytes__")) := by rw [typeLookup_type, builtinLookup_eq_fast]; kernel_rfl

theorem meets_bytes_bytes : Meets (Builtin.«bytes.__new__» ⟨[.type "bytes", .bytes b t], []⟩) (fun _ R s => R (.ok (.ret (.bytes b t))) s) := by
  refine .of_wp fun prog w A R s hq => ?_
  unfold Builtin.«bytes.__new__»
  refine wpAny_bind (wpAny_of_eq (a := true) rfl ?_)
  refine bm_if_false rfl ?_
  refine wpAny_bind (wpAny_of_eq F.bm_sub ?_)
  refine bm_if_false rfl ?_
  refine wpAny_bind (wpAny_of_eq (F.bm_bind _) ?_)
  refine wpAny_bind (wpAny_of_eq (a := ()) rfl ?_)
  refine wpAny_bind (wpAny_of_eq (a := ()) rfl ?_)
  refine bm_if_false rfl ?_
  refine wpAny_bind (wpAny_specialOf (typeIs_bytes s b t) bytes_dbytes ?_)
  refine wpAny_bind (wpAny_rule ?_)
  refine wpAny_bind (wpAny_typeOf (typeIs_bytes s b t) ?_)
  refine bm_if_true (by decide) ?_
  exact wpAny_pure ⟨_, rfl, hq⟩

theorem meets_bytes_array : Meets (Builtin.«bytes.__new__» ⟨[.type "bytes", .ref a], []⟩) (fun _ R s => s.heap.get? a = some { cls := .type "bytearray", data := .bytearray b n } ∧ b.size ≤ sizeLine ∧ ∀ t k, R (.ok (.ret (.bytes b t))) { s with toks := k }) := by
  refine .of_wp fun prog w A R s hq => ?_
  obtain ⟨ho, hz, hq⟩ := hq
  have hT : s.TypeIs (.ref a) "bytearray" := ⟨_, ho, rfl⟩
  unfold Builtin.«bytes.__new__»
  refine wpAny_bind (wpAny_of_eq (a := true) rfl ?_)
  refine bm_if_false rfl ?_
  refine wpAny_bind (wpAny_of_eq F.bm_sub ?_)
  refine bm_if_false rfl ?_
  refine wpAny_bind (wpAny_of_eq (F.bm_bind _) ?_)
  refine wpAny_bind (wpAny_of_eq (a := ()) rfl ?_)
  refine wpAny_bind (wpAny_of_eq (a := ()) rfl ?_)
  refine bm_if_false rfl ?_
  refine wpAny_bind (wpAny_specialOf hT BA.no_bytes ?_)
  refine wpAny_bind (wpAny_bind ?_)
  show wpAny _ _ (load a >>= _) _ _ _
  refine wpAny_bind (wpAny_load ho ?_)
  refine wpAny_pure (wpAny_pure ?_)
  refine bm_if_false rfl ?_
  refine wpAny_bind (wpAny_specialOf hT BA.noidx ?_)
  refine bm_if_true rfl ?_
  show wpAny _ _ (Builtin.Bytes.buffer? "bytes.__new__" (.ref a) true >>= _) _ _ _
  refine wpAny_bind (BA.buffer ho ?_)
  refine wpAny_bind (wpAny_rule ?_)
  refine wpAny_bind (wpAny_mkBytes ?_ hz)
  show wpAny _ _ (if (Value.type "bytes" == Value.type "bytes") = true then _ else _) _ _ _
  refine bm_if_true (by decide) ?_
  exact wpAny_bind (wpAny_pure (wpAny_pure ⟨_, rfl, hq _ _⟩))

theorem call_bytes_bytes (h : Q (.bytes b t) s) : wpAny (model prog w) A (call (.type "bytes") [.bytes b t]) Q E s :=
  callType_new F.bm_called bytes_ne (F.bm_typeCall _) (F.bm_newCall _) (fun obj => F.args_object_init_2 obj _) F.bm_entry meets_bytes_bytes (show _ ∧ _ from ⟨typeIs_bytes _ _ _, h⟩)
theorem call_bytes_array (ho : s.heap.get? a = some { cls := .type "bytearray", data := .bytearray b n }) (hz : b.size ≤ sizeLine) (h : ∀ t k, Q (.bytes b t) { s with toks := k }) :
    wpAny (model prog w) A (call (.type "bytes") [.ref a]) Q E s :=
  callType_new F.bm_called bytes_ne (F.bm_typeCall _) (F.bm_newCall _) (fun obj => F.args_object_init_2 obj _) F.bm_entry meets_bytes_array ⟨ho, hz, fun t k => (show _ ∧ _ from ⟨typeIs_bytes _ _ _, h t k⟩)⟩
end
end Mine
end

/-! W4 -/
section
open PySem PySem.W PyProof.Rows PySem.Calls
open PySem.Sem (wp)
set_option maxRecDepth 100000
namespace Mine
open Builtin
section
variable {prog : Program} {w : World} {A : Around} {E : Value → Shared → Prop} {s : Shared} {a : Addr} {b : Array UInt8} {n : Nat} {t u : Tok} {Q : Value → Shared → Prop}

theorem wpC_if_false {α : Type} {M : Model} {c : Bool} {x y : Sem α} {Q : α → Shared → Prop} (hc : c = false) (h : wpC M A y Q E s) : wpC M A (if c = true then x else y) Q E s := by
  subst hc
  exact h
theorem wpC_if_true {α : Type} {M : Model} {c : Bool} {x y : Sem α} {Q : α → Shared → Prop} (hc : c = true) (h : wpC M A x Q E s) : wpC M A (if c = true then x else y) Q E s := by
  subst hc
  exact h
theorem den_builtin {id : String} {args : Args} {bi : Builtin} (hb : entryFor table id = some bi) : (model prog w).den (.builtin id args) = bi args := by
  show (match entryFor table id with | some b => b args | none => unsupported ((withoutEnding? id "#data").getD id)) = _
  rw [hb]
theorem isDec_of {id : String} {args : Args} (h : Builtin.Bytes.decodersThatHold.contains id = false) : isDec (.builtin id args) = false := h
/-- bytearray.__new__ -/
theorem array_new {v : Value} (h : Q (.ref s.heap.objs.size) { s with heap := s.heap.push { cls := .type "bytearray", data := .bytearray #[] } }) :
    wpAny (model prog w) A (call (.builtin "bytearray.__new__") [.type "bytearray", v]) Q E s := by
  refine wpAny_call (codeAny_of_tree ?_)
  show wpAny _ A.in1 (do checkBuiltinCall "bytearray.__new__" ⟨[.type "bytearray", v], []⟩; again (.builtin "bytearray.__new__" ⟨[.type "bytearray", v], []⟩)) _ _ s
  refine wpAny_bind (wpAny_of_eq (BA.newCall _) (wpAny_pure ⟨plainId_quiet (by decide +kernel) _, codeAny_of_own ?_⟩))
  rw [den_builtin BA.entry_new]
  unfold Builtin.«list.__new__»
  refine wpOwn_bind (wpOwn_stack fun p below _ _ _ => ?_)
  dsimp only
  refine wpOwn_of_wpAny ?_
  rw [Around.under_plainId (by decide +kernel) _]
  have ho : ("bytearray.__new__".splitOn ".__new__").headD "" = "bytearray" := by simp +decide [String.splitOn, String.splitOnAux]
  rw [ho]
  refine wpAny_bind (wpAny_of_eq (a := true) (by first | rfl | kernel_rfl) ?_)
  refine bm_if_false rfl ?_
  refine wpAny_bind (wpAny_of_eq BA.sub ?_)
  refine bm_if_false rfl ?_
  refine wpAny_bind (wpAny_of_eq (a := Data.bytearray #[]) (by first | rfl | kernel_rfl) ?_)
  refine bm_if_true (by decide +kernel) ?_
  exact wpAny_bind (wpAny_newObj_type (wpAny_pure h) (Nat.zero_le _))

theorem write_array {b c : Array UInt8} {n : Nat} {E : Value → Shared → Prop} {M : Model} {Q : Unit → Shared → Prop} (ho : s.heap.get? a = some { cls := .type "bytearray", data := .bytearray b n }) (hz : c.size ≤ sizeLine)
    (h : ∀ h', h'.get? a = some { cls := .type "bytearray", data := .bytearray c n } → Heap.SameBut a s.heap h' → Q () { s with heap := h' }) :
    wpAny M A (Bytes.write (.ref a) fun _ => c) Q E s := by
  show wpAny _ _ (updateBytearray a fun _ => c) _ _ _
  unfold updateBytearray
  refine wpAny_bind (wpAny_load ho ?_)
  show wpAny _ _ (update a (Obj.mapBytearray fun _ => c) >>= fun _ => lookBehind a) _ _ _
  have h2 : (s.heap.update a (Obj.mapBytearray fun _ => c)).get? a = some { cls := .type "bytearray", data := .bytearray c n } := Heap.get?_update_self (Obj.mapBytearray fun _ => c) ho rfl
  refine wpAny_bind (wpAny_update ho (wpAny_lookBehind h2 ?_ (h _ h2 (Heap.SameBut.update ..))))
  show (if c.size > sizeLine then some "bytearray:memory" else none) = none
  rw [if_neg (Nat.not_lt.mpr hz)]

/-- bytearray.__init__ upon a new one -/
theorem array_init (hg : A.guards = some []) (hz : b.size ≤ sizeLine) (ho : s.heap.get? a = some { cls := .type "bytearray", data := .bytearray #[] })
    (h : ∀ h', h'.get? a = some { cls := .type "bytearray", data := .bytearray b } → Heap.SameBut a s.heap h' → Q .none { s with heap := h' }) :
    wpC (model prog w) A (call (.builtin "bytearray.__init__") [.ref a, .bytes b t]) Q E s := by
  have hT : s.TypeIs (.ref a) "bytearray" := ⟨_, ho, rfl⟩
  refine wpC_call (codeC_of_tree rfl ?_)
  show wpC _ A.in1 (do checkBuiltinCall "bytearray.__init__" ⟨[.ref a, .bytes b t], []⟩; again (.builtin "bytearray.__init__" ⟨[.ref a, .bytes b t], []⟩)) _ _ s
  refine wpC_bindA (BA.slot_init.check _ _ _ _ _ _ _ _ hT (BA.args_init _ _) (wpC_of (wpAny_pure ⟨plainId_quiet (by decide +kernel) _, ?_⟩)))
  refine codeC_of_tree (isDec_of (by decide +kernel)) ?_
  rw [den_builtin BA.entry_init, Around.under_plainId (by decide +kernel) _]
  unfold Builtin.«bytearray.__init__»
  refine wpC_bindA (BA.ownRelease_false hT ?_)
  refine wpC_if_false rfl ?_
  refine wpC_bindA (wpAny_of_eq (BA.bind _) ?_)
  refine wpC_bindA (wpAny_of_eq (a := ()) rfl ?_)
  refine wpC_bindA (wpAny_of_eq (a := ()) rfl ?_)
  refine wpC_bind (wpC_bind ?_)
  refine wpC_exported_false hg ?_
  show wpC _ _ (Bytes.exportsOf (.ref a) >>= _) _ _ _
  refine wpC_bindA ?_
  unfold Bytes.exportsOf
  refine wpAny_bind (wpAny_load ho ?_)
  refine wpAny_pure (wpC_of (wpAny_pure ?_))
  refine wpC_if_false rfl (wpC_of ?_)
  refine wpAny_bind (write_array ho (Nat.zero_le _) fun h' ho' hs' => ?_)
  show wpAny _ _ (asStr? (.bytes b t) >>= _) _ _ _
  refine wpAny_bind (wpAny_of_eq (a := none) rfl ?_)
  refine bm_if_false rfl ?_
  refine wpAny_bind (wpAny_of_eq (a := ()) rfl ?_)
  refine wpAny_bind (wpAny_specialOf (typeIs_bytes _ b t) BA.bytes_noidx ?_)
  refine bm_if_false rfl ?_
  refine wpAny_bind (wpAny_of_eq KBy.buffer_eq ?_)
  refine wpAny_bind (wpAny_rule ?_)
  refine wpAny_bind (write_array ho' hz fun h2 ho2 hs2 => ?_)
  exact wpAny_pure (h h2 ho2 (hs'.trans hs2))

/-- bytearray(b) on a clean stack -/
theorem call_bytearray (hg : A.guards = some []) (hz : b.size ≤ sizeLine)
    (h : ∀ h', (∀ c o, s.heap.get? c = some o → h'.get? c = some o) → h'.get? s.heap.objs.size = some { cls := .type "bytearray", data := .bytearray b } → Q (.ref s.heap.objs.size) { s with heap := h' }) :
    wpC (model prog w) A (call (.type "bytearray") [.bytes b t]) Q E s := by
  refine wpC_call (codeC_of_tree rfl ?_)
  show wpC _ _ (callAny (.type "bytearray") _) _ _ _
  refine wpC_of (wpAny_pure ⟨Code.quiet_builtin _ (by decide +kernel), ?_⟩)
  refine codeC_of_tree (isDec_of (by decide +kernel)) ?_
  rw [den_builtin F.entry_type_call, Around.under_plain (weight_type_call_type _ _ _) (units_type_call_type _ _ _)]
  unfold Builtin.«type.__call__»
  dsimp only
  refine wpC_if_false BA.called.notType ?_
  refine wpC_if_false BA.called.canCreate ?_
  refine wpC_bindA (wpAny_of_eq (BA.typeCall _) ?_)
  refine wpC_bindA (wpAny_of_eq BA.mro ?_)
  refine wpC_if_false rfl ?_
  refine wpC_bindA (wpAny_of_eq BA.called.made ?_)
  refine wpC_bindA (wpAny_pure ?_)
  refine wpC_bindA (wpAny_holding (array_new ?_))
  have hnew : (s.heap.push { cls := .type "bytearray", data := .bytearray #[] }).get? s.heap.objs.size = some { cls := .type "bytearray", data := .bytearray #[] } := Heap.get?_push_size _ rfl
  have hT : ({ s with heap := s.heap.push { cls := .type "bytearray", data := .bytearray #[] } } : Shared).TypeIs (.ref s.heap.objs.size) "bytearray" := ⟨_, hnew, rfl⟩
  refine wpC_bindA (wpAny_isInstance hT BA.sub ?_)
  refine wpC_if_false rfl ?_
  refine wpC_bind (wpC_holding ?_)
  unfold callSpecial?
  refine wpC_bindA (wpAny_specialOf hT BA.slot_init.lookup ?_)
  dsimp only
  rw [BA.slot_init.bind]
  refine wpC_holding (wpC_bindA (wpAny_pure ?_))
  refine wpC_bind ?_
  refine array_init (t := t) hg hz hnew fun h' ho' hs' => wpC_of (wpAny_pure ?_)
  refine wpC_if_false rfl (wpC_of (wpAny_pure ?_))
  exact h h' (fun c o e => hs'.extBut c o (Nat.ne_of_lt (Heap.lt_size e)) (Heap.get?_push_of_some _ e)) ho'
end
end Mine
end

/-! W5 -/
section
open PySem PySem.W PyProof.Rows PySem.Calls
open PySem.Sem (wp)
set_option maxRecDepth 100000
namespace Mine
open Builtin

/-! bytes.hex -/
def hexDig (n : Nat) : Nat := if n < 10 then 48 + n else 87 + n
def hexList (l : List UInt8) : List Nat := l.flatMap fun c => [hexDig (c.toNat / 16), hexDig (c.toNat % 16)]
theorem hex_fold (l : List UInt8) : ∀ (i : Nat) (out : Array Nat), (l.zipIdx i).foldl (fun (out : Array Nat) (x : UInt8 × Nat) => (out.push (Bytes.hexDigit (x.1.toNat / 16))).push (Bytes.hexDigit (x.1.toNat % 16))) out = out ++ (hexList l).toArray := by
  induction l with
  | nil => intro i out; simp [hexList]
  | cons c r ih =>
    intro i out
    rw [List.zipIdx_cons, List.foldl_cons, ih]
    simp only [hexList, List.flatMap_cons, Bytes.hexDigit, hexDig]
    apply Array.ext'
    simp
theorem hexList_length (l : List UInt8) : (hexList l).length = 2 * l.length := by
  induction l with
  | nil => rfl
  | cons c r ih => simp only [hexList, List.flatMap_cons, List.length_append, List.length_cons, List.length_nil] at ih ⊢; omega
theorem gives_hex2 {b : Array UInt8} {t : Tok} : Gives (Builtin.«bytes.hex» ⟨[.bytes b t], []⟩) (.str ⟨(hexList b.toList).toArray⟩) := by
  refine .of_wp fun M A E s Q hq => ?_
  show wpAny M A (Bytes.hexOf "bytes.hex" false Bytes.payload (fun _ => pure ()) ⟨[.bytes b t], []⟩) _ _ _
  have hb : Bytes.bindOptional "bytes.hex" "hex" ["sep", "bytes_per_sep"] [] [] = pure [none, none] := by kernel_rfl
  unfold Bytes.hexOf
  dsimp only
  refine wpAny_bind (wpAny_of_eq hb ?_)
  dsimp only
  refine wpAny_bind (wpAny_pure ?_)
  refine wpAny_bind (wpAny_pure ?_)
  refine wpAny_bind (wpAny_pure ?_)
  refine wpAny_bind (wpAny_of_eq (a := b) rfl ?_)
  have e := hex_fold b.toList 0 #[]
  rw [Array.empty_append] at e
  show wpAny M A (retStr ⟨List.foldl (fun (out : Array Nat) (x : UInt8 × Nat) => (out.push (Bytes.hexDigit (x.1.toNat / 16))).push (Bytes.hexDigit (x.1.toNat % 16))) #[] (b.toList.zipIdx 0)⟩) _ _ _
  rw [e]
  exact wpAny_bind (wpAny_mkStr (wpAny_pure ⟨_, rfl, hq.2⟩) hq.1)

section
variable {prog : Program} {w : World} {A : Around} {E : Value → Shared → Prop} {s : Shared} {a : Addr} {b : Array UInt8} {n : Nat} {t u : Tok} {Q : Value → Shared → Prop}
theorem method_hex {M : Model} {pl : Sem Bool} {Q : Value × List Value → Shared → Prop} (h : Q (.builtin "bytes.hex", [.bytes b t]) s) : wpAny M A (getMethod (.bytes b t) "hex" pl) Q E s := by
  with_reducible exact KBd.method_of (.bytes b t) (typeIs_bytes _ _ _) FB.slot_bytes_hex FB.type_bytes_hex KBd.noRef h
theorem call_hex (hz : b.size ≤ 1000) (h : ∀ t' k, Q (.str ⟨(hexList b.toList).toArray⟩ t') { s with toks := k }) : wpAny (model prog w) A (call (.builtin "bytes.hex") [.bytes b t]) Q E s :=
  call_meets FB.slot_bytes_hex (typeIs_bytes _ _ _) FB.entry_bytes_hex (FB.args_bytes_hex_1 _) gives_hex2.meets (show _ ∧ _ from ⟨by
    show (hexList b.toList).toArray.size ≤ _
    rw [List.size_toArray, hexList_length, sizeLine_eq]
    have := Array.length_toList (xs := b)
    omega, h _ _⟩)
end

/-! str.encode('ascii') -/
theorem encodeRoad_ascii (id : String) (self : Value) (x : Str) (errors : Option Str) : _codecs.encodeRoad id self x (Str.ofString "ascii") errors = (do mkBytes (← _codecs.encodeNarrow id _codecs.asciiCodec errors self x)) := by
  first | rfl | (unfold _codecs.encodeRoad; rfl) | (unfold _codecs.encodeRoad; simp only []; rfl) | decide
theorem fold_app (l : List Nat) : ∀ (acc : Array UInt8), l.foldl (fun acc y => acc ++ (_codecs.asciiCodec.bytesOf y).toArray) acc = acc ++ (l.map (·.toUInt8)).toArray := by
  induction l with
  | nil => intro acc; simp
  | cons c r ih =>
    intro acc
    rw [List.foldl_cons, ih]
    simp [_codecs.asciiCodec]
theorem loop_once {β : Type} (n : Nat) (f : Nat → β → Sem (ForInStep β)) (x y : β) (hn : n = 0 → x = y) (h0 : n ≠ 0 → f 0 x = pure (.yield y)) (h1 : ∀ i, f i y = pure (.done y)) : forIn (List.range' 0 n) x f = pure y := by
  cases n with
  | zero => rw [hn rfl]; rfl
  | succ n =>
    rw [List.range'_succ, List.forIn_cons, h0 (by omega), pure_bind]
    cases n with
    | zero => rfl
    | succ n =>
      show forIn (List.range' (0 + 1) (n + 1)) y f = _
      rw [List.range'_succ, List.forIn_cons, h1, pure_bind]
theorem narrow_ascii (id : String) (self : Value) (x : Str) (hx : ∀ c ∈ x.cps.toList, c < 128) (hz : x.cps.size ≤ sizeLine) : _codecs.encodeNarrow id _codecs.asciiCodec none self x = pure (x.cps.map (·.toUInt8)) := by
  have hb : ∀ c ∈ x.cps.toList, _codecs.asciiCodec.bad c = false := fun c hc => by
    have := hx c hc
    simp only [_codecs.asciiCodec, ge_iff_le, decide_eq_false_iff_not]; omega
  obtain ⟨⟨l⟩⟩ := x
  change ∀ c ∈ l, _ at hb
  change l.length ≤ _ at hz
  unfold _codecs.encodeNarrow
  dsimp only
  rw [Std.Legacy.Range.forIn_eq_forIn_range']
  simp only [Std.Legacy.Range.size, Str.length, List.size_toArray, Nat.sub_zero, Nat.add_sub_cancel, Nat.div_one]
  rw [loop_once (y := (l.length, (l.map (·.toUInt8)).toArray, {}))]
  · simp
  · intro h0
    obtain rfl := List.length_eq_zero_iff.mp h0
    rfl
  · intro h0
    obtain ⟨c, r, rfl⟩ := List.exists_cons_of_length_pos (Nat.pos_of_ne_zero h0)
    have hf : Array.findIdx? _codecs.asciiCodec.bad ((c :: r).toArray.extract 0 (c :: r).length) = none := by
      rw [Array.findIdx?_eq_none_iff]
      intro q hq
      exact hb q (by simpa using hq)
    dsimp only
    rw [if_neg (by simp)]
    simp only [List.getElem?_toArray, List.getElem?_cons_zero, hb c (.head _), Bool.not_false, if_true, hf, Option.getD_none]
    congr 3
    · simp
    · congr 1
      simp [fold_app]
      simp [_codecs.asciiCodec]
  · intro i
    dsimp only
    rw [if_neg (by simpa using hz)]
    simp
section
variable {prog : Program} {w : World} {A : Around} {E : Value → Shared → Prop} {s : Shared} {x : Str} {t u : Tok} {Q : Value → Shared → Prop}
theorem encode_args (v d : Value) : argsOk "str.encode" ⟨[v, d], []⟩ := F.args_str_encode_2 v d
theorem gives_encode (hx : ∀ c ∈ x.cps.toList, c < 128) (hz : x.cps.size ≤ sizeLine) : Gives (Builtin.«str.encode» ⟨[.str x t, .str (Str.ofString "ascii") u], []⟩) (.bytes (x.cps.map (·.toUInt8))) := by
  refine .of_wp fun M A E s Q hq => ?_
  have e : Builtin.«str.encode» ⟨[.str x t, .str (Str.ofString "ascii") u], []⟩ = (do ret (← _codecs.encodeRoad "str.encode" (.str x t) x (Str.ofString "ascii") none)) := by first | rfl | kernel_rfl
  rw [e, encodeRoad_ascii, narrow_ascii _ _ _ hx hz]
  refine wpAny_bind (wpAny_bind (wpAny_pure ?_))
  exact wpAny_mkBytes (wpAny_pure ⟨_, rfl, hq.2⟩) hq.1
theorem method_encode {M : Model} {pl : Sem Bool} {Q : Value × List Value → Shared → Prop} (h : Q (.builtin "str.encode", [.str x t]) s) : wpAny M A (getMethod (.str x t) "encode" pl) Q E s := by
  with_reducible exact getMethod_builtin (v := .str x t) (T := "str") (typeIs_str _ _ _) F.plainAttrs_str F.slot_str_encode F.type_str_encode (fun _ e => nomatch e) h
theorem call_encode (hx : ∀ c ∈ x.cps.toList, c < 128) (hz : x.cps.size ≤ 16777216) (h : ∀ t' k, Q (.bytes (x.cps.map (·.toUInt8)) t') { s with toks := k }) : wpAny (model prog w) A (call (.builtin "str.encode") [.str x t, .str (Str.ofString "ascii") u]) Q E s :=
  call_meets F.slot_str_encode (typeIs_str _ _ _) F.entry_str_encode (encode_args _ _) (gives_encode hx (by rw [sizeLine_eq]; exact hz)).meets (show _ ∧ _ from ⟨by rw [Array.size_map, sizeLine_eq]; exact hz, h _ _⟩)
end
end Mine
end

/-! W6 -/
section
open PySem PySem.W PyProof.Rows PySem.Calls
open PySem.Sem (wp)
set_option maxRecDepth 100000
namespace Mine
open Builtin

/-! int(text, base) -/
def foldB (base acc : Nat) (ds : List Nat) : Nat := ds.foldl (fun acc d => acc * base + d) acc
theorem digit_hexDig {n : Nat} (h : n < 16) : NumText.digit? (hexDig n) = some n := by
  revert h
  revert n
  decide
theorem hexDig_ne {n : Nat} (h : n < 16) : hexDig n ≠ 95 ∧ hexDig n ≠ 45 ∧ hexDig n ≠ 43 ∧ hexDig n ≠ 0 ∧ NumText.blank (hexDig n) = false ∧ hexDig n ≠ 120 ∧ hexDig n ≠ 88 ∧ hexDig n ≠ 111 ∧ hexDig n ≠ 79 ∧ hexDig n < 128 ∧ hexDig n ≠ 76 := by
  revert h
  revert n
  decide
theorem step_hexDig {base n : Nat} {p : Array Nat × Bool} (h : n < 16) (hb : n < base) : NumText.step base p (hexDig n) = some (p.1.push n, true) := by
  unfold NumText.step
  rw [if_neg (by have := (hexDig_ne h).1; simpa using this), digit_hexDig h]
  simp [hb]
theorem digits_fold {base : Nat} (hb : base ≤ 16) : ∀ (ds : List Nat) (p : Array Nat × Bool), (∀ d ∈ ds, d < base) → (ds.map hexDig).foldlM (NumText.step base) p = some (p.1 ++ ds.toArray, p.2 || !ds.isEmpty)
  | [], p, _ => by simp
  | d :: r, p, h => by
    have hd := h d (.head _)
    rw [List.map_cons, List.foldlM_cons, step_hexDig (by omega) hd]
    show (r.map hexDig).foldlM (NumText.step base) (p.1.push d, true) = _
    rw [digits_fold hb r _ fun x hx => h x (.tail _ hx)]
    simp
theorem digits_hex {base : Nat} (hb : base ≤ 16) {ds : List Nat} (h : ∀ d ∈ ds, d < base) (hne : ds ≠ []) : NumText.digits? base (ds.map hexDig) = some ds.toArray := by
  unfold NumText.digits?
  rw [digits_fold hb ds _ h]
  cases ds with
  | nil => exact absurd rfl hne
  | cons d r => simp
theorem drop_blank_hex {ds : List Nat} (h : ∀ d ∈ ds, d < 16) : (ds.map hexDig).dropWhile NumText.blank = ds.map hexDig := by
  cases ds with
  | nil => rfl
  | cons d r => rw [List.map_cons, List.dropWhile_cons_of_neg (by rw [(hexDig_ne (h d (.head _))).2.2.2.2.1]; exact Bool.false_ne_true)]
theorem drop_blank_rev {ds : List Nat} (h : ∀ d ∈ ds, d < 16) : ((ds.map hexDig).reverse.dropWhile NumText.blank).reverse = ds.map hexDig := by
  rw [← List.map_reverse, drop_blank_hex fun d hd => h d (List.mem_reverse.mp hd), List.map_reverse, List.reverse_reverse]
def Heads (ds : List Nat) : Prop := (∃ r, ds = 1 :: r) ∨ ∃ r, ds = 0 :: 1 :: r
theorem sign_hex {ds : List Nat} (h : Heads ds) : NumText.sign (ds.map hexDig) = (false, ds.map hexDig) := by
  rcases h with ⟨r, rfl⟩ | ⟨r, rfl⟩ <;> rfl
theorem based_hex {base : Nat} (hb : 2 ≤ base) {ds : List Nat} (h : Heads ds) : NumText.based base (ds.map hexDig) = (base, false, ds.map hexDig) := by
  have h0 : ((base == 0) = false) := by simp; omega
  rcases h with ⟨r, rfl⟩ | ⟨r, rfl⟩
  · show (if (base == 0) = true then _ else (base, false, _)) = _
    rw [h0]; rfl
  · show (if (base == 0) = true then _ else (base, false, _)) = _
    rw [h0]; rfl
theorem seen_hex {ds : List Nat} (h : ∀ d ∈ ds, d < 16) : (ds.map hexDig).takeWhile (· != 0) = ds.map hexDig := by
  induction ds with
  | nil => rfl
  | cons d r ih =>
    have := (hexDig_ne (h d (.head _))).2.2.2.1
    rw [List.map_cons, List.takeWhile_cons_of_pos (by simpa using this), ih fun x hx => h x (.tail _ hx)]
theorem read_hex {base : Nat} (hb : 2 ≤ base) (hb2 : base ≤ 16) (h10 : base ≠ 10) {ds : List Nat} (h : ∀ d ∈ ds, d < base) (hh : Heads ds) :
    (int_private% "readNumeral") 0 base (ds.map hexDig) = (int_private% "Numeral.value") (foldB base 0 ds : Int) := by
  have h16 : ∀ d ∈ ds, d < 16 := fun d hd => Nat.lt_of_lt_of_le (h d hd) hb2
  have hne : ds ≠ [] := by rcases hh with ⟨r, rfl⟩ | ⟨r, rfl⟩ <;> simp
  rw [NumText.readNumeral_eq, drop_blank_hex h16, sign_hex hh, based_hex hb hh]
  dsimp only
  rw [drop_blank_rev h16, digits_hex hb2 h hne]
  unfold NumText.judge
  dsimp only
  rw [if_neg (by simp), if_neg (by simp [h10]), if_neg (by simp)]
  simp [foldB]

section
variable {prog : Program} {w : World} {A : Around} {E : Value → Shared → Prop} {s : Shared}
theorem wp_textB {M : Model} {Q : Value → Shared → Prop} {v : Value} {base : Nat} (hb : 2 ≤ base) (hb2 : base ≤ 16) (h10 : base ≠ 10) {ds : List Nat} (hd : ∀ d ∈ ds, d < base) (hh : Heads ds) (hl : ds.length ≤ 640)
    (h : Q (.int (foldB base 0 ds) s.toks) { s with toks := s.toks + 1 }) :
    wpAny M A ((int_private% "intFromText") v (ds.map hexDig) base) Q E s := by
  have h16 : ∀ d ∈ ds, d < 16 := fun d h => Nat.lt_of_lt_of_le (hd d h) hb2
  have hs := seen_hex h16
  have hr := read_hex hb hb2 h10 hd hh
  have hlen : (ds.map hexDig).length ≤ 640 := by rw [List.length_map]; exact hl
  have h1 : ((ds.map hexDig).takeWhile (· != 0)).length ≤ 640 := by rw [hs]; exact hlen
  have h2 : (((ds.map hexDig).takeWhile (· != 0)).length == (ds.map hexDig).length) = true := by rw [hs]; exact beq_self_eq_true _
  have h3 : (int_private% "readNumeral") 0 base ((ds.map hexDig).takeWhile (· != 0)) = (int_private% "Numeral.value") (foldB base 0 ds : Int) := by rw [hs]; exact hr
  generalize ds.map hexDig = text at *
  generalize foldB base 0 ds = n at *
  clear hd hh h16 hl hr hs hlen
  obtain ⟨hp, g, d, tk, os⟩ := s
  repeat (any_goals (first
    | assumption
    | (with_reducible refine wpAny_ite_true (decide_eq_true h1) ?_)
    | (with_reducible refine wpAny_ite_true (decide_eq_true h2) ?_)
    | wp_step))
  all_goals (try rw [h3])
  all_goals (try dsimp only)
  repeat (any_goals (first
    | assumption
    | (with_reducible refine wpAny_ite_true (decide_eq_true h1) ?_)
    | (with_reducible refine wpAny_ite_true (decide_eq_true h2) ?_)
    | wp_step))
end
end Mine
end

/-! W7 -/
section
open PySem PySem.W PyProof.Rows PySem.Calls
open PySem.Sem (wp)
set_option maxRecDepth 100000
namespace Mine
open Builtin
theorem typeCall_int_2 (a b : Value) : checkTypeCall "int" ⟨[a, b], []⟩ = pure () := by kernel_rfl
theorem newCall_int_2 (a b : Value) : checkBuiltinCall "int.__new__" ⟨[.type "int", a, b], []⟩ = pure () := by kernel_rfl
theorem args_object_init_3 (a b c : Value) : argsOk "object.__init__" ⟨[a, b, c], []⟩ := by unfold argsOk; kernel_rfl
section
variable {prog : Program} {w : World} {A : Around} {E : Value → Shared → Prop} {s : Shared}
theorem gives_int_text {x : Value} {u : Tok} {base : Nat} {ds : List Nat} (hb : 2 ≤ base) (hb2 : base ≤ 16) (h10 : base ≠ 10) (hd : ∀ d ∈ ds, d < base) (hh : Heads ds) (hl : ds.length ≤ 640)
    (hx : (int_private% "numeralText?") x = pure (some (ds.map hexDig))) : Gives (Builtin.«int.__new__» ⟨[.type "int", x, .int (base : Int) u], []⟩) (.int (foldB base 0 ds)) := by
  refine .of_wp fun M A E s Q h => ?_
  have f1 := F.conv_sub_int
  have f2 := F.madeHere_int
  unfold Builtin.«int.__new__»
  dsimp only
  refine wpAny_bind (wpAny_of_eq (a := true) rfl ?_)
  refine bm_if_false rfl ?_
  refine wpAny_bind (wpAny_of_eq f1 ?_)
  refine bm_if_false rfl ?_
  refine wpAny_bind (wpAny_of_eq f2 ?_)
  refine bm_if_false rfl ?_
  rw [if_neg (by simp)]
  refine wpAny_bind (wpAny_of_eq (a := PUnit.unit) rfl ?_)
  dsimp only [List.head?, List.getElem?_cons_zero, List.getElem?_cons_succ]
  refine wpAny_bind (wpAny_of_eq (a := (base : Int)) rfl ?_)
  rw [if_neg (by simp; omega)]
  refine wpAny_bind (wpAny_of_eq hx ?_)
  dsimp only
  refine wpAny_bind ?_
  rw [Int.toNat_natCast]
  refine wp_textB hb hb2 h10 hd hh hl ?_
  refine bm_if_true (by decide) ?_
  exact wpAny_pure ⟨_, rfl, h⟩
theorem text_str {x : Str} {t : Tok} (hx : ∀ c ∈ x.cps.toList, c < 128) : (int_private% "numeralText?") (.str x t) = pure (some x.cps.toList) := by
  have e : x.cps.all (fun c => decide (c < 128)) = true := by
    rw [Array.all_eq_true_iff_forall_mem]
    intro c hc
    exact decide_eq_true (hx c (Array.mem_toList_iff.mpr hc))
  have e2 : (int_private% "numeralText?") (.str x t) = pure (some (if x.cps.all (fun c => decide (c < 128)) = true then x.cps.toList else Unicode.numberText x.cps.toList)) := rfl
  rw [e2, if_pos e]
theorem text_bytes {b : Array UInt8} {t : Tok} : (int_private% "numeralText?") (.bytes b t) = pure (some (b.toList.map (·.toNat))) := rfl
theorem call_int_2 {x y : Value} {S : PySem.Spec} {Q : Value → Shared → Prop} (g : Meets (Builtin.«int.__new__» ⟨[.type "int", x, y], []⟩) S) (h : S A.in1 (wants (fun obj s₁ => s₁.TypeIs obj "int" ∧ Q obj s₁) E) s) :
    wpAny (model prog w) A (call (.type "int") [x, y]) Q E s :=
  callType_new F.called_int F.newNe_int (typeCall_int_2 x y) (newCall_int_2 x y) (fun obj => args_object_init_3 obj x y) F.entry_int_new g h
theorem call_int_str {x : Str} {t u : Tok} {base : Nat} {ds : List Nat} {Q : Value → Shared → Prop} (hb : 2 ≤ base) (hb2 : base ≤ 16) (h10 : base ≠ 10) (hd : ∀ d ∈ ds, d < base) (hh : Heads ds) (hl : ds.length ≤ 640) (hx : x.cps.toList = ds.map hexDig)
    (h : ∀ t' k, Q (.int (foldB base 0 ds) t') { s with toks := k }) : wpAny (model prog w) A (call (.type "int") [.str x t, .int (base : Int) u]) Q E s := by
  have hx2 : ∀ c ∈ x.cps.toList, c < 128 := by
    intro c hc
    rw [hx] at hc
    obtain ⟨d, hd', rfl⟩ := List.mem_map.mp hc
    exact (hexDig_ne (Nat.lt_of_lt_of_le (hd d hd') hb2)).2.2.2.2.2.2.2.2.2.1
  have e := text_str (t := t) hx2
  rw [hx] at e
  have g := gives_int_text (x := .str x t) (u := u) hb hb2 h10 hd hh hl e
  exact call_int_2 g.meets (show _ ∧ _ from ⟨rfl, h _ _⟩)
theorem call_int_bytes {b : Array UInt8} {t u : Tok} {base : Nat} {ds : List Nat} {Q : Value → Shared → Prop} (hb : 2 ≤ base) (hb2 : base ≤ 16) (h10 : base ≠ 10) (hd : ∀ d ∈ ds, d < base) (hh : Heads ds) (hl : ds.length ≤ 640) (hx : b.toList.map (·.toNat) = ds.map hexDig)
    (h : ∀ t' k, Q (.int (foldB base 0 ds) t') { s with toks := k }) : wpAny (model prog w) A (call (.type "int") [.bytes b t, .int (base : Int) u]) Q E s := by
  have e := text_bytes (b := b) (t := t)
  rw [hx] at e
  have g := gives_int_text (x := .bytes b t) (u := u) hb hb2 h10 hd hh hl e
  exact call_int_2 g.meets (show _ ∧ _ from ⟨rfl, h _ _⟩)
end
end Mine
end

/-! W8 -/
section
open PySem PySem.W PyProof.Rows PySem.Calls
open PySem.Sem (wp)
set_option maxRecDepth 100000
namespace Mine

/-! The head with a guard: a run that starts on the claim's own stack starts on a clean one. -/
def cleanB (l : List (Code × Pos)) : Bool := l.all fun x => !isDec x.1
theorem clean_of {l : List (Code × Pos)} (h : cleanB l = true) : Clean l := fun x hx => by
  have := List.all_eq_true.mp h x hx
  simpa using this
def guarded {α : Type} (t other : Sem α) : Sem α := do if cleanB (← stack) then t else other

theorem wpAny_guarded {α : Type} {M : Model} {A : Around} {E : Value → Shared → Prop} {s : Shared} {t other : Sem α} {Q : α → Shared → Prop}
    (h : wpC M A t Q E s) (ho : wpAny M A other Q E s) : wpAny M A (guarded t other) Q E s := by
  intro Γ p hΓ
  unfold guarded
  rw [Sem.wp_bind']
  show wp M Γ (if cleanB ((Γ.code, p) :: Γ.below) = true then t else other) _ _ p s
  cases hc : cleanB ((Γ.code, p) :: Γ.below) with
  | false => exact ho Γ p hΓ
  | true =>
    have := clean_of hc
    exact h Γ p hΓ (this _ (.head _)) fun x hx => this x (.tail _ hx)

theorem guarded_step {prog : Program} {w : World} {s : Shared} {t other : Sem Fin} (hz : s.asleep) :
    sstep (denote table) prog w (.single s ⟨guarded t other, .builtin "claim.caller" {}, default, []⟩) = .go (.single s ⟨t, .builtin "claim.caller" {}, default, []⟩) := by
  have hs : PySem.step (denote table) prog w s ⟨guarded t other, .builtin "claim.caller" {}, default, []⟩ = .go s ⟨t, .builtin "claim.caller" {}, default, []⟩ := rfl
  rcases sstep_single (den := denote table) (prog := prog) (w := w) s ⟨guarded t other, .builtin "claim.caller" {}, default, []⟩ rfl hz with e | e
  · rw [e, hs]; rfl
  · rw [hs] at e; cases e

theorem guarded_sched {prog : Program} {w : World} {s : Shared} {t other : Sem Fin} (hz : s.asleep) : ∀ n o s', schedN (denote table) prog w n (.single s ⟨guarded t other, .builtin "claim.caller" {}, default, []⟩) = .halted o s' →
    ∃ n', schedN (denote table) prog w n' (.single s ⟨t, .builtin "claim.caller" {}, default, []⟩) = .halted o s'
  | 0, _, _, h => by cases h
  | n + 1, o, s', h => by
    refine ⟨n, ?_⟩
    unfold schedN at h
    rw [guarded_step hz] at h
    exact h

theorem restub {tree other : List Value → Sem Fin} {c : ClaimW} {w : World} {free : Addr → Prop} {gens : Prop} {kept : Heap → Prop} {s₀ : Shared} (hz : s₀.asleep)
    (H : c.CallFrom (fun vs => ⟨guarded (tree vs) (other vs), .builtin "claim.caller" {}, default, []⟩) w free gens kept s₀) :
    c.CallFrom (fun vs => ⟨tree vs, .builtin "claim.caller" {}, default, []⟩) w free gens kept s₀ := by
  intro args hpre hlay ord hord
  obtain ⟨vs, s₁, hl, n, o, s', hr, rest⟩ := H args hpre hlay ord hord
  have hal := layAllW_rest _ _ _ hl
  obtain ⟨n', hr'⟩ := guarded_sched (Shared.asleep_of_life hal.2.2.2 hz) n o s' hr
  exact ⟨vs, s₁, hl, n', o, s', hr', rest⟩

abbrev WalkC (q : Program) (loose : List Str) (XP : (Str → Option Value) → Heap → Prop) (YP : World → Heap → Prop) (r : RowW) (d : DefRec) (kwd : List (Str × Expr)) : Prop :=
  ∀ (w : World) (s₀ s₁ : Shared) (mg mb : Str → Option Value), Ground q loose r.records XP w s₀ mg mb s₁.heap → YP w s₁.heap → ∀ (a : Addr) (o : Obj) (pm cd doc dV kV : Value), s₁.heap.get? a = some o →
    o.data = .func { docDef d.name d.params d.body d.scope pm cd doc with defaults := dV, kwdefaults := kV } → s₁.heap.CodeRec cd d.name → Dflts mg s₁.heap d.params kwd dV kV → mg d.name = some (.ref a) → s₁.gens = #[] →
    ∀ (args : List WData) (vals : List Value) (as : List Addr), r.claim.pre args = true → WData.layableAll args = true → ReadsAllW r.records (classAt s₀.heap) s₁.heap vals args as → WellAll w.params s₁.heap vals args → (∀ a ∈ as, (a == sysModules) = false) →
      wpC (model r.prog w) callerA (PySem.call (.ref a) vals) (fun v s' => GoodWG r.claim (classAt s₀.heap) (ExcName.means s₀.heap) args s₁ (.ok (.ret v)) s')
        (fun e s' => GoodWG r.claim (classAt s₀.heap) (ExcName.means s₀.heap) args s₁ (.error e) s') s₁ ∧
      GoodWG r.claim (classAt s₀.heap) (ExcName.means s₀.heap) args s₁ (.ok (.ret (.bool true))) s₁

theorem PySem.W.holds_open {r : OpenRow} {q : Program} {loose : List Str} {Xt : Shared → Bool} {XP : (Str → Option Value) → Heap → Prop} {α : Type} {Yf : Shared → α} {Ya : World → α} {YP : World → Heap → Prop} {d : DefRec} {kwd : List (Str × Expr)} {N : Nat}
    (left : LeftO r.prog q loose Xt Yf Ya N) (hY : ∀ w s, Yf s = Ya w → YP w s.heap) (hYk : ∀ w h h', YP w h → (∀ b o, h.get? b = some o → h'.get? b = some o) → YP w h')
    (hX : ∀ s, Xt s = true → XP (s.heap.nsMap mainGlobals) s.heap) (hXk : ∀ mg h h', XP mg h → (∀ b o, h.get? b = some o → h'.get? b = some o) → XP mg h')
    (hdef : defOf q r.name = some (d, kwd)) (hp : r.prog.theDef r.name = some (d.params, d.body, d.scope)) (hk : kwWritten? d.params.kwonlyargs d.params.kw_defaults = some kwd) (hRf : ∀ s, Xt s = true → RecFacts r.records s.heap) (hwr : (!r.writes || r.records.isEmpty) = true)
    (k1 : r.wellSaid = true) (ok : (chainsOk q && opensWell r.prog && (frees r.toRowW && r.within.isEmpty)) = true) (hb : r.prog.bare) (hw : r.toRowW.promised)
    (call : WalkC q loose XP YP r.toRowW d kwd) : r.Holds := by
  refine ⟨k1, hw, ?_⟩
  have H := open_anyG (r := r.toRowW) (defs := if r.pinned then [r.name] else []) (kps := r.keeps) (writes := r.writes)
    (run := fun f vs => guarded (PySem.call f vs) (pure (.bool true)))
    (tree := fun vs => guarded (do match ← nsGet mainNs r.name with
      | some f => do ret (← PySem.call f vs)
      | none => unsupported "claim.caller:no-such-global") (ret (.bool true))) left hY hYk hX hXk hRf hwr ok hb hw
    (fun vs w s mg f Q E hg hf h => by
      intro Γ p hΓ
      have h' := h Γ p hΓ
      unfold guarded at h' ⊢
      rw [Sem.wp_bind'] at h' ⊢
      change wp _ Γ (if cleanB ((Γ.code, p) :: Γ.below) = true then PySem.call f vs else pure (.bool true)) _ _ p s at h'
      show wp _ Γ (if cleanB ((Γ.code, p) :: Γ.below) = true then _ else ret (.bool true)) _ _ p s
      cases hc : cleanB ((Γ.code, p) :: Γ.below) with
      | false => rw [hc] at h'; exact h'
      | true =>
        rw [hc] at h'
        have h2 : wp (model r.toRowW.prog w) Γ (PySem.call f vs) (fun v _ s' => Q (.done (.ret v)) s') (fun e _ s' => E e s') p s := h'
        refine (Sem.wp_bind' _ _ _ _ _ _ _ _).mpr ?_
        refine (Sem.wp_nsGet _ Γ _ p s hg _ _).mpr ?_
        rw [hf]
        refine (Sem.wp_bind' _ _ _ _ _ _ _ _).mpr ?_
        exact Sem.wp_mono _ Γ _ (fun v p' s' hv => hv) (fun _ _ _ e => e) p s h2)
    (fun w s hg G n hn => by
      obtain rfl : n = r.name := by split at hn <;> simp_all
      exact pinned_of_view hg G hdef hp hk)
    fun w s₀ s₁ mg mb G Y args vs as hpre hlay L low => by
      obtain ⟨a, o, pm, cd, doc, dV, kV, h1, h2, h3, h4, h5⟩ := G.fn hdef
      obtain ⟨c1, c2⟩ := call w s₀ s₁ mg mb G Y a o pm cd doc dV kV h2 h3 h4 h5 (defOf_name hdef ▸ h1) L.gens args vs as hpre hlay L.reads L.well (L.low low)
      exact ⟨.ref a, h1, wpAny_guarded c1 (wpAny_pure c2)⟩
  obtain ⟨ok, k5⟩ := Bool.and_eq_true_iff.mp ok
  obtain ⟨hch, o1⟩ := Bool.and_eq_true_iff.mp ok
  refine ⟨H.1, H.2.1, fun w => ⟨(H.2.2 w).1, fun s hs => ?_⟩⟩
  obtain ⟨s₀, hf, hg, s₁, hT, a1, a2, a3, a4⟩ := (H.2.2 w).2 s hs
  obtain ⟨s₀', hf', _, s₁', hT', hz, _⟩ := (left.behind (XP := XP) hX hch w).2 s hs
  obtain rfl : s₀ = s₀' := Option.some.inj (hf.symm.trans hf')
  refine ⟨s₀, hf, hg, s₁, hT, a1, a2, a3, restub (Shared.asleep_of_life (hT.2.1.trans hT'.2.1.symm) hz) a4⟩
end Mine
end

/-! HdC -/
section
open PySem PySem.W PyProof.Rows
namespace Mine
set_option maxRecDepth 100000 in
set_option maxHeartbeats 8000000 in
open_top hd for PySem.Challenge.rw_eh5005_01
end Mine
end

/-! P1 -/
section
open PySem PySem.W PyProof.Rows PySem.Calls
set_option linter.unusedVariables false
namespace Mine
/-! The plain law: bits, nibbles, octets -/
def bits8 (c : UInt8) : List Nat := [c.toNat / 128 % 2, c.toNat / 64 % 2, c.toNat / 32 % 2, c.toNat / 16 % 2, c.toNat / 8 % 2, c.toNat / 4 % 2, c.toNat / 2 % 2, c.toNat % 2]
def bitsOf (l : List UInt8) : List Nat := l.flatMap bits8
def nibs (l : List UInt8) : List Nat := l.flatMap fun c => [c.toNat / 16, c.toNat % 16]
def strBits (ds : List Nat) : Str := ⟨(ds.map hexDig).toArray⟩
theorem hexList_nibs (l : List UInt8) : hexList l = (nibs l).map hexDig := by
  induction l with
  | nil => rfl
  | cons c r ih =>
    simp only [hexList, nibs, List.flatMap_cons, List.map_append] at ih ⊢
    rw [ih]; rfl
theorem bitsOf_length (l : List UInt8) : (bitsOf l).length = 8 * l.length := by
  induction l with
  | nil => rfl
  | cons c r ih => simp only [bitsOf, bits8, List.flatMap_cons, List.length_append, List.length_cons, List.length_nil] at ih ⊢; omega
theorem bits8_lt (c : UInt8) : ∀ d ∈ bits8 c, d < 2 := by
  intro d hd
  simp only [bits8, List.mem_cons, List.not_mem_nil, or_false] at hd
  rcases hd with rfl | rfl | rfl | rfl | rfl | rfl | rfl | rfl <;> exact Nat.mod_lt _ (by decide)
theorem bitsOf_lt (l : List UInt8) : ∀ d ∈ bitsOf l, d < 2 := by
  intro d hd
  obtain ⟨c, _, hd⟩ := List.mem_flatMap.mp hd
  exact bits8_lt c d hd
theorem nibs_lt (l : List UInt8) : ∀ d ∈ nibs l, d < 16 := by
  intro d hd
  obtain ⟨c, _, hd⟩ := List.mem_flatMap.mp hd
  have := c.toNat_lt
  simp only [List.mem_cons, List.not_mem_nil, or_false] at hd
  rcases hd with rfl | rfl <;> omega
theorem foldB_append (base acc : Nat) (a b : List Nat) : foldB base acc (a ++ b) = foldB base (foldB base acc a) b := List.foldl_append
theorem fold_bits8 (c : UInt8) (acc : Nat) : foldB 2 acc (bits8 c) = acc * 256 + c.toNat := by
  have := c.toNat_lt
  simp only [foldB, bits8, List.foldl_cons, List.foldl_nil]
  omega
theorem fold_nib (c : UInt8) (acc : Nat) : foldB 16 acc [c.toNat / 16, c.toNat % 16] = acc * 256 + c.toNat := by
  have := c.toNat_lt
  simp only [foldB, List.foldl_cons, List.foldl_nil]
  omega
theorem fold_same (l : List UInt8) : ∀ acc, foldB 16 acc (nibs l) = foldB 2 acc (bitsOf l) := by
  induction l with
  | nil => intro acc; rfl
  | cons c r ih =>
    intro acc
    have e1 : nibs (c :: r) = [c.toNat / 16, c.toNat % 16] ++ nibs r := rfl
    have e2 : bitsOf (c :: r) = bits8 c ++ bitsOf r := rfl
    rw [e1, e2, foldB_append, foldB_append, fold_bits8, fold_nib, ih]
theorem digitChar_hex : ∀ d : Nat, d < 16 → (Nat.digitChar d).toNat = hexDig d := by decide
theorem toDigits_fold {base : Nat} (hb : 2 ≤ base) : ∀ (ds : List Nat) (acc : Nat), 0 < acc → (∀ d ∈ ds, d < base) → Nat.toDigits base (foldB base acc ds) = Nat.toDigits base acc ++ ds.map Nat.digitChar
  | [], acc, _, _ => by simp [foldB]
  | d :: r, acc, h, hd => by
    have hlt := hd d (.head _)
    have h1 : 0 < acc * base + d := by have : 0 < acc * base := Nat.mul_pos h (by omega); omega
    show Nat.toDigits base (foldB base (acc * base + d) r) = _
    rw [toDigits_fold hb r _ h1 fun x hx => hd x (.tail _ hx)]
    have t : Nat.toDigits base acc ++ Nat.toDigits base d = Nat.toDigits base (base * acc + d) := Nat.toDigits_append_toDigits (by omega) (by omega) hlt
    rw [Nat.mul_comm acc base, ← t, Nat.toDigits_of_lt_base hlt]
    simp
theorem toDigits_head {base : Nat} (hb : 2 ≤ base) {d : Nat} {ds : List Nat} (h0 : 0 < d) (hd : d < base) (h : ∀ x ∈ ds, x < base) : Nat.toDigits base (foldB base 0 (d :: ds)) = (d :: ds).map Nat.digitChar := by
  have e : foldB base 0 (d :: ds) = foldB base d ds := by simp [foldB]
  rw [e, toDigits_fold hb ds d h0 h, Nat.toDigits_of_lt_base hd]
  rfl
theorem cps_ofList (l : List Char) : (Str.ofString (String.ofList l)).cps.toList = l.map Char.toNat := by
  rw [Fast.ofString_ofList]
theorem baseText_digits {pre : String} {pl : List Nat} (hp : (Str.ofString pre).cps.toList = pl) {base : Nat} (hb : 2 ≤ base) (hb2 : base ≤ 16) {d : Nat} {ds : List Nat} (h0 : 0 < d) (hd : d < base) (h : ∀ x ∈ ds, x < base) :
    (baseText pre base (foldB base 0 (d :: ds) : Int)).cps.toList = pl ++ (d :: ds).map hexDig := by
  rw [baseText_nonneg (by omega), Int.natAbs_natCast, toDigits_head hb h0 hd h]
  simp only [Str.cps_append, Array.toList_append, hp, cps_ofList, List.map_map]
  have e : ((d :: ds).map (Char.toNat ∘ Nat.digitChar)) = (d :: ds).map hexDig := by
    apply List.map_congr_left
    intro x hx
    have : x < base := by
      rcases List.mem_cons.mp hx with rfl | hx
      · exact hd
      · exact h x hx
    exact digitChar_hex x (by omega)
  rw [e]
  have e0 : (Str.ofString "").cps.toList = [] := by decide +kernel
  rw [e0]
  simp

/-! the octets of a text of bits -/
def octAt (ds : List Nat) (i : Nat) : UInt8 := (foldB 2 0 [ds.getD (8 * i) 0, ds.getD (8 * i + 1) 0, ds.getD (8 * i + 2) 0, ds.getD (8 * i + 3) 0, ds.getD (8 * i + 4) 0, ds.getD (8 * i + 5) 0, ds.getD (8 * i + 6) 0, ds.getD (8 * i + 7) 0]).toUInt8
def octs (n : Nat) (ds : List Nat) : List UInt8 := (List.range n).map (octAt ds)
def packB (ds : List Nat) : List UInt8 := octs ((ds.length + 7) / 8) ds
def padN (n : Nat) : Nat := (8 - n % 8) % 8
def pad (ds : List Nat) : List Nat := ds ++ List.replicate (padN ds.length) 0
theorem packB_length (ds : List Nat) : (packB ds).length = (ds.length + 7) / 8 := by simp [packB, octs]
theorem pad_length (ds : List Nat) : (pad ds).length = 8 * ((ds.length + 7) / 8) := by
  simp only [pad, padN, List.length_append, List.length_replicate]; omega
theorem bits8_fold {a b c d e f g h : Nat} (ha : a < 2) (hb : b < 2) (hc : c < 2) (hd : d < 2) (he : e < 2) (hf : f < 2) (hg : g < 2) (hh : h < 2) :
    bits8 (foldB 2 0 [a, b, c, d, e, f, g, h]).toUInt8 = [a, b, c, d, e, f, g, h] := by
  have v : (foldB 2 0 [a, b, c, d, e, f, g, h]) = 128 * a + 64 * b + 32 * c + 16 * d + 8 * e + 4 * f + 2 * g + h := by
    simp only [foldB, List.foldl_cons, List.foldl_nil]; omega
  have w : (foldB 2 0 [a, b, c, d, e, f, g, h]).toUInt8.toNat = 128 * a + 64 * b + 32 * c + 16 * d + 8 * e + 4 * f + 2 * g + h := by
    show (foldB 2 0 [a, b, c, d, e, f, g, h]) % 256 = _
    rw [v]; omega
  unfold bits8
  rw [w]
  congr 1
  · omega
  congr 1
  · omega
  congr 1
  · omega
  congr 1
  · omega
  congr 1
  · omega
  congr 1
  · omega
  congr 1
  · omega
  congr 1
  omega
theorem getD_lt {ds : List Nat} (h : ∀ d ∈ ds, d < 2) (i : Nat) : ds.getD i 0 < 2 := by
  rw [List.getD_eq_getElem?_getD]
  cases e : ds[i]? with
  | none => decide
  | some d => exact h d (List.mem_of_getElem? e)
theorem bits8_oct {ds : List Nat} (h : ∀ d ∈ ds, d < 2) (i : Nat) : bits8 (octAt ds i) = [ds.getD (8 * i) 0, ds.getD (8 * i + 1) 0, ds.getD (8 * i + 2) 0, ds.getD (8 * i + 3) 0, ds.getD (8 * i + 4) 0, ds.getD (8 * i + 5) 0, ds.getD (8 * i + 6) 0, ds.getD (8 * i + 7) 0] :=
  bits8_fold (getD_lt h _) (getD_lt h _) (getD_lt h _) (getD_lt h _) (getD_lt h _) (getD_lt h _) (getD_lt h _) (getD_lt h _)
theorem eight {l : List Nat} {n : Nat} (h : l.length = 8 * (n + 1)) : ∃ a b c d e f g i r, l = a :: b :: c :: d :: e :: f :: g :: i :: r ∧ r.length = 8 * n := by
  match l, h with
  | a :: b :: c :: d :: e :: f :: g :: i :: r, h => exact ⟨a, b, c, d, e, f, g, i, r, rfl, by simp only [List.length_cons] at h; omega⟩
  | [], h | [_], h | [_, _], h | [_, _, _], h | [_, _, _, _], h | [_, _, _, _, _], h | [_, _, _, _, _, _], h | [_, _, _, _, _, _, _], h => simp only [List.length_cons, List.length_nil] at h; omega
theorem octAt_succ {a b c d e f g i : Nat} {r : List Nat} (k : Nat) : octAt (a :: b :: c :: d :: e :: f :: g :: i :: r) (k + 1) = octAt r k := by
  unfold octAt
  have e1 : ∀ j, (a :: b :: c :: d :: e :: f :: g :: i :: r).getD (8 * (k + 1) + j) 0 = r.getD (8 * k + j) 0 := fun j => by
    rw [show 8 * (k + 1) + j = (8 * k + j) + 8 by omega]; rfl
  have e0 := e1 0
  simp only [Nat.add_zero] at e0
  rw [e0, e1, e1, e1, e1, e1, e1, e1]
theorem bitsOf_octs : ∀ (n : Nat) (ds : List Nat), ds.length = 8 * n → (∀ d ∈ ds, d < 2) → bitsOf (octs n ds) = ds
  | 0, ds, h, _ => by
    have := List.length_eq_zero_iff.mp h
    subst this; rfl
  | n + 1, ds, h, hd => by
    obtain ⟨a, b, c, d, e, f, g, i, r, rfl, hr⟩ := eight h
    have ih := bitsOf_octs n r hr fun x hx => hd x (by simp [hx])
    have e1 : octs (n + 1) (a :: b :: c :: d :: e :: f :: g :: i :: r) = octAt (a :: b :: c :: d :: e :: f :: g :: i :: r) 0 :: octs n r := by
      unfold octs
      rw [List.range_succ_eq_map, List.map_cons, List.map_map]
      congr 1
    rw [e1]
    show bits8 _ ++ bitsOf (octs n r) = _
    rw [ih, bits8_oct hd]
    rfl
theorem getD_pad (ds : List Nat) (i : Nat) : (pad ds).getD i 0 = ds.getD i 0 := by
  unfold pad
  rw [List.getD_eq_getElem?_getD, List.getD_eq_getElem?_getD, List.getElem?_append]
  split
  · rfl
  · rename_i h
    rw [List.getElem?_replicate, List.getElem?_eq_none (by omega)]
    split <;> rfl
theorem pad_lt {ds : List Nat} (h : ∀ d ∈ ds, d < 2) : ∀ d ∈ pad ds, d < 2 := by
  intro d hd
  rcases List.mem_append.mp hd with hd | hd
  · exact h d hd
  · rw [(List.mem_replicate.mp hd).2]; decide
theorem octAt_pad (ds : List Nat) (i : Nat) : octAt (pad ds) i = octAt ds i := by
  unfold octAt
  simp only [getD_pad]
theorem bits_pack {ds : List Nat} (h : ∀ d ∈ ds, d < 2) : bitsOf (packB ds) = pad ds := by
  have e : packB ds = octs ((ds.length + 7) / 8) (pad ds) := by
    unfold packB octs
    apply List.map_congr_left
    intro i _
    exact (octAt_pad ds i).symm
  rw [e]
  exact bitsOf_octs _ _ (pad_length ds) (pad_lt h)
theorem bits_pack_take {ds : List Nat} (h : ∀ d ∈ ds, d < 2) : (bitsOf (packB ds)).take ds.length = ds := by
  rw [bits_pack h, pad, List.take_left']
  rfl
theorem bits8_inj {c d : UInt8} (h : bits8 c = bits8 d) : c = d := by
  have e1 := fold_bits8 c 0
  have e2 := fold_bits8 d 0
  rw [h, e2] at e1
  exact UInt8.toNat.inj (by omega)
theorem bitsOf_inj : ∀ {a b : List UInt8}, bitsOf a = bitsOf b → a = b
  | [], [], _ => rfl
  | [], d :: s, h => by simp [bitsOf, bits8] at h
  | c :: r, [], h => by simp [bitsOf, bits8] at h
  | c :: r, d :: s, h => by
    have h' : bits8 c ++ bitsOf r = bits8 d ++ bitsOf s := h
    obtain ⟨h1, h2⟩ := List.append_inj h' rfl
    rw [bits8_inj h1, bitsOf_inj h2]
theorem pad_full {ds : List Nat} (h : ds.length % 8 = 0) : pad ds = ds := by
  unfold pad padN
  rw [h]
  simp
theorem pack_bits (l : List UInt8) : packB (bitsOf l) = l := by
  apply bitsOf_inj
  rw [bits_pack (bitsOf_lt l), pad_full]
  rw [bitsOf_length]; omega
end Mine
end

/-! P2 -/
section
open PySem PySem.W PyProof.Rows PySem.Calls
set_option linter.unusedVariables false
namespace Mine
open PySem.Builtin PySem.Builtin.Str
theorem idx_beyond (n : Nat) {i j : Int} (h : (n : Int) ≤ j) : strSliceIndices (some i) (some j) 1 n = strSliceIndices (some i) (some (n : Int)) 1 n := by
  have a1 : ¬ j < 0 := by omega
  have a2 : ¬ ((n : Int) < 0) := by omega
  have e1 : min j (n : Int) = min (n : Int) (n : Int) := by omega
  have h2 : (1 : Int) > 0 := by decide
  simp only [strSliceIndices, a1, a2, h2, if_false, if_true, e1]
theorem slice_cut {x : Str} {i j : Int} (h0 : 0 ≤ i) (h1 : i ≤ j) (hi : i ≤ x.length) : Txt.slice x (some i) (some j) = ⟨((x.cps.toList.drop i.toNat).take (j - i).toNat).toArray⟩ := by
  have hl : x.cps.toList.length = x.length := by simp [Str.length]
  by_cases h : j ≤ x.length
  · exact beq_iff_eq.mp (slice_closesL h0 h1 h)
  · have e : Txt.slice x (some i) (some j) = Txt.slice x (some i) (some (x.length : Int)) := by
      unfold Txt.slice
      rw [idx_beyond x.length (by omega)]
    rw [e, beq_iff_eq.mp (slice_closesL h0 hi (Int.le_refl _))]
    congr 2
    rw [List.take_of_length_le (by rw [List.length_drop, hl]; omega), List.take_of_length_le (by rw [List.length_drop, hl]; omega)]
theorem slice_upto {x : Str} {j : Int} (h0 : 0 ≤ j) : Txt.slice x none (some j) = ⟨(x.cps.toList.take j.toNat).toArray⟩ := by
  have hl : x.cps.toList.length = x.length := by simp [Str.length]
  have e := beq_iff_eq.mp (slice_to_min_closes (x := x) h0 rfl)
  rw [e]
  congr 2
  simp only [Int.toNat_zero, List.drop_zero, Int.sub_zero]
  split
  · rw [List.take_of_length_le (by omega), List.take_of_length_le (by omega)]
  · rfl
theorem rstrip_L {x : Str} (h : ∀ c ∈ x.cps.toList, c ≠ 76) : Txt.rstripChars x (Str.ofString "L") = x := by
  unfold Txt.rstripChars Txt.stripBy
  rw [if_pos]
  have e : (Str.ofString "L").cps = #[76] := by decide +kernel
  have h2 : x.cps.toList.reverse.takeWhile (fun c => (#[76] : Array Nat).contains c) = [] := by
    cases hr : x.cps.toList.reverse with
    | nil => rfl
    | cons c r =>
      have hc := h c (by rw [← List.mem_reverse, hr]; exact .head _)
      rw [List.takeWhile_cons]
      simp [hc]
  unfold stripSame
  rw [e]
  simp [stripLo, stripHi, h2]
end Mine
namespace Mine
def binText (l : List UInt8) : Str := ⟨(48 :: 98 :: 49 :: (bitsOf l).map hexDig).toArray⟩
theorem bin_text (l : List UInt8) : baseText "0b" 2 (foldB 16 0 (0 :: 1 :: nibs l) : Int) = binText l := by
  have e : foldB 16 0 (0 :: 1 :: nibs l) = foldB 2 0 (1 :: bitsOf l) := by
    show foldB 16 1 (nibs l) = foldB 2 1 (bitsOf l)
    exact fold_same l 1
  rw [e]
  apply Str.ext'
  apply Array.toList_inj.mp
  rw [baseText_digits (pl := [48, 98]) (by decide +kernel) (by decide) (by decide) (by decide) (by decide) (bitsOf_lt l)]
  simp [binText, hexDig]
theorem binText_length (l : List UInt8) : (binText l).length = 8 * l.length + 3 := by
  simp [binText, Str.length, bitsOf_length]
theorem bin_slice (l : List UInt8) {n : Int} (h : 0 ≤ n) : Txt.slice (binText l) (some 3) (some (n + 3)) = strBits ((bitsOf l).take n.toNat) := by
  rw [slice_cut (by decide) (by omega) (by rw [binText_length]; omega)]
  simp [binText, strBits, List.map_take]
def hexText (l : List UInt8) : Str := ⟨(48 :: 120 :: 56 :: 48 :: hexList l).toArray⟩
theorem hex_text (l : List UInt8) : baseText "0x" 16 (foldB 2 0 ([1, 0, 0, 0, 0, 0, 0, 0] ++ bitsOf l) : Int) = hexText l := by
  have e : foldB 2 0 ([1, 0, 0, 0, 0, 0, 0, 0] ++ bitsOf l) = foldB 16 0 (8 :: 0 :: nibs l) := by
    rw [foldB_append]
    show foldB 2 128 (bitsOf l) = foldB 16 128 (nibs l)
    exact (fold_same l 128).symm
  rw [e]
  apply Str.ext'
  apply Array.toList_inj.mp
  rw [baseText_digits (pl := [48, 120]) (by decide +kernel) (by decide) (by decide) (by decide) (by decide) (by intro x hx; rcases List.mem_cons.mp hx with rfl | hx; decide; exact nibs_lt l x hx)]
  simp [hexText, hexDig, hexList_nibs]
theorem hexText_length (l : List UInt8) : (hexText l).length = 2 * l.length + 4 := by
  simp [hexText, Str.length, hexList_length]
theorem hex_slice (l : List UInt8) : Txt.slice (hexText l) (some 4) none = ⟨(hexList l).toArray⟩ := by
  rw [slice_from_eq (b := ((hexText l).length : Int)) (by decide) (by rw [hexText_length]; omega) rfl]
  have e : ((hexText l).length : Int) - 4 = ((2 * l.length : Nat) : Int) := by rw [hexText_length]; omega
  rw [e]
  simp only [hexText, Int.toNat_natCast]
  congr 2
  show List.take (2 * l.length) (hexList l) = hexList l
  rw [List.take_of_length_le (by rw [hexList_length]; omega)]
theorem hex_noL (l : List UInt8) : Txt.rstripChars ⟨(hexList l).toArray⟩ (Str.ofString "L") = ⟨(hexList l).toArray⟩ := by
  apply rstrip_L
  intro c hc
  change c ∈ hexList l at hc
  rw [hexList_nibs] at hc
  obtain ⟨d, hd, rfl⟩ := List.mem_map.mp hc
  have := nibs_lt l d hd
  unfold hexDig
  split <;> omega
theorem strBits_length (ds : List Nat) : (strBits ds).length = ds.length := by simp [strBits, Str.length]
theorem strBits_inj {a b : List Nat} (ha : ∀ d ∈ a, d < 2) (hb : ∀ d ∈ b, d < 2) (h : strBits a = strBits b) : a = b := by
  have e : a.map hexDig = b.map hexDig := by simpa [strBits] using h
  have l : ∀ c : List Nat, (∀ d ∈ c, d < 2) → (c.map hexDig).map (· - 48) = c := by
    intro c hc
    rw [List.map_map]
    refine (List.map_congr_left fun d hd => ?_).trans (List.map_id _)
    have := hc d hd
    show hexDig d - 48 = id d
    unfold hexDig
    rw [if_pos (by omega)]
    simp
  rw [← l a ha, ← l b hb, e]
end Mine
end

/-! C3 -/
section
set_option linter.unusedVariables false
open PySem PySem.W PyProof.Rows PySem.Calls
namespace Mine
abbrev arrObj (b : Array UInt8) : Obj := { cls := .type "bytearray", data := .bytearray b }
theorem arr_kit {h₀ h : Heap} {L d : Addr} {b : Array UInt8} {news : List (Addr × Obj)} (N : News h₀ L h news) (hm : (d, arrObj b) ∈ news) : KitAt d "bytearray" h := ⟨_, (N _ hm).1, rfl⟩
local macro_rules | `(tactic| walk_at "call type:type") => `(tactic| (k_here; (with_reducible show wpAny _ _ (call (Value.type "type") [Value.bytes _ _]) _ _ _); refine call_type_of (Tx := "bytes") rfl (by decide +kernel) ?_))
local macro_rules | `(tactic| walk_at "call type:type") => `(tactic| (k_here; (with_reducible show wpAny _ _ (call (Value.type "type") [Value.ref _]) _ _ _); refine kto_cont (T := "bytearray") (arr_kit (by k_asm) (by assumption)) (by decide +kernel) ?_))
local macro_rules | `(tactic| walk_at "call type:bytes") => `(tactic| (k_here; (with_reducible show wpAny _ _ (call (Value.type "bytes") [Value.bytes _ _]) _ _ _); refine call_bytes_bytes ?_))
local macro_rules | `(tactic| walk_at "call type:bytes") => `(tactic| (k_here; (with_reducible show wpAny _ _ (call (Value.type "bytes") [Value.ref _]) _ _ _); refine call_bytes_array (b := _) (n := 0) (News.get (by k_asm) (by assumption)) (by first | assumption | (rw [sizeLine_eq]; omega)) ?_; intro _ _))
local macro_rules | `(tactic| walk_at "getMethod bytes") => `(tactic| (k_here; with_reducible refine method_hex ?_))
local macro_rules | `(tactic| walk_at "getMethod str") => `(tactic| (k_here; with_reducible refine method_encode ?_))
local macro_rules | `(tactic| walk_at "call builtin:bytes.hex") => `(tactic| (k_here; (with_reducible show wpAny _ _ (call (Value.builtin "bytes.hex") [Value.bytes _ _]) _ _ _); refine call_hex (by assumption) ?_; intro _ _))
local macro_rules | `(tactic| walk_at "call builtin:str.isascii") => `(tactic| (k_here; (with_reducible show wpAny _ _ (call (Value.builtin "str.isascii") [Value.str _ _]) _ _ _); refine KXw.isascii (b := true) (by assumption) ?_))
local macro_rules | `(tactic| walk_at "call builtin:str.encode") => `(tactic| (k_here; (with_reducible show wpAny _ _ (call (Value.builtin "str.encode") [Value.str _ _, Value.str _ _]) _ _ _); refine call_encode (by assumption) (by assumption) ?_; intro _ _))
local macro_rules | `(tactic| walk_at "mine enter") => `(tactic| (refine wpAny_call ?_; k_dflt (refine' code_def ?k1 ?k2 ?k3 ?k4 ?k5 ?kA ?kF ?kK ?k6 ?k7 ?k8 ?k9 ?kB ?_ ?c2 ?c3 ?c4 ?c5; (case kA => exact rfl); (case kF => exact rfl); (case kK => assumption); (case k1 => k_asm); (case k2 => k_asm); (case k3 => k_asm); (case k4 => k_asm); (case k5 => k_asm); (case k6 => k_is); (case k7 => k_is); (case k8 => ktr_room); (case k9 => first | exact BindsTo.of_eq rfl | exact binds_K (by k_in) rfl (by k_is) rfl rfl rfl); (case c5 => decide); (case kB => exact locs rfl); (case c2 => exact rfl); (case c3 => exact rfl); (case c4 => exact rfl); k_whole; intro g' L' h' FG' F' N' B' X' T'; (try dsimp only); (try k_lift B'); (try k_fold))))
section
variable {w : World} {p : Program} {loose : List Str} {mean : ExcName → Option Value} {mg mb : Str → Option Value}
    {dp un : Nat} {gd : Option (List Code)} {cn : Str} {cs : Scope} {a : Addr} {ccd : Value} {cl : List (Str × Addr)} {outer : List Env} {A₀ : Around} {base h₀ : Heap} {L : Addr} {m : Str → Option Value} {s : Shared} {Q E : Value → Shared → Prop}
    {news : List (Addr × Obj)}
set_option maxRecDepth 100000
set_option maxHeartbeats 8000000

theorem buffer_b {b : Array UInt8} {t : Tok}
    (B : Below A₀ base outer h₀) (F : Fr h₀ L s.heap m) (X : (hd.heap_39 w.params).In h₀) (N : News h₀ L s.heap news) (T : Top p loose mean mg mb h₀) (hk : cs.kind = .function)
    (hd1 : dp + 2 < recursionLimit) (hu1 : un + 16 < cLine)
    (hret : ∀ t' h' tk', Fr h₀ L h' m → News h₀ L h' news → Q (.bytes b t') { s with heap := h', toks := tk' }) :
    wpAny (model PySem.Challenge.rw_eh5005_01.row.prog w) (ktrTop dp un gd cn cs L a ccd cl outer) (call (.ref 48) [.bytes b t]) Q E s := by
  w_top off; revert X; k_fill; intro X
  walk_at "mine enter"
  k_steps
  all_goals exact hret _ _ _ (by k_asm) (by k_asm)

theorem buffer_a {b : Array UInt8} {d : Addr} 
    (B : Below A₀ base outer h₀) (F : Fr h₀ L s.heap m) (X : (hd.heap_39 w.params).In h₀) (N : News h₀ L s.heap news) (T : Top p loose mean mg mb h₀) (hk : cs.kind = .function)
    (hd1 : dp + 2 < recursionLimit) (hu1 : un + 16 < cLine)
    (hm : (d, arrObj b) ∈ news) (hz : b.size ≤ 1000)
    (hret : ∀ t' h' tk', Fr h₀ L h' m → News h₀ L h' news → Q (.bytes b t') { s with heap := h', toks := tk' }) :
    wpAny (model PySem.Challenge.rw_eh5005_01.row.prog w) (ktrTop dp un gd cn cs L a ccd cl outer) (call (.ref 48) [.ref d]) Q E s := by
  w_top off; revert X; k_fill; intro X
  walk_at "mine enter"
  k_steps
  all_goals exact hret _ _ _ (by k_asm) (by k_asm)

theorem ascii_s {x : Str} {t : Tok} 
    (B : Below A₀ base outer h₀) (F : Fr h₀ L s.heap m) (X : (hd.heap_39 w.params).In h₀) (N : News h₀ L s.heap news) (T : Top p loose mean mg mb h₀) (hk : cs.kind = .function)
    (hd1 : dp + 2 < recursionLimit) (hu1 : un + 16 < cLine)
    (hx : ∀ c ∈ x.cps.toList, c < 128) (hx2 : Txt.isascii x = true) (hl : x.cps.size ≤ 16777216)
    (hret : ∀ t' h' tk', Fr h₀ L h' m → News h₀ L h' news → Q (.bytes (x.cps.map (·.toUInt8)) t') { s with heap := h', toks := tk' }) :
    wpAny (model PySem.Challenge.rw_eh5005_01.row.prog w) (ktrTop dp un gd cn cs L a ccd cl outer) (call (.ref 41) [.str x t]) Q E s := by
  w_top off; revert X; k_fill; intro X
  walk_at "mine enter"
  k_steps
  all_goals exact hret _ _ _ (by k_asm) (by k_asm)
end
end Mine
end

/-! C4 -/
section
open PySem PySem.W PyProof.Rows PySem.Calls
set_option linter.unusedVariables false
namespace Mine
local macro_rules | `(tactic| walk_at "call type:type") => `(tactic| (k_here; (with_reducible show wpAny _ _ (call (Value.type "type") [Value.bytes _ _]) _ _ _); refine call_type_of (Tx := "bytes") rfl (by decide +kernel) ?_))
local macro_rules | `(tactic| walk_at "getMethod bytes") => `(tactic| (k_here; with_reducible refine method_hex ?_))
local macro_rules | `(tactic| walk_at "getMethod str") => `(tactic| (k_here; with_reducible refine method_encode ?_))
local macro_rules | `(tactic| walk_at "call builtin:bytes.hex") => `(tactic| (k_here; (with_reducible show wpAny _ _ (call (Value.builtin "bytes.hex") [Value.bytes _ _]) _ _ _); refine call_hex (by assumption) ?_; intro _ _))
local macro_rules | `(tactic| walk_at "call builtin:str.encode") => `(tactic| (k_here; (with_reducible show wpAny _ _ (call (Value.builtin "str.encode") [Value.str _ _, Value.str _ _]) _ _ _); refine call_encode (by assumption) (by assumption) ?_; intro _ _))
local macro_rules | `(tactic| walk_at "mine enter") => `(tactic| (refine wpAny_call ?_; k_dflt (refine' code_def ?k1 ?k2 ?k3 ?k4 ?k5 ?kA ?kF ?kK ?k6 ?k7 ?k8 ?k9 ?kB ?_ ?c2 ?c3 ?c4 ?c5; (case kA => exact rfl); (case kF => exact rfl); (case kK => assumption); (case k1 => k_asm); (case k2 => k_asm); (case k3 => k_asm); (case k4 => k_asm); (case k5 => k_asm); (case k6 => k_is); (case k7 => k_is); (case k8 => ktr_room); (case k9 => first | exact BindsTo.of_eq rfl | exact binds_K (by k_in) rfl (by k_is) rfl rfl rfl); (case c5 => decide); (case kB => exact locs rfl); (case c2 => exact rfl); (case c3 => exact rfl); (case c4 => exact rfl); k_whole; intro g' L' h' FG' F' N' B' X' T'; (try dsimp only); (try k_lift B'); (try k_fold))))
local macro_rules | `(tactic| walk_at "call ref") => `(tactic| (k_here; (with_reducible show wpAny _ _ (call (Value.ref 48) [Value.bytes _ _]) _ _ _); k_dflt (refine' buffer_b ?k1 ?k2 ?k3 ?k4 ?k5 ?k6 ?k7 ?k8 ?_; (case k1 => k_asm); (case k2 => k_asm); (case k3 => k_asm); (case k4 => k_asm); (case k5 => k_asm); (case k6 => first | exact rfl | assumption); (case k7 => ktr_room); (case k8 => ktr_units)); intro t9 h9 tk9 F9 N9; (try dsimp only); (try k_fold)))
local macro_rules | `(tactic| walk_at "call ref") => `(tactic| (k_here; (with_reducible show wpAny _ _ (call (Value.ref 48) [Value.ref _]) _ _ _); k_dflt (refine' buffer_a ?k1 ?k2 ?k3 ?k4 ?k5 ?k6 ?k7 ?k8 ?k9 ?k10 ?_; (case k1 => k_asm); (case k2 => k_asm); (case k3 => k_asm); (case k4 => k_asm); (case k5 => k_asm); (case k6 => first | exact rfl | assumption); (case k7 => ktr_room); (case k8 => ktr_units); (case k9 => assumption); (case k10 => assumption)); intro t9 h9 tk9 F9 N9; (try dsimp only); (try k_fold)))

theorem hexList_lt (l : List UInt8) : ∀ c ∈ hexList l, c < 128 := by
  intro c hc
  obtain ⟨b, hb, hc⟩ := List.mem_flatMap.mp hc
  have h1 : b.toNat < 256 := b.toNat_lt
  simp only [List.mem_cons, List.not_mem_nil, or_false] at hc
  rcases hc with rfl | rfl
  · exact (hexDig_ne (by omega)).2.2.2.2.2.2.2.2.2.1
  · exact (hexDig_ne (by omega)).2.2.2.2.2.2.2.2.2.1
def hexBytes (l : List UInt8) : Array UInt8 := (hexList l).toArray.map (·.toUInt8)
section
variable {w : World} {p : Program} {loose : List Str} {mean : ExcName → Option Value} {mg mb : Str → Option Value}
    {dp un : Nat} {gd : Option (List Code)} {cn : Str} {cs : Scope} {a : Addr} {ccd : Value} {cl : List (Str × Addr)} {outer : List Env} {A₀ : Around} {base h₀ : Heap} {L : Addr} {m : Str → Option Value} {s : Shared} {Q E : Value → Shared → Prop}
    {news : List (Addr × Obj)}
set_option maxRecDepth 100000
set_option maxHeartbeats 8000000

theorem b2a_b {b : Array UInt8} {t : Tok} (hz : b.size ≤ 1000)
    (B : Below A₀ base outer h₀) (F : Fr h₀ L s.heap m) (X : (hd.heap_39 w.params).In h₀) (N : News h₀ L s.heap news) (T : Top p loose mean mg mb h₀) (hk : cs.kind = .function)
    (hd1 : dp + 4 < recursionLimit) (hu1 : un + 32 < cLine)
    (hret : ∀ t' h' tk', Fr h₀ L h' m → News h₀ L h' news → Q (.bytes (hexBytes b.toList) t') { s with heap := h', toks := tk' }) :
    wpAny (model PySem.Challenge.rw_eh5005_01.row.prog w) (ktrTop dp un gd cn cs L a ccd cl outer) (call (.ref 57) [.bytes b t]) Q E s := by
  w_top off; revert X; k_fill; intro X
  have hx1 := hexList_lt b.toList
  have hx2 : (⟨(hexList b.toList).toArray⟩ : Str).cps.size ≤ 16777216 := by
    show (hexList b.toList).toArray.size ≤ _
    rw [List.size_toArray, hexList_length, Array.length_toList]; omega
  have hx3 : ∀ c ∈ (⟨(hexList b.toList).toArray⟩ : Str).cps.toList, c < 128 := hx1
  walk_at "mine enter"
  k_steps
  all_goals exact hret _ _ _ (by k_asm) (by k_asm)
theorem b2a_a {b : Array UInt8} {d : Addr} (hz : b.size ≤ 1000) (hm : (d, arrObj b) ∈ news)
    (B : Below A₀ base outer h₀) (F : Fr h₀ L s.heap m) (X : (hd.heap_39 w.params).In h₀) (N : News h₀ L s.heap news) (T : Top p loose mean mg mb h₀) (hk : cs.kind = .function)
    (hd1 : dp + 4 < recursionLimit) (hu1 : un + 32 < cLine)
    (hret : ∀ t' h' tk', Fr h₀ L h' m → News h₀ L h' news → Q (.bytes (hexBytes b.toList) t') { s with heap := h', toks := tk' }) :
    wpAny (model PySem.Challenge.rw_eh5005_01.row.prog w) (ktrTop dp un gd cn cs L a ccd cl outer) (call (.ref 57) [.ref d]) Q E s := by
  w_top off; revert X; k_fill; intro X
  have hx1 := hexList_lt b.toList
  have hx2 : (⟨(hexList b.toList).toArray⟩ : Str).cps.size ≤ 16777216 := by
    show (hexList b.toList).toArray.size ≤ _
    rw [List.size_toArray, hexList_length, Array.length_toList]; omega
  have hx3 : ∀ c ∈ (⟨(hexList b.toList).toArray⟩ : Str).cps.toList, c < 128 := hx1
  walk_at "mine enter"
  k_steps
  all_goals exact hret _ _ _ (by k_asm) (by k_asm)
end
end Mine
end

/-! C5 -/
section
open PySem PySem.W PyProof.Rows PySem.Calls
set_option linter.unusedVariables false
namespace Mine
local macro_rules | `(tactic| walk_at "mine enter") => `(tactic| (refine wpAny_call ?_; k_dflt (refine' code_def ?k1 ?k2 ?k3 ?k4 ?k5 ?kA ?kF ?kK ?k6 ?k7 ?k8 ?k9 ?kB ?_ ?c2 ?c3 ?c4 ?c5; (case kA => exact rfl); (case kF => exact rfl); (case kK => assumption); (case k1 => k_asm); (case k2 => k_asm); (case k3 => k_asm); (case k4 => k_asm); (case k5 => k_asm); (case k6 => k_is); (case k7 => k_is); (case k8 => ktr_room); (case k9 => first | exact BindsTo.of_eq rfl | exact binds_K (by k_in) rfl (by k_is) rfl rfl rfl); (case c5 => decide); (case kB => exact locs rfl); (case c2 => exact rfl); (case c3 => exact rfl); (case c4 => exact rfl); k_whole; intro g' L' h' FG' F' N' B' X' T'; (try dsimp only); (try k_lift B'); (try k_fold))))
local macro_rules | `(tactic| walk_at "call builtin:len") => `(tactic| (k_here; (with_reducible show wpAny _ _ (call (Value.builtin "len") [Value.bytes (hexBytes _) _]) _ _ _); refine len_bytes (by omega) ?_))

theorem hexBytes_size (l : List UInt8) : (hexBytes l).size = 2 * l.length := by
  rw [hexBytes, Array.size_map, List.size_toArray, hexList_length]
def nib (d : Nat) : Int := (d : Int)
section
variable {w : World} {p : Program} {loose : List Str} {mean : ExcName → Option Value} {mg mb : Str → Option Value}
    {dp un : Nat} {gd : Option (List Code)} {cn : Str} {cs : Scope} {a : Addr} {ccd : Value} {cl : List (Str × Addr)} {outer : List Env} {A₀ : Around} {base h₀ : Heap} {L : Addr} {m : Str → Option Value} {s : Shared} {Q E : Value → Shared → Prop}
    {news : List (Addr × Obj)}
set_option maxRecDepth 100000
set_option maxHeartbeats 8000000

theorem hexv {d : Nat} {t : Tok} (hlt : d < 16)
    (B : Below A₀ base outer h₀) (F : Fr h₀ L s.heap m) (X : (hd.heap_39 w.params).In h₀) (N : News h₀ L s.heap news) (T : Top p loose mean mg mb h₀) (hk : cs.kind = .function)
    (hd1 : dp + 2 < recursionLimit) (hu1 : un + 16 < cLine)
    (hret : ∀ t' h' tk', Fr h₀ L h' m → News h₀ L h' news → Q (.int (d : Int) t') { s with heap := h', toks := tk' }) :
    wpAny (model PySem.Challenge.rw_eh5005_01.row.prog w) (ktrTop dp un gd cn cs L a ccd cl outer) (call (.ref 64) [.int (hexDig d : Int) t]) Q E s := by
  w_top off; revert X; k_fill; intro X
  have h1 : (48 ≤ (hexDig d : Int) ∧ (hexDig d : Int) ≤ 57 ∧ (hexDig d : Int) - 48 = d) ∨ (97 ≤ (hexDig d : Int) ∧ (hexDig d : Int) ≤ 102 ∧ (hexDig d : Int) - 87 = d) := by
    unfold hexDig
    split <;> omega
  generalize (hexDig d : Int) = c at *
  walk_at "mine enter"
  k_steps
  all_goals first
    | (exfalso; omega)
    | ((refine' cb_retI (Q := Q) hret ?e1 ?e2 ?e3); (case e2 => k_asm); (case e3 => k_asm); (case e1 => omega))

theorem ascii_hex {l : List UInt8} {t : Tok} (hl : l.length ≤ 1000)
    (B : Below A₀ base outer h₀) (F : Fr h₀ L s.heap m) (X : (hd.heap_39 w.params).In h₀) (N : News h₀ L s.heap news) (T : Top p loose mean mg mb h₀) (hk : cs.kind = .function)
    (hd1 : dp + 2 < recursionLimit) (hu1 : un + 16 < cLine)
    (hret : ∀ t' h' tk', Fr h₀ L h' m → News h₀ L h' news → Q (.bytes (hexBytes l) t') { s with heap := h', toks := tk' }) :
    wpAny (model PySem.Challenge.rw_eh5005_01.row.prog w) (ktrTop dp un gd cn cs L a ccd cl outer) (call (.ref 41) [.str ⟨(hexList l).toArray⟩ t]) Q E s := by
  have hx1 := hexList_lt l
  have hx2 : (⟨(hexList l).toArray⟩ : Str).cps.size ≤ 16777216 := by
    show (hexList l).toArray.size ≤ _
    rw [List.size_toArray, hexList_length]; omega
  have hx3 : ∀ c ∈ (⟨(hexList l).toArray⟩ : Str).cps.toList, c < 128 := hx1
  have hx4 : Txt.isascii ⟨(hexList l).toArray⟩ = true := by
    unfold Txt.isascii
    rw [Array.all_eq_true_iff_forall_mem]
    intro c hc
    exact decide_eq_true (hx1 c (by simpa using hc))
  exact ascii_s B F X N T hk hd1 hu1 hx3 hx4 hx2 hret
end
local macro_rules | `(tactic| walk_at "call ref") => `(tactic| (k_here; (with_reducible show wpAny _ _ (call (Value.ref 41) [Value.str _ _]) _ _ _); k_dflt (refine' ascii_hex ?k0 ?k1 ?k2 ?k3 ?k4 ?k5 ?k6 ?k7 ?k8 ?_; (case k0 => omega); (case k1 => k_asm); (case k2 => k_asm); (case k3 => k_asm); (case k4 => k_asm); (case k5 => k_asm); (case k6 => first | exact rfl | assumption); (case k7 => ktr_room); (case k8 => ktr_units)); intro t9 h9 tk9 F9 N9; (try dsimp only); (try k_fold)))
def Halt (P : Prop) : Prop := P
theorem halt {P : Prop} (h : Halt P) : P := h
def hiN (l : List UInt8) (j : Nat) : Nat := (l.getD j 0).toNat / 16
def loN (l : List UInt8) (j : Nat) : Nat := (l.getD j 0).toNat % 16
theorem hiN_lt (l : List UInt8) (j : Nat) : hiN l j < 16 := by
  have := (l.getD j 0).toNat_lt
  unfold hiN; omega
theorem loN_lt (l : List UInt8) (j : Nat) : loN l j < 16 := Nat.mod_lt _ (by decide)
theorem hexList_hi : ∀ (l : List UInt8) (j : Nat), j < l.length → (hexList l).getD (2 * j) 0 = hexDig (hiN l j) ∧ (hexList l).getD (2 * j + 1) 0 = hexDig (loN l j)
  | [], j, h => absurd h (Nat.not_lt_zero _)
  | c :: r, 0, _ => ⟨rfl, rfl⟩
  | c :: r, j + 1, h => by
    have ih := hexList_hi r j (Nat.lt_of_succ_lt_succ h)
    have e : hexList (c :: r) = hexDig (c.toNat / 16) :: hexDig (c.toNat % 16) :: hexList r := rfl
    rw [e]
    exact ih
theorem hexBytes_list (l : List UInt8) : hexBytes l = ((hexList l).map (·.toUInt8)).toArray := by simp [hexBytes]
theorem getD_byte {l : List Nat} {i : Nat} (hl : ∀ c ∈ l, c < 128) : ((l.map (fun c : Nat => c.toUInt8)).getD i 0).toNat = l.getD i 0 := by
  rw [List.getD_eq_getElem?_getD, List.getD_eq_getElem?_getD, List.getElem?_map]
  cases h : l[i]? with
  | none => rfl
  | some c =>
    have := hl c (List.mem_of_getElem? h)
    show c.toUInt8.toNat = c
    show c % 256 = c
    omega
section
variable {prog : Program} {w : World} {A : Around} {E : Value → Shared → Prop} {s : Shared} {value slice : Expr} {l : List UInt8} {j : Nat} {t ui : Tok} {Q : Value → Shared → Prop}
theorem item_hex_hi (hj : j < l.length) (hl : l.length ≤ 1000) (h : Q (.int (hexDig (hiN l j) : Int) s.toks) { s with toks := s.toks + 1 })
    (hs : subscripted slice false (.bytes (hexBytes l) t) (.int (2 * (j : Int)) ui) = operate [.bytes (hexBytes l) t, .int (2 * (j : Int)) ui] (getItem (.bytes (hexBytes l) t) (.int (2 * (j : Int)) ui)) := by with_unfolding_all rfl)
    (ht : ∀ r, letTemporaryGo value (.bytes (hexBytes l) t) r = pure () := by intro _; with_unfolding_all rfl) :
    wpAny (model prog w) A (subscriptTail value slice (.bytes (hexBytes l) t) (.int (2 * (j : Int)) ui)) Q E s := by
  have hlen : ((hexList l).map (·.toUInt8)).length = 2 * l.length := by rw [List.length_map, hexList_length]
  rw [hexBytes_list] at hs ht ⊢
  refine KBy.item_N (by omega) (by omega) (by omega) ?_ hs ht
  rw [getD_byte (hexList_lt l), show (2 * (j : Int)).toNat = 2 * j by omega, (hexList_hi l j hj).1]
  exact h
theorem item_hex_lo (hj : j < l.length) (hl : l.length ≤ 1000) (h : Q (.int (hexDig (loN l j) : Int) s.toks) { s with toks := s.toks + 1 })
    (hs : subscripted slice false (.bytes (hexBytes l) t) (.int (2 * (j : Int) + 1) ui) = operate [.bytes (hexBytes l) t, .int (2 * (j : Int) + 1) ui] (getItem (.bytes (hexBytes l) t) (.int (2 * (j : Int) + 1) ui)) := by with_unfolding_all rfl)
    (ht : ∀ r, letTemporaryGo value (.bytes (hexBytes l) t) r = pure () := by intro _; with_unfolding_all rfl) :
    wpAny (model prog w) A (subscriptTail value slice (.bytes (hexBytes l) t) (.int (2 * (j : Int) + 1) ui)) Q E s := by
  have hlen : ((hexList l).map (·.toUInt8)).length = 2 * l.length := by rw [List.length_map, hexList_length]
  rw [hexBytes_list] at hs ht ⊢
  refine KBy.item_N (by omega) (by omega) (by omega) ?_ hs ht
  rw [getD_byte (hexList_lt l), show (2 * (j : Int) + 1).toNat = 2 * j + 1 by omega, (hexList_hi l j hj).2]
  exact h
end
theorem ints_snoc {n : Int} {t : Tok} : ∀ {vs : List Value} {ns : List Int}, IntsAre vs ns → IntsAre (vs ++ [.int n t]) (ns ++ [n])
  | _, _, .nil => .cons n t .nil
  | _, _, .cons m u r => .cons m u (ints_snoc r)
theorem byte_join (l : List UInt8) (j : Nat) (hj : j < l.length) : (hiN l j : Int) * 2 ^ Int.toNat 4 + (loN l j : Int) = ((l[j].toNat : Nat) : Int) := by
  have e : l.getD j 0 = l[j] := by rw [List.getD_eq_getElem?_getD, List.getElem?_eq_getElem hj]; rfl
  have h4 : (2 : Int) ^ Int.toNat 4 = 16 := by decide
  unfold hiN loN
  rw [e, h4]
  omega
theorem take_snoc {l : List UInt8} {j : Nat} (hj : j < l.length) : (l.take (j + 1)).map (fun b => (b.toNat : Int)) = (l.take j).map (fun b => (b.toNat : Int)) ++ [(l[j].toNat : Int)] := by
  rw [List.take_add_one, List.getElem?_eq_getElem hj, List.map_append]; rfl
theorem bytes_back (l : List UInt8) : ((l.map fun b => (b.toNat : Int)).map fun n => n.toNat.toUInt8).toArray = l.toArray := by
  congr 1
  rw [List.map_map]
  have : ((fun n : Int => n.toNat.toUInt8) ∘ fun b : UInt8 => (b.toNat : Int)) = id := by
    funext b
    simp
  rw [this, List.map_id]
local macro_rules | `(tactic| walk_at "exec While Compare cons nil") => `(tactic| (k_here; refine halt ?_))
local macro_rules | `(tactic| walk_at "subscriptTail") => `(tactic| (k_here; (with_reducible show wpAny _ _ (subscriptTail _ _ (Value.bytes (hexBytes _) _) (Value.int (2 * _) _)) _ _ _); refine item_hex_hi (by omega) (by assumption) ?_))
local macro_rules | `(tactic| walk_at "subscriptTail") => `(tactic| (k_here; (with_reducible show wpAny _ _ (subscriptTail _ _ (Value.bytes (hexBytes _) _) (Value.int (2 * _ + 1) _)) _ _ _); refine item_hex_lo (by omega) (by assumption) ?_))
local macro_rules | `(tactic| walk_at "call ref") => `(tactic| (k_here; (with_reducible show wpAny _ _ (call (Value.ref 64) [Value.int _ _]) _ _ _); k_dflt (refine' hexv ?k0 ?k1 ?k2 ?k3 ?k4 ?k5 ?k6 ?k7 ?k8 ?_; (case k0 => first | exact hiN_lt _ _ | exact loN_lt _ _); (case k1 => k_asm); (case k2 => k_asm); (case k3 => k_asm); (case k4 => k_asm); (case k5 => k_asm); (case k6 => first | exact rfl | assumption); (case k7 => ktr_room); (case k8 => ktr_units)); intro t9 h9 tk9 F9 N9; (try dsimp only); (try k_fold)))
section
variable {w : World} {p : Program} {loose : List Str} {mean : ExcName → Option Value} {mg mb : Str → Option Value}
    {dp un : Nat} {gd : Option (List Code)} {cn : Str} {cs : Scope} {a : Addr} {ccd : Value} {cl : List (Str × Addr)} {outer : List Env} {A₀ : Around} {base h₀ : Heap} {L : Addr} {m : Str → Option Value} {s : Shared} {Q E : Value → Shared → Prop}
    {news : List (Addr × Obj)}
set_option maxRecDepth 100000
set_option maxHeartbeats 8000000
theorem a2b {l : List UInt8} {t : Tok} (hl : l.length ≤ 1000)
    (B : Below A₀ base outer h₀) (F : Fr h₀ L s.heap m) (X : (hd.heap_39 w.params).In h₀) (N : News h₀ L s.heap news) (T : Top p loose mean mg mb h₀) (hk : cs.kind = .function)
    (hd1 : dp + 4 < recursionLimit) (hu1 : un + 32 < cLine)
    (hret : ∀ t' h' tk', Fr h₀ L h' m → News h₀ L h' news → Q (.bytes l.toArray t') { s with heap := h', toks := tk' }) :
    wpAny (model PySem.Challenge.rw_eh5005_01.row.prog w) (ktrTop dp un gd cn cs L a ccd cl outer) (call (.ref 71) [.str ⟨(hexList l).toArray⟩ t]) Q E s := by
  w_top off; revert X; k_fill; intro X
  have hsz := hexBytes_size l
  walk_at "mine enter"
  k_steps
  · rename Int.fmod _ _ ≠ 0 => hq
    exact absurd (by rw [hsz]; simp [Int.fmod_eq_emod_of_nonneg]) hq
  rename Fr _ _ _ _ => hF
  rename News _ _ _ _ => hN
  refine (id : wpAny _ _ _ _ _ _ → Halt _) ?_
  refine' ksw_while (Led := fun c : Nat × Tok × List Value × Nat => (_, listOf c.2.2.1.toArray c.2.2.2) :: news) (ps := fun c => [(Str.ofString "i", .int (2 * (c.1 : Int)) c.2.1)]) (Facts := fun c => IntsAre c.2.2.1 ((l.take c.1).map fun b => (b.toNat : Int))) (stored := [Str.ofString "top", Str.ofString "bot"])
    (P := fun c => c.1 ≤ l.length) (μ := fun c => l.length - c.1) (c₀ := (0, _, [], 0)) hF hN ?kf ?kk ?kp ?turn
  case kk =>
    intro p hp
    obtain rfl := List.mem_singleton.mp hp
    rfl
  case kf => exact IntsAre.nil
  case kp => exact Nat.zero_le _
  case turn =>
    intro c u h tk hf hp F' N'
    obtain ⟨j, ti, vs, n⟩ := c
    clear hF hN
    dsimp only at hf hp F' N'
    have h1 := hiN_lt l j
    have h2 := loN_lt l j
    dsimp only
    (try k_fold)
    k_steps
    · rename News _ _ _ _ => nE
      rename Fr _ _ _ _ => fE
      rename 2 * _ < _ => hlt
      have hj : j < l.length := by omega
      simp only [List.push_toArray] at nE
      have e2 : (2 * (j : Int) + 2) = 2 * ((j + 1 : Nat) : Int) := by omega
      rw [e2] at fE
      refine ksw_end (j + 1, _, vs ++ [.int _ _], n + 1) fE nE (by exact fun p hp => hp) ?hf (by
        intro p hp
        obtain rfl := List.mem_singleton.mp hp
        exact if_pos rfl) ?hr hj (by dsimp only; omega)
      case hf =>
        show IntsAre _ ((l.take (j + 1)).map fun b => (b.toNat : Int))
        rw [take_snoc hj, ← byte_join l j hj]
        exact ints_snoc hf
      case hr =>
        intro z h2 h3
        have hz := h2 _ (.head _)
        simp only [List.contains_cons, List.contains_nil, Bool.or_false, Bool.or_eq_false_iff, beq_eq_false_iff_ne, ne_eq] at h3
        dsimp only at hz
        simp [kstB, hz, h3]
    · have hj : j = l.length := by omega
      subst hj
      rw [List.take_length] at hf
      refine' bytes_K (ns := l.map fun b => (b.toNat : Int)) F' N' ⟨_, News.get N' (.head _), rfl, _, rfl⟩ hf ?r ?z rfl ?h
      case r =>
        intro x hx
        obtain ⟨c, _, rfl⟩ := List.mem_map.mp hx
        have := c.toNat_lt
        omega
      case z => rw [hf.length, List.length_map, sizeLine_eq]; omega
      case h =>
        intro h' t' k' F'' N'' _
        rw [bytes_back]
        k_steps
        all_goals ((refine' hret _ _ _ ?e1 ?e2); (case e1 => k_asm); (case e2 => first | k_asm | (refine' cb_drop ?cbN ?cbS; (case cbN => assumption); (case cbS => kcj_all))))
end
end Mine
end

/-! C6 -/
section
open PySem PySem.W PyProof.Rows PySem.Calls
set_option linter.unusedVariables false
namespace Mine
local macro_rules | `(tactic| walk_at "mine enter") => `(tactic| (refine wpAny_call ?_; k_dflt (refine' code_def ?k1 ?k2 ?k3 ?k4 ?k5 ?kA ?kF ?kK ?k6 ?k7 ?k8 ?k9 ?kB ?_ ?c2 ?c3 ?c4 ?c5; (case kA => exact rfl); (case kF => exact rfl); (case kK => assumption); (case k1 => k_asm); (case k2 => k_asm); (case k3 => k_asm); (case k4 => k_asm); (case k5 => k_asm); (case k6 => k_is); (case k7 => k_is); (case k8 => ktr_room); (case k9 => first | exact BindsTo.of_eq rfl | exact binds_K (by k_in) rfl (by k_is) rfl rfl rfl); (case c5 => decide); (case kB => exact locs rfl); (case c2 => exact rfl); (case c3 => exact rfl); (case c4 => exact rfl); k_whole; intro g' L' h' FG' F' N' B' X' T'; (try dsimp only); (try k_lift B'); (try k_fold))))
section
variable {prog : Program} {w : World} {A : Around} {E : Value → Shared → Prop} {s : Shared} {Q : Value → Shared → Prop}
theorem add01 {l : List UInt8} {t u : Tok} (hl : l.length ≤ 300) (h : ∀ t' k, Q (.bytes (#[48, 49] ++ hexBytes l) t') { s with toks := k }) : wpAny (model prog w) A (binaryOp .Add (.bytes #[48, 49] t) (.bytes (hexBytes l) u)) Q E s :=
  KBy.add_bytes (by rw [hexBytes_size]; show 2 + _ ≤ _; omega) h
theorem int01 {l : List UInt8} {t u : Tok} (hl : l.length ≤ 300) (h : ∀ t' k, Q (.int (foldB 16 0 (0 :: 1 :: nibs l) : Nat) t') { s with toks := k }) : wpAny (model prog w) A (call (.type "int") [.bytes (#[48, 49] ++ hexBytes l) t, .int 16 u]) Q E s := by
  refine call_int_bytes (base := 16) (by decide) (by decide) (by decide) ?_ ?_ ?_ ?_ h
  · intro d hd
    rcases List.mem_cons.mp hd with rfl | hd
    · decide
    rcases List.mem_cons.mp hd with rfl | hd
    · decide
    exact nibs_lt l d hd
  · exact .inr ⟨_, rfl⟩
  · have : (nibs l).length = 2 * l.length := by
      have := congrArg List.length (hexList_nibs l)
      rw [hexList_length, List.length_map] at this
      exact this.symm
    simp only [List.length_cons]; omega
  · simp only [Array.toList_append, List.map_append, List.map_cons]
    rw [hexBytes_list, hexList_nibs]
    simp only [List.map_map]
    show [48, 49] ++ _ = 48 :: 49 :: _
    show 48 :: 49 :: _ = 48 :: 49 :: _
    congr 2
    apply List.map_congr_left
    intro d hd
    have := nibs_lt l d hd
    show (hexDig d) % 256 = hexDig d
    have := (hexDig_ne this).2.2.2.2.2.2.2.2.2.1
    omega
theorem bin01 {l : List UInt8} {t : Tok} (hl : l.length ≤ 300) (h : Q (.str (binText l) s.toks) { s with toks := s.toks + 1 }) : wpAny (model prog w) A (call (.builtin "bin") [.int (foldB 16 0 (0 :: 1 :: nibs l) : Nat) t]) Q E s := by
  rw [← bin_text] at h
  exact P.bin_of_int h (by rw [bin_text, binText_length, sizeLine_eq]; omega)
variable {h₀ : Heap} {L : Addr} {m : Str → Option Value} {news : List (Addr × Obj)} {value slice : Expr} {t : Tok}
theorem slice01 {l : List UInt8} {n : Int} {ui uj : Tok} (hl : l.length ≤ 300) (h0 : 0 ≤ n) (hF : Fr h₀ L s.heap m) (hN : News h₀ L s.heap news) (h : ∀ h' t' k, Fr h₀ L h' m → News h₀ L h' news → Q (.str (strBits ((bitsOf l).take n.toNat)) t') { s with heap := h', toks := k })
    (hs : subscripted slice false (.str (binText l) t) (.ref s.heap.objs.size) = operate [.ref s.heap.objs.size, .str (binText l) t] (getItem (.str (binText l) t) (.ref s.heap.objs.size)) := by with_unfolding_all rfl)
    (ht : ∀ r, letTemporaryGo value (.str (binText l) t) r = pure () := by intro _; with_unfolding_all rfl) :
    wpAny (model prog w) A (subscriptTail value slice (.str (binText l) t) (.ref s.heap.objs.size)) Q E { s with heap := s.heap.push { cls := .type "slice", data := .fields #[.int 3 ui, .int (n + 3) uj, .none] } } := by
  refine slice_strN_ss hF hN (fun h' t' k a b => ?_) hs ht (by rw [binText_length, sizeLine_eq]; omega)
  rw [bin_slice l h0]
  exact h h' t' k a b
end
local macro_rules | `(tactic| walk_at "binaryOp") => `(tactic| (k_here; (with_reducible refine add01 (by assumption) ?_); intro _ _))
local macro_rules | `(tactic| walk_at "call type:int") => `(tactic| (k_here; (with_reducible refine int01 (by assumption) ?_); intro _ _))
local macro_rules | `(tactic| walk_at "call builtin:bin") => `(tactic| (k_here; (with_reducible refine bin01 (by assumption) ?_)))
local macro_rules | `(tactic| walk_at "subscriptTail") => `(tactic| (k_here; refine slice01 (by assumption) (by assumption) (by k_asm) (by k_asm) ?_; intro _ _ _ _ _))
section
variable {w : World} {p : Program} {loose : List Str} {mean : ExcName → Option Value} {mg mb : Str → Option Value}
    {dp un : Nat} {gd : Option (List Code)} {cn : Str} {cs : Scope} {a : Addr} {ccd : Value} {cl : List (Str × Addr)} {outer : List Env} {A₀ : Around} {base h₀ : Heap} {L : Addr} {m : Str → Option Value} {s : Shared} {Q E : Value → Shared → Prop}
    {news : List (Addr × Obj)}
set_option maxRecDepth 100000
set_option maxHeartbeats 8000000
theorem pack_b {b : Array UInt8} {t u : Tok} {n : Int} (hz : b.toList.length ≤ 300) (h0 : 0 ≤ n)
    (B : Below A₀ base outer h₀) (F : Fr h₀ L s.heap m) (X : (hd.heap_39 w.params).In h₀) (N : News h₀ L s.heap news) (T : Top p loose mean mg mb h₀) (hk : cs.kind = .function)
    (hd1 : dp + 6 < recursionLimit) (hu1 : un + 64 < cLine)
    (hret : ∀ t' h' tk', Fr h₀ L h' m → News h₀ L h' news → Q (.str (strBits ((bitsOf b.toList).take n.toNat)) t') { s with heap := h', toks := tk' }) :
    wpAny (model PySem.Challenge.rw_eh5005_01.row.prog w) (ktrTop dp un gd cn cs L a ccd cl outer) (call (.ref 78) [.int n t, .bytes b u]) Q E s := by
  w_top off; revert X; k_fill; intro X
  have hz2 : b.size ≤ 1000 := by rw [Array.length_toList] at hz; omega
  walk_at "mine enter"
  k_steps
  k_dflt (refine' b2a_b ?q0 ?q1 ?q2 ?q3 ?q4 ?q5 ?q6 ?q7 ?q8 ?_)
  case q0 => omega
  case q1 => k_asm
  case q2 => k_asm
  case q3 => k_asm
  case q4 => k_asm
  case q5 => k_asm
  case q6 => first | exact rfl | assumption
  case q7 => ktr_room
  case q8 => ktr_units
  intro t9 h9 tk9 F9 N9
  (try dsimp only)
  (try k_fold)
  k_steps
  all_goals exact hret _ _ _ (by k_asm) (by k_asm)
theorem pack_a {b : Array UInt8} {d : Addr} {t : Tok} {n : Int} (hz : b.toList.length ≤ 300) (h0 : 0 ≤ n) (hm : (d, arrObj b) ∈ news)
    (B : Below A₀ base outer h₀) (F : Fr h₀ L s.heap m) (X : (hd.heap_39 w.params).In h₀) (N : News h₀ L s.heap news) (T : Top p loose mean mg mb h₀) (hk : cs.kind = .function)
    (hd1 : dp + 6 < recursionLimit) (hu1 : un + 64 < cLine)
    (hret : ∀ t' h' tk', Fr h₀ L h' m → News h₀ L h' news → Q (.str (strBits ((bitsOf b.toList).take n.toNat)) t') { s with heap := h', toks := tk' }) :
    wpAny (model PySem.Challenge.rw_eh5005_01.row.prog w) (ktrTop dp un gd cn cs L a ccd cl outer) (call (.ref 78) [.int n t, .ref d]) Q E s := by
  w_top off; revert X; k_fill; intro X
  have hz2 : b.size ≤ 1000 := by rw [Array.length_toList] at hz; omega
  walk_at "mine enter"
  k_steps
  k_dflt (refine' b2a_a ?q0 ?qm ?q1 ?q2 ?q3 ?q4 ?q5 ?q6 ?q7 ?q8 ?_)
  case q0 => omega
  case qm => assumption
  case q1 => k_asm
  case q2 => k_asm
  case q3 => k_asm
  case q4 => k_asm
  case q5 => k_asm
  case q6 => first | exact rfl | assumption
  case q7 => ktr_room
  case q8 => ktr_units
  intro t9 h9 tk9 F9 N9
  (try dsimp only)
  (try k_fold)
  k_steps
  all_goals exact hret _ _ _ (by k_asm) (by k_asm)
end
end Mine
end

/-! C7 -/
section
open PySem PySem.W PyProof.Rows PySem.Calls
set_option linter.unusedVariables false
namespace Mine
local macro_rules | `(tactic| walk_at "mine enter") => `(tactic| (refine wpAny_call ?_; k_dflt (refine' code_def ?k1 ?k2 ?k3 ?k4 ?k5 ?kA ?kF ?kK ?k6 ?k7 ?k8 ?k9 ?kB ?_ ?c2 ?c3 ?c4 ?c5; (case kA => exact rfl); (case kF => exact rfl); (case kK => assumption); (case k1 => k_asm); (case k2 => k_asm); (case k3 => k_asm); (case k4 => k_asm); (case k5 => k_asm); (case k6 => k_is); (case k7 => k_is); (case k8 => ktr_room); (case k9 => first | exact BindsTo.of_eq rfl | exact binds_K (by k_in) rfl (by k_is) rfl rfl rfl); (case c5 => decide); (case kB => exact locs rfl); (case c2 => exact rfl); (case c3 => exact rfl); (case c4 => exact rfl); k_whole; intro g' L' h' FG' F' N' B' X' T'; (try dsimp only); (try k_lift B'); (try k_fold))))
theorem strBits_append (a b : List Nat) : strBits a ++ strBits b = strBits (a ++ b) := by
  apply Str.ext'
  apply Array.toList_inj.mp
  simp [strBits, Str.cps_append]
theorem rep_fold (c : Array Nat) (n : Nat) : (List.foldl (· ++ ·) #[] (List.replicate n c)).toList = (List.replicate n c.toList).flatten := by
  have : ∀ (l : List (Array Nat)) (a : Array Nat), (List.foldl (· ++ ·) a l).toList = a.toList ++ (l.map Array.toList).flatten := by
    intro l
    induction l with
    | nil => intro a; simp
    | cons x r ih => intro a; rw [List.foldl_cons, ih]; simp
  rw [this]
  simp
theorem mul_bits (d : Nat) {n : Int} (h : 0 ≤ n) : Txt.mul (strBits [d]) n = strBits (List.replicate n.toNat d) := by
  apply Str.ext'
  apply Array.toList_inj.mp
  unfold Txt.mul
  split
  · rw [show n.toNat = 0 by omega]; simp [strBits, Str.empty]
  split
  · rename_i h1 h2
    have : n = 1 := by
      rcases Bool.or_eq_true_iff.mp h2 with h | h
      · exact of_decide_eq_true h
      · simp [strBits, Str.length] at h
    subst this
    rfl
  · simp only
    rw [rep_fold]
    simp [strBits]
section
variable {prog : Program} {w : World} {A : Around} {E : Value → Shared → Prop} {s : Shared} {Q : Value → Shared → Prop}
theorem zero_rep {n : Int} {t u : Tok} (h0 : 0 ≤ n) (h1 : n ≤ 100) (h : ∀ t' k, Q (.str (strBits (List.replicate n.toNat 0)) t') { s with toks := k }) :
    wpAny (model prog w) A (binaryOp .Mult (.int n u) (.str (Str.ofString "0") t)) Q E s := by
  rw [show Str.ofString "0" = strBits [0] by decide +kernel]
  have hok : MulOk (strBits [0]) n := mulOk_of 1 100 (Nat.le_refl _) h1 (by omega) (by decide) (by decide)
  have e := mul_bits 0 h0
  refine lm_binaryOp_repeat_right (T := "str") (U := "int") (by decide) (fun s' => typeIs_int s' n u) (typeIs_str s (strBits [0]) t) F.fills_int_mul noFill_str_mul F.slot_int_mul lm_noRepeat_int repeat_str F.slot_int_index.lookup
    (call_gives F.slot_int_mul (typeIs_int s n u) F.entry_int_mul (F.args_int_mul_2 _ _) (AutoIntG3.int___mul___int_str_0 n u (strBits [0]) t)
      ⟨rfl, typeIs_str s (strBits [0]) t, call_gives F.slot_str_mul (typeIs_str s (strBits [0]) t) F.entry_str_mul (F.args_str_mul_2 _ _) (gives_str_mul (strBits [0]) n t u hok.1 hok.2.1 hok.2.2) ?_⟩)
  unfold Txt.mul at e
  by_cases h2 : n < 1
  · rw [if_pos h2] at e ⊢; exact ⟨by decide, by have := h s.toks (s.toks + 1); rw [← e] at this; exact this⟩
  · rw [if_neg h2] at e ⊢
    refine post_val_or_made (fun hc => fits_reps (hok.2.2 h2 (by simpa using hc))) fun t' k => ?_
    rw [e]
    exact h t' k
theorem add_bits {a b : List Nat} {t u : Tok} (hl : a.length + b.length ≤ 1000) (h : ∀ t' k, Q (.str (strBits (a ++ b)) t') { s with toks := k }) : wpAny (model prog w) A (binaryOp .Add (.str (strBits a) t) (.str (strBits b) u)) Q E s :=
  PyProof.Rows.add_str (fun t' k => by rw [strBits_append]; exact h t' k) (by rw [strBits_length, strBits_length, sizeLine_eq]; omega)
theorem iadd_bits {a b : List Nat} {t u : Tok} (hl : a.length + b.length ≤ 1000) (h : ∀ t' k, Q (.str (strBits (a ++ b)) t') { s with toks := k }) : wpAny (model prog w) A (inplaceOp .Add (.str (strBits a) t) (.str (strBits b) u)) Q E s :=
  PyProof.Rows.iadd_str (fun t' k => by rw [strBits_append]; exact h t' k) (by rw [strBits_length, strBits_length, sizeLine_eq]; omega)
def lead (l : List UInt8) : List Nat := [1, 0, 0, 0, 0, 0, 0, 0] ++ bitsOf l
theorem add_bits8 {b : List Nat} {l : List UInt8} {t u : Tok} (hb : b = bitsOf l) (hl : l.length ≤ 60) (h : ∀ t' k, Q (.str (strBits (lead l)) t') { s with toks := k }) :
    wpAny (model prog w) A (binaryOp .Add (.str (Str.ofString "10000000") t) (.str (strBits b) u)) Q E s := by
  rw [show Str.ofString "10000000" = strBits [1, 0, 0, 0, 0, 0, 0, 0] by decide +kernel]
  subst hb
  exact add_bits (a := [1, 0, 0, 0, 0, 0, 0, 0]) (by rw [bitsOf_length]; show 8 + _ ≤ _; omega) (by exact h)
theorem int10 {l : List UInt8} {t u : Tok} (hl : l.length ≤ 60) (h : ∀ t' k, Q (.int (foldB 2 0 (lead l) : Nat) t') { s with toks := k }) :
    wpAny (model prog w) A (call (.type "int") [.str (strBits (lead l)) t, .int 2 u]) Q E s := by
  refine call_int_str (base := 2) (by decide) (by decide) (by decide) ?_ ?_ ?_ rfl h
  · intro d hd
    rcases List.mem_append.mp hd with hd | hd
    · exact (by decide : ∀ d ∈ [1, 0, 0, 0, 0, 0, 0, 0], d < 2) d hd
    · exact bitsOf_lt l d hd
  · exact .inl ⟨_, rfl⟩
  · rw [lead, List.length_append, bitsOf_length]; show 8 + _ ≤ _; omega
theorem hex10 {l : List UInt8} {t : Tok} (hl : l.length ≤ 60) (h : Q (.str (hexText l) s.toks) { s with toks := s.toks + 1 }) : wpAny (model prog w) A (call (.builtin "hex") [.int (foldB 2 0 (lead l) : Nat) t]) Q E s := by
  rw [← hex_text] at h
  unfold lead
  exact P.hex_of_int h (by rw [hex_text, hexText_length, sizeLine_eq]; omega)
theorem rstripL {l : List UInt8} {t u : Tok} (hl : l.length ≤ 60) (h : ∀ t' k, Q (.str ⟨(hexList l).toArray⟩ t') { s with toks := k }) : wpAny (model prog w) A (call (.builtin "str.rstrip") [.str ⟨(hexList l).toArray⟩ t, .str (Str.ofString "L") u]) Q E s := by
  refine SC.rstripChars (fun t' k => ?_) (by show (hexList l).toArray.size ≤ _; rw [List.size_toArray, hexList_length, sizeLine_eq]; omega)
  rw [hex_noL]
  exact h t' k
variable {h₀ : Heap} {L : Addr} {m : Str → Option Value} {news : List (Addr × Obj)} {value slice : Expr} {t : Tok}
theorem slice10 {l : List UInt8} {ui : Tok} (hl : l.length ≤ 60) (hF : Fr h₀ L s.heap m) (hN : News h₀ L s.heap news) (h : ∀ h' t' k, Fr h₀ L h' m → News h₀ L h' news → Q (.str ⟨(hexList l).toArray⟩ t') { s with heap := h', toks := k })
    (hs : subscripted slice false (.str (hexText l) t) (.ref s.heap.objs.size) = operate [.ref s.heap.objs.size, .str (hexText l) t] (getItem (.str (hexText l) t) (.ref s.heap.objs.size)) := by with_unfolding_all rfl)
    (ht : ∀ r, letTemporaryGo value (.str (hexText l) t) r = pure () := by intro _; with_unfolding_all rfl) :
    wpAny (model prog w) A (subscriptTail value slice (.str (hexText l) t) (.ref s.heap.objs.size)) Q E { s with heap := s.heap.push { cls := .type "slice", data := .fields #[.int 4 ui, .none, .none] } } := by
  refine slice_strN_sn hF hN (fun h' t' k a b => ?_) hs ht (by rw [hexText_length, sizeLine_eq]; omega)
  rw [hex_slice l]
  exact h h' t' k a b
end
theorem pack_rest {ds : List Nat} {n : Int} (hlt : ∀ d ∈ ds, d < 2) (hn : Int.fmod n 8 = ((ds.length % 8 : Nat) : Int)) : Int.fmod n 8 > 0 → ds ++ List.replicate (8 - Int.fmod n 8).toNat 0 = bitsOf (packB ds) := by
  intro h
  rw [bits_pack hlt, pad, padN, hn]
  have : ((8 : Int) - ((ds.length % 8 : Nat) : Int)).toNat = (8 - ds.length % 8) % 8 := by omega
  rw [this]
theorem pack_full {ds : List Nat} {n : Int} (hlt : ∀ d ∈ ds, d < 2) (hn : Int.fmod n 8 = ((ds.length % 8 : Nat) : Int)) : ¬ Int.fmod n 8 > 0 → ds = bitsOf (packB ds) := by
  intro h
  rw [bits_pack hlt, pad_full (by omega)]
local macro_rules | `(tactic| walk_at "call ref") => `(tactic| (k_here; (with_reducible show wpAny _ _ (call (Value.ref 71) [Value.str _ _]) _ _ _); k_dflt (refine' a2b ?k0 ?k1 ?k2 ?k3 ?k4 ?k5 ?k6 ?k7 ?k8 ?_; (case k0 => omega); (case k1 => k_asm); (case k2 => k_asm); (case k3 => k_asm); (case k4 => k_asm); (case k5 => k_asm); (case k6 => first | exact rfl | assumption); (case k7 => ktr_room); (case k8 => ktr_units)); intro t9 h9 tk9 F9 N9; (try dsimp only); (try k_fold)))
local macro_rules | `(tactic| walk_at "binaryOp Mult int str") => `(tactic| (k_here; (with_reducible refine zero_rep (by omega) (by omega) ?_); intro _ _))
local macro_rules | `(tactic| walk_at "inplaceOp Add str str") => `(tactic| (k_here; (with_reducible refine iadd_bits (by simp only [List.length_replicate]; omega) ?_); intro _ _))
local macro_rules | `(tactic| walk_at "binaryOp Add str str") => `(tactic| (k_here; (with_reducible refine add_bits8 (l := packB _) (by first | (rename Int.fmod _ _ > 0 → _ => q9; exact q9 (by omega)) | (rename ¬ Int.fmod _ _ > 0 → _ => q9; exact q9 (by omega))) (by omega) ?_); intro _ _))
local macro_rules | `(tactic| walk_at "call type:int") => `(tactic| (k_here; (with_reducible refine int10 (by omega) ?_); intro _ _))
local macro_rules | `(tactic| walk_at "call builtin:hex") => `(tactic| (k_here; (with_reducible refine hex10 (by omega) ?_)))
local macro_rules | `(tactic| walk_at "call builtin:str.rstrip") => `(tactic| (k_here; (with_reducible refine rstripL (by omega) ?_); intro _ _))
local macro_rules | `(tactic| walk_at "subscriptTail") => `(tactic| (k_here; refine slice10 (by omega) (by k_asm) (by k_asm) ?_; intro _ _ _ _ _))
section
variable {w : World} {p : Program} {loose : List Str} {mean : ExcName → Option Value} {mg mb : Str → Option Value}
    {dp un : Nat} {gd : Option (List Code)} {cn : Str} {cs : Scope} {a : Addr} {ccd : Value} {cl : List (Str × Addr)} {outer : List Env} {A₀ : Around} {base h₀ : Heap} {L : Addr} {m : Str → Option Value} {s : Shared} {Q E : Value → Shared → Prop}
    {news : List (Addr × Obj)}
set_option maxRecDepth 100000
set_option maxHeartbeats 8000000
theorem unpack {ds : List Nat} {t u : Tok} {n : Int} (hz : ds.length ≤ 300) (hlt : ∀ d ∈ ds, d < 2) (hn : Int.fmod n 8 = ((ds.length % 8 : Nat) : Int)) (h0 : 0 ≤ n)
    (B : Below A₀ base outer h₀) (F : Fr h₀ L s.heap m) (X : (hd.heap_39 w.params).In h₀) (N : News h₀ L s.heap news) (T : Top p loose mean mg mb h₀) (hk : cs.kind = .function)
    (hd1 : dp + 6 < recursionLimit) (hu1 : un + 64 < cLine)
    (hret : ∀ t' h' tk', Fr h₀ L h' m → News h₀ L h' news → Q (.bytes (packB ds).toArray t') { s with heap := h', toks := tk' }) :
    wpAny (model PySem.Challenge.rw_eh5005_01.row.prog w) (ktrTop dp un gd cn cs L a ccd cl outer) (call (.ref 85) [.int n t, .str (strBits ds) u]) Q E s := by
  w_top off; revert X; k_fill; intro X
  have hz2 := packB_length ds
  have hp1 := pack_rest hlt hn
  have hp2 := pack_full hlt hn
  walk_at "mine enter"
  k_steps
  all_goals exact hret _ _ _ (by k_asm) (by k_asm)
end
end Mine
end

/-! D1 -/
section
open PySem PySem.W PyProof.Rows PySem.Calls
set_option linter.unusedVariables false
namespace Mine
local macro_rules | `(tactic| walk_at "mine enter") => `(tactic| (refine wpAny_call ?_; k_dflt (refine' code_def ?k1 ?k2 ?k3 ?k4 ?k5 ?kA ?kF ?kK ?k6 ?k7 ?k8 ?k9 ?kB ?_ ?c2 ?c3 ?c4 ?c5; (case kA => exact rfl); (case kF => exact rfl); (case kK => assumption); (case k1 => k_asm); (case k2 => k_asm); (case k3 => k_asm); (case k4 => k_asm); (case k5 => k_asm); (case k6 => k_is); (case k7 => k_is); (case k8 => ktr_room); (case k9 => first | exact BindsTo.of_eq rfl | exact binds_K (by k_in) rfl (by k_is) rfl rfl rfl); (case c5 => decide); (case kB => exact locs rfl); (case c2 => exact rfl); (case c3 => exact rfl); (case c4 => exact rfl); k_whole; intro g' L' h' FG' F' N' B' X' T'; (try dsimp only); (try k_lift B'); (try k_fold))))
local macro_rules | `(tactic| k_all) => `(tactic| assumption)
section
variable {w : World} {p : Program} {loose : List Str} {mean : ExcName → Option Value} {mg mb : Str → Option Value}
    {dp un : Nat} {gd : Option (List Code)} {cn : Str} {cs : Scope} {a : Addr} {ccd : Value} {cl : List (Str × Addr)} {outer : List Env} {A₀ : Around} {base h₀ : Heap} {L : Addr} {m : Str → Option Value} {s : Shared} {Q E : Value → Shared → Prop}
    {news : List (Addr × Obj)}
set_option maxRecDepth 100000
set_option maxHeartbeats 8000000
theorem draw0 {rest : List (Addr × Obj)} {b fw : Addr} {lim k : Int} {t u : Tok} {n nf : Nat} {ys : List Value} {ns : List Int} (hlim : 0 < lim) (hI : IntsAre ys ns) (hl0 : 0 < ns.length) (hl1 : ns.length ≤ 40) (hbf : fw ≠ b) (hr : ∀ p ∈ rest, p.1 ≠ b) 
    (B : Below A₀ base outer h₀) (F : Fr h₀ L s.heap m) (X : (hd.heap_39 w.params).In h₀) (N : News h₀ L s.heap ((b, listOf #[.ref fw, .int k t] n) :: (fw, listOf ys.toArray nf) :: rest)) (T : Top p loose mean mg mb h₀) (hk : cs.kind = .function)
    (hd1 : dp + 2 < recursionLimit) (hu1 : un + 16 < cLine)
    (hret : ∀ d t' t2 h' tk', 0 ≤ d → d < lim → Fr h₀ L h' m → News h₀ L h' ((b, listOf #[.ref fw, .int (k + 1) t2] n) :: (fw, listOf ys.toArray nf) :: rest) → Q (.int d t') { s with heap := h', toks := tk' }) :
    wpAny (model PySem.Challenge.rw_eh5005_01.row.prog w) (ktrTop dp un gd cn cs L a ccd cl outer) (call (.ref 92) [.ref b, .int lim u]) Q E s := by
  w_top off; revert X; k_fill; intro X
  walk_at "mine enter"
  k_steps
  all_goals exact hret _ _ _ _ _ (Int.fmod_nonneg_of_pos _ hlim) (Int.fmod_lt_of_pos _ hlim) (by k_asm) (by k_asm)
end
theorem news_turn {h₀ h : Heap} {L b fw : Addr} {o fo : Obj} {news : List (Addr × Obj)} {g : Obj → List (Addr × Obj)} (U : UpdF b o news g) (hm : (fw, fo) ∈ news) (hbf : fw ≠ b) (N : News h₀ L h news) :
    ∃ rest, News h₀ L h ((b, o) :: (fw, fo) :: rest) ∧ (∀ p ∈ rest, p.1 ≠ b) ∧ ∀ h' o', News h₀ L h' ((b, o') :: (fw, fo) :: rest) → News h₀ L h' (g o') := by
  obtain ⟨pre, post, rfl, hg, ha, hb⟩ := U.split
  refine ⟨pre ++ post, fun p hp => ?_, fun p hp => ?_, fun h' o' N' p hp => ?_⟩
  · rcases List.mem_cons.mp hp with rfl | hp
    · exact N _ (List.mem_append.mpr (.inr (.head _)))
    rcases List.mem_cons.mp hp with rfl | hp
    · exact N _ hm
    rcases List.mem_append.mp hp with hp | hp
    · exact N _ (List.mem_append.mpr (.inl hp))
    · exact N _ (List.mem_append.mpr (.inr (.tail _ hp)))
  · rcases List.mem_append.mp hp with hp | hp
    · exact ha p hp
    · exact hb p hp
  · rw [hg o'] at hp
    rcases List.mem_append.mp hp with hp | hp
    · exact N' _ (.tail _ (.tail _ (List.mem_append.mpr (.inl hp))))
    rcases List.mem_cons.mp hp with rfl | hp
    · exact N' _ (.head _)
    · exact N' _ (.tail _ (.tail _ (List.mem_append.mpr (.inr hp))))
section
variable {w : World} {p : Program} {loose : List Str} {mean : ExcName → Option Value} {mg mb : Str → Option Value}
    {dp un : Nat} {gd : Option (List Code)} {cn : Str} {cs : Scope} {a : Addr} {ccd : Value} {cl : List (Str × Addr)} {outer : List Env} {A₀ : Around} {base h₀ : Heap} {L : Addr} {m : Str → Option Value} {s : Shared} {Q E : Value → Shared → Prop}
    {news : List (Addr × Obj)}
theorem draw {b fw : Addr} {lim k : Int} {t u : Tok} {n nf : Nat} {ys : List Value} {ns : List Int} {g : Obj → List (Addr × Obj)} (U : UpdF b (listOf #[.ref fw, .int k t] n) news g) (hm : (fw, listOf ys.toArray nf) ∈ news) (hbf : fw ≠ b)
    (hlim : 0 < lim) (hI : IntsAre ys ns) (hl0 : 0 < ns.length) (hl1 : ns.length ≤ 40)
    (B : Below A₀ base outer h₀) (F : Fr h₀ L s.heap m) (X : (hd.heap_39 w.params).In h₀) (N : News h₀ L s.heap news) (T : Top p loose mean mg mb h₀) (hk : cs.kind = .function)
    (hd1 : dp + 2 < recursionLimit) (hu1 : un + 16 < cLine)
    (hret : ∀ d t' t2 h' tk', 0 ≤ d → d < lim → Fr h₀ L h' m → News h₀ L h' (g (listOf #[.ref fw, .int (k + 1) t2] n)) → Q (.int d t') { s with heap := h', toks := tk' }) :
    wpAny (model PySem.Challenge.rw_eh5005_01.row.prog w) (ktrTop dp un gd cn cs L a ccd cl outer) (call (.ref 92) [.ref b, .int lim u]) Q E s := by
  obtain ⟨rest, N2, hr, back⟩ := news_turn U hm hbf N
  exact draw0 hlim hI hl0 hl1 hbf hr B F X N2 T hk hd1 hu1 fun d t' t2 h' tk' h1 h2 F' N' => hret d t' t2 h' tk' h1 h2 F' (back _ _ N')
end
end Mine
end

/-! R1 -/
section
open PySem PySem.W PyProof.Rows PySem.Calls
set_option linter.unusedVariables false
namespace Mine
def bs (ds : List Nat) : List Str := ds.map fun d => strBits [d]
theorem bs_length (ds : List Nat) : (bs ds).length = ds.length := List.length_map _
theorem bs_sum (ds : List Nat) : ((bs ds).map (·.length)).sum = ds.length := by
  induction ds with
  | nil => rfl
  | cons d r ih =>
    show (strBits [d]).length + ((bs r).map (·.length)).sum = _
    rw [ih, strBits_length, List.length_cons, List.length_cons, List.length_nil]; omega
theorem glued_bits (ds : List Nat) : Builtin.Str.glued Str.empty (bs ds) = strBits ds := by
  have key : ∀ (l : List Nat) (a : Array Nat), ((bs l).foldl (fun (acc : Array Nat) (p : Str) => acc ++ (Str.empty).cps ++ p.cps) a) = a ++ (l.map hexDig).toArray := by
    intro l
    induction l with
    | nil => intro a; simp [bs]
    | cons d r ih =>
      intro a
      show (bs r).foldl _ (a ++ (Str.empty).cps ++ (strBits [d]).cps) = _
      rw [ih]
      apply Array.toList_inj.mp
      simp [strBits, Str.empty]
  unfold Builtin.Str.glued
  cases ds with
  | nil => rfl
  | cons d r =>
    show Str.mk ((bs r).foldl _ (strBits [d]).cps) = _
    rw [key]
    apply Str.ext'
    apply Array.toList_inj.mp
    simp [strBits]
section
variable {prog : Program} {w : World} {A : Around} {E : Value → Shared → Prop} {s : Shared} {Q : Value → Shared → Prop} {h₀ : Heap} {L : Addr} {m : Str → Option Value} {news : List (Addr × Obj)}
theorem join_bits {D : Addr} {items : Array Value} {n : Nat} {ds : List Nat} {t : Tok} (N : News h₀ L s.heap news) (hm : (D, listOf items n) ∈ news) (hi : StrsAre items.toList (bs ds)) (hz : ds.length ≤ 1000)
    (h : ∀ t' k, Q (.str (strBits ds) t') { s with toks := k }) : wpAny (model prog w) A (call (.builtin "str.join") [.str Str.empty t, .ref D]) Q E s := by
  refine join_listW (News.isList N hm) hi (Nat.zero_le _) (by rw [bs_sum, bs_length]; omega) fun t' k => ?_
  show Q (.str (Builtin.Str.glued _ _) t') _
  rw [glued_bits]
  exact h t' k
theorem item01 {value slice : Expr} {x : Str} {i : Int} {t u : Tok} (hx : x = strBits [0, 1]) (h0 : 0 ≤ i) (h1 : i < 2) (h : Q (.str (strBits [i.toNat]) s.toks) { s with toks := s.toks + 1 })
    (hs : subscripted slice false (.str x t) (.int i u) = operate [.str x t, .int i u] (getItem (.str x t) (.int i u)) := by with_unfolding_all rfl)
    (ht : ∀ r, letTemporaryGo value (.str x t) r = pure () := by intro _; with_unfolding_all rfl) :
    wpAny (model prog w) A (subscriptTail value slice (.str x t) (.int i u)) Q E s := by
  subst hx
  refine KXi.item (n := 2) rfl (by omega) (by omega) (by decide) (fun _ => ?_) hs ht
  have e : Txt.item (strBits [0, 1]) i = strBits [i.toNat] := by
    have : i = 0 ∨ i = 1 := by omega
    rcases this with rfl | rfl <;> decide +kernel
  rw [e]
  exact h
theorem mul_one_list {l : Addr} {v : Value} {k : Nat} {x : Int} {u : Tok} (Fm : Fr h₀ L s.heap m) (N : News h₀ L s.heap news) (hm : (l, listOf #[v] k) ∈ news) (h0 : 0 ≤ x) (h1 : x ≤ 100)
    (h : ∀ D h', Fr h₀ L h' m → News h₀ L h' ((D, listOf (List.replicate x.toNat v).toArray 0) :: news) → (∀ p ∈ news, p.1 < D) → Q (.ref D) { s with heap := h' }) :
    wpAny (model prog w) A (binaryOp .Mult (.ref l) (.int x u)) Q E s := by
  refine mul_list Fm N (N _ hm).1 (by omega) (by omega) (by show 1 * x.toNat ≤ _; omega) fun h' F' N' => ?_
  have e : (List.foldl (fun x1 x2 => x1 ++ x2) #[] (List.replicate (if (#[v] : Array Value).isEmpty = true then 0 else x.toNat) #[v])) = (List.replicate x.toNat v).toArray := by
    have : ∀ (n : Nat) (a : Array Value), (List.foldl (fun x1 x2 => x1 ++ x2) a (List.replicate n #[v])) = a ++ (List.replicate n v).toArray := by
      intro n
      induction n with
      | zero => intro a; simp
      | succ n ih => intro a; rw [List.replicate_succ, List.foldl_cons, ih]; apply Array.toList_inj.mp; simp [List.replicate_succ]
    rw [if_neg (by simp), this]
    simp
  rw [e] at N'
  exact h _ h' F' N' fun p hp => Heap.lt_size (N p hp).1
theorem slice_from_list {value slice : Expr} {l : Addr} {items : Array Value} {k : Nat} {i : Int} {ui : Tok} (F : Fr h₀ L s.heap m) (N : News h₀ L s.heap news) (hm : (l, listOf items k) ∈ news) (h0 : 0 ≤ i) (h1 : i ≤ items.size) (hz : items.size ≤ 1000)
    (h : ∀ D h', Fr h₀ L h' m → News h₀ L h' ((D, listOf (items.toList.drop i.toNat).toArray 0) :: news) → (∀ p ∈ news, p.1 < D) → Q (.ref D) { s with heap := h' })
    (hs : subscripted slice false (.ref l) (.ref s.heap.objs.size) = operate [.ref s.heap.objs.size, .ref l] (getItem (.ref l) (.ref s.heap.objs.size)) := by with_unfolding_all rfl)
    (ht : ∀ r, letTemporaryGo value (.ref l) r = pure () := by intro _; with_unfolding_all rfl) :
    wpAny (model prog w) A (subscriptTail value slice (.ref l) (.ref s.heap.objs.size)) Q E { s with heap := s.heap.push { cls := .type "slice", data := .fields #[.int i ui, .none, .none] } } := by
  refine slice_list F N (News.isList N hm) (IsPart.int i ui) .none (fun h' F' N' => ?_) hs ht (by rw [sizeLine_eq]; omega)
  have e := slicePick_from items i.toNat (by omega)
  rw [Int.toNat_of_nonneg h0] at e
  rw [e] at N'
  exact h _ h' F' N' fun p hp => Nat.lt_succ_of_lt (Heap.lt_size (N p hp).1)
theorem add_lists {a b : Addr} {i1 i2 : Array Value} {k1 k2 : Nat} (F : Fr h₀ L s.heap m) (N : News h₀ L s.heap news) (hm : (a, listOf i1 k1) ∈ news) (hm2 : (b, listOf i2 k2) ∈ news) (hz : i1.size + i2.size ≤ 1000)
    (h : ∀ D h', Fr h₀ L h' m → News h₀ L h' ((D, listOf (i1 ++ i2) 0) :: news) → (∀ p ∈ news, p.1 < D) → Q (.ref D) { s with heap := h' }) :
    wpAny (model prog w) A (binaryOp .Add (.ref a) (.ref b)) Q E s := by
  refine P.add_list (N _ hm).1 (N _ hm2).1 ?_ (by rw [sizeLine_eq]; omega)
  exact h _ _ (F.push _) (News.push F N _) fun p hp => Heap.lt_size (N p hp).1
end
theorem strs_rep {d : Nat} {t : Tok} : ∀ n : Nat, StrsAre (List.replicate n (.str (strBits [d]) t)) (bs (List.replicate n d))
  | 0 => .nil
  | n + 1 => .cons _ _ (strs_rep n)
theorem strs_drop : ∀ {vs : List Value} {ys : List Str} (n : Nat), StrsAre vs ys → StrsAre (vs.drop n) (ys.drop n)
  | _, _, 0, h => h
  | _, _, _ + 1, .nil => .nil
  | _, _, n + 1, .cons _ _ r => strs_drop n r
theorem strs_append : ∀ {vs us : List Value} {ys zs : List Str}, StrsAre vs ys → StrsAre us zs → StrsAre (vs ++ us) (ys ++ zs)
  | _, _, _, _, .nil, h => h
  | _, _, _, _, .cons _ _ r, h => .cons _ _ (strs_append r h)
theorem strs_length : ∀ {vs : List Value} {ys : List Str}, StrsAre vs ys → vs.length = ys.length
  | _, _, .nil => rfl
  | _, _, .cons _ _ r => by rw [List.length_cons, List.length_cons, strs_length r]
theorem strs_snoc {vs : List Value} {ds : List Nat} {d : Nat} {t : Tok} (h : StrsAre vs (bs ds)) : StrsAre (vs ++ [.str (strBits [d]) t]) (bs (ds ++ [d])) := by
  rw [bs, List.map_append]
  exact strs_append h (.cons _ _ .nil)
section
variable {prog : Program} {w : World} {A : Around} {E : Value → Shared → Prop} {s : Shared} {h₀ : Heap} {L : Addr} {m : Str → Option Value} {env : Env}
theorem compEnd_mono {I C D : Addr} {oI oC oD : Obj} {S : List (Addr × Obj) → Prop} {r r' : Value → List (Addr × Obj) → Prop} {y : Value} {s₂ : Shared} (h : LCg.CompEnd h₀ L m s I oI C oC D oD S r y s₂) (hr : ∀ y n, r y n → r' y n) : LCg.CompEnd h₀ L m s I oI C oC D oD S r' y s₂ := by
  obtain ⟨h', tk, n', e, a, b, c, d, x⟩ := h
  exact ⟨h', tk, n', e, a, b, c, d, hr _ _ x⟩
theorem rest_ind {elt : Expr} {x : Str} {scope : Scope} {cl : List (Str × Addr)} {S : List (Addr × Obj) → Prop} {P : Nat → Value → Prop} {Fin : List Value → List (Addr × Obj) → Prop}
    (I : Nat → List Value → List (Addr × Obj) → Prop) (n : Nat)
    (step : ∀ i ys news v Ia oI C oC D m₂ h tk (E' : Value → Shared → Prop), i < n → I i ys news → P i v → LCg.NsObj oC m₂ → m₂ x = some v → Fr h₀ L h m → News h₀ L h ((Ia, oI) :: (C, oC) :: (D, LCg.lst ys) :: news) → LCg.Off3 Ia C D news → ((@Ne Nat Ia C) ∧ (@Ne Nat Ia D) ∧ (@Ne Nat C D)) →
      wpAny (model prog w) A (eval elt (compEnvC scope cl C env)) (LCg.CompEnd h₀ L m { s with heap := h, toks := tk } Ia oI C oC D (LCg.lst ys) S (fun y news' => I (i + 1) (ys ++ [y]) news')) E' { s with heap := h, toks := tk })
    (fin : ∀ ys news, I n ys news → Fin ys news) :
    ∀ k i ys news, i + k = n → I i ys news → LCg.CompRest prog w A h₀ L m env elt x scope cl s S P Fin k i ys news
  | 0, i, ys, news, e, hI => LCg.CompRest.zero (fin ys news ((show i = n by omega) ▸ hI))
  | k + 1, i, ys, news, e, hI => LCg.CompRest.succ fun v Ia oI C oC D m₂ h tk E' hP hC hx F N off ne =>
      wpAny_mono (step i ys news v Ia oI C oC D m₂ h tk E' (by omega) hI hP hC hx F N off ne) (fun y s₂ h₂ => compEnd_mono h₂ fun y n' hy => rest_ind I n step fin k (i + 1) (ys ++ [y]) n' (by omega) hy) fun _ _ e => e
end
end Mine
namespace Mine
theorem strs_mix {vs : List Value} {ds : List Nat} {n k : Nat} {x : Str} {t : Tok} (hx : x = strBits [0]) (h : StrsAre vs (bs ds)) : StrsAre ((List.replicate n (Value.str x t)).toArray ++ (vs.drop k).toArray).toList (bs (List.replicate n 0 ++ ds.drop k)) := by
  subst hx
  rw [Array.toList_append, bs, List.map_append, List.map_drop]
  exact strs_append (strs_rep n) (strs_drop k h)
end Mine
end

/-! D2 -/
section
open PySem PySem.W PyProof.Rows PySem.Calls
set_option linter.unusedVariables false
namespace Mine
local macro_rules | `(tactic| walk_at "mine enter") => `(tactic| (refine wpAny_call ?_; k_dflt (refine' code_defC ?k1 ?k2 ?k3 ?k4 ?k5 ?kA ?kF ?kK ?k6 ?k7 ?k8 ?k9 ?kB ?kD ?_ ?c2 ?c3 ?c4; (case kA => exact rfl); (case kF => exact rfl); (case kK => assumption); (case k1 => k_asm); (case k2 => k_asm); (case k3 => k_asm); (case k4 => k_asm); (case k5 => k_asm); (case k6 => k_is); (case k7 => k_is); (case k8 => ktr_room); (case k9 => first | exact BindsTo.of_eq rfl | exact binds_K (by k_in) rfl (by k_is) rfl rfl rfl); (case kB => exact rfl); (case kD => decide +kernel); (case c2 => exact rfl); (case c3 => exact rfl); (case c4 => exact rfl); k_whole; intro g' L' h' tk' cells' FG' F' N' Y' B' X' T' l1; (try k_lt l1); k_cells Y'; (try simp only [List.cons_append, List.nil_append] at N'); (try dsimp only); (try k_lift B'); (try k_fold))))
theorem lit_mul {prog : Program} {w : World} {A : Around} {E : Value → Shared → Prop} {s : Shared} {Q : Value → Shared → Prop} {n : Int} {t u : Tok} (d : Nat) {x : Str} (hx : x = strBits [d]) (h0 : 0 ≤ n) (h1 : n ≤ 100) (h : ∀ t' k, Q (.str (strBits (List.replicate n.toNat d)) t') { s with toks := k }) :
    wpAny (model prog w) A (binaryOp .Mult (.str x t) (.int n u)) Q E s := by
  subst hx
  exact SB.mul (mulOk_of 1 100 (Nat.le_refl _) h1 (by omega) (by decide) (by decide)) fun t' k => by rw [mul_bits d h0]; exact h t' k
local macro_rules | `(tactic| walk_at "binaryOp Mult str int") => `(tactic| (k_here; (with_reducible show wpAny _ _ (binaryOp _ (Value.str (Str.ofString "0") _) _) _ _ _); (refine lit_mul 0 (by decide +kernel) (by omega) (by omega) ?_); intro _ _))
local macro_rules | `(tactic| walk_at "binaryOp Mult str int") => `(tactic| (k_here; (with_reducible show wpAny _ _ (binaryOp _ (Value.str (Str.ofString "1") _) _) _ _ _); (refine lit_mul 1 (by decide +kernel) (by omega) (by omega) ?_); intro _ _))
local macro_rules | `(tactic| walk_at "CompEnd") => `(tactic| (k_here; refine halt ?_))
local macro_rules | `(tactic| walk_at "subscriptTail") => `(tactic| (k_here; (with_reducible show wpAny _ _ (subscriptTail _ _ (Value.str (Str.ofString "01") _) (Value.int _ _)) _ _ _); refine item01 (by decide +kernel) (by omega) (by omega) ?_))
local macro_rules | `(tactic| walk_at "binaryOp Mult ref int") => `(tactic| (k_here; (with_reducible show wpAny _ _ (binaryOp _ (Value.ref _) (Value.int _ _)) _ _ _); k_dflt (refine' mul_one_list ?F ?N ?m ?a ?b ?_; (case F => k_asm); (case N => k_asm); (case m => k_mem); (case a => (first | omega | (rw [Int.fdiv_eq_ediv_of_nonneg _ (by decide)]; omega))); (case b => (first | omega | (rw [Int.fdiv_eq_ediv_of_nonneg _ (by decide)]; omega)))); intro D' h' F' N' l1; (try dsimp only)))
local macro_rules | `(tactic| walk_at "subscriptTail Name Slice ref ref") => `(tactic| (k_here; (with_reducible show wpAny _ _ (subscriptTail _ _ (Value.ref _) (Value.ref _)) _ _ _); k_dflt (refine' slice_from_list ?F ?N ?m ?a ?b ?c ?_ ?s ?t; (case F => k_asm); (case N => k_asm); (case m => k_mem); (case a => (first | omega | (rw [Int.fdiv_eq_ediv_of_nonneg _ (by decide)]; omega))); (case b => (rw [List.size_toArray]; (first | omega | (rw [Int.fdiv_eq_ediv_of_nonneg _ (by decide)]; omega)))); (case c => (rw [List.size_toArray]; omega)); (case s => with_unfolding_all rfl); (case t => (intro _; with_unfolding_all rfl))); intro D' h' F' N' l1; (try dsimp only)))
local macro_rules | `(tactic| walk_at "binaryOp Add ref ref") => `(tactic| (k_here; (with_reducible show wpAny _ _ (binaryOp _ (Value.ref _) (Value.ref _)) _ _ _); k_dflt (refine' add_lists ?F ?N ?m ?a ?b ?_; (case F => k_asm); (case N => k_asm); (case m => k_mem); (case a => k_mem); (case b => (simp only [List.size_toArray, List.length_replicate, List.length_drop, Array.length_toList, Int.fdiv_eq_ediv_of_nonneg _ (show (0 : Int) ≤ 2 by decide)]; omega))); intro D' h' F' N' l1; (try dsimp only)))
local macro_rules | `(tactic| walk_at "call builtin:str.join") => `(tactic| (k_here; (with_reducible show wpAny _ _ (call (Value.builtin "str.join") [Value.str _ _, Value.ref _]) _ _ _); k_dflt (refine' join_bits ?N ?m ?a ?b ?_; (case N => k_asm); (case m => k_mem); (case a => first | assumption | exact strs_mix (by decide +kernel) (by assumption)); (case b => first | omega | (simp only [List.length_append, List.length_replicate, List.length_drop, Int.fdiv_eq_ediv_of_nonneg _ (show (0 : Int) ≤ 2 by decide)]; omega))); intro _ _; (try dsimp only)))
local macro_rules | `(tactic| walk_at "CompSrc") => `(tactic| (k_here; refine halt ?_))
local macro_rules | `(tactic| k_all) => `(tactic| assumption)
local macro_rules | `(tactic| walk_at "call ref") => `(tactic| (k_here; (with_reducible show wpAny _ _ (call (Value.ref 92) [Value.ref _, Value.int _ _]) _ _ _); k_dflt (refine' draw ?u1 ?u2 ?u3 ?u4 ?u5 ?u6 ?u7 ?k1 ?k2 ?k3 ?k4 ?k5 ?k6 ?k7 ?k8 ?_; (case k1 => k_asm); (case k2 => k_asm); (case k3 => k_asm); (case k4 => k_asm); (case k5 => k_asm); (case k6 => first | exact rfl | assumption); (case k7 => ktr_room); (case k8 => ktr_units); (case u1 => k_updF); (case u2 => k_mem); (case u3 => k_ne); (case u4 => omega); (case u5 => assumption); (case u6 => assumption); (case u7 => assumption)); intro d9 t9 u9 h9 tk9 d91 d92 F9 N9; (try dsimp only at N9); (try dsimp only); (try k_fold)))
section
variable {w : World} {p : Program} {loose : List Str} {mean : ExcName → Option Value} {mg mb : Str → Option Value}
    {dp un : Nat} {gd : Option (List Code)} {cn : Str} {cs : Scope} {a : Addr} {ccd : Value} {cl : List (Str × Addr)} {outer : List Env} {A₀ : Around} {base h₀ : Heap} {L : Addr} {m : Str → Option Value} {s : Shared} {Q E : Value → Shared → Prop}
    {news : List (Addr × Obj)}
set_option maxRecDepth 100000
set_option maxHeartbeats 8000000
theorem drawn0 {rest : List (Addr × Obj)} {b fw : Addr} {k : Int} {t : Tok} {n nf : Nat} {ys : List Value} {ns : List Int} (hI : IntsAre ys ns) (hl0 : 0 < ns.length) (hl1 : ns.length ≤ 40) (hbf : fw ≠ b) (hr : ∀ p ∈ rest, p.1 ≠ b) 
    (B : Below A₀ base outer h₀) (F : Fr h₀ L s.heap m) (X : (hd.heap_39 w.params).In h₀) (N : News h₀ L s.heap ((b, listOf #[.ref fw, .int k t] n) :: (fw, listOf ys.toArray nf) :: rest)) (T : Top p loose mean mg mb h₀) (hk : cs.kind = .function)
    (hd1 : dp + 6 < recursionLimit) (hu1 : un + 64 < cLine)
    (hret : ∀ ds k' t' t2 h' tk', ds.length ≤ 60 → (∀ d ∈ ds, d < 2) → Fr h₀ L h' m → News h₀ L h' ((b, listOf #[.ref fw, .int k' t2] n) :: (fw, listOf ys.toArray nf) :: rest) → Q (.str (strBits ds) t') { s with heap := h', toks := tk' }) :
    wpAny (model PySem.Challenge.rw_eh5005_01.row.prog w) (ktrTop dp un gd cn cs L a ccd cl outer) (call (.ref 111) [.ref b]) Q E s := by
  w_top off; revert X; k_fill; intro X
  walk_at "mine enter"
  k_steps
  · exact hret _ _ _ _ _ _ (by rw [List.length_replicate]; omega) (fun d hd => by rw [(List.mem_replicate.mp hd).2]; decide) (by k_asm) (by rename News _ _ _ _ => hN9; exact fun p hp => hN9 p (.tail _ hp))
  · exact hret _ _ _ _ _ _ (by rw [List.length_replicate]; omega) (fun d hd => by rw [(List.mem_replicate.mp hd).2]; decide) (by k_asm) (by rename News _ _ _ _ => hN9; exact fun p hp => hN9 p (.tail _ hp))
  rename IsRange _ _ _ _ _ _ _ _ => hR
  rename Fr _ _ _ _ => hF
  rename News _ _ _ _ => hN
  refine (id : LCg.CompSrc _ _ _ _ _ _ _ _ _ _ _ _ _ _ → Halt _) ?_
  refine LCg.CompSrc.range (by rfl) hF hN hR (small_one (by omega) (by omega) (by omega) (by omega)) (rangeSize_nat _ _) (by rw [sizeLine_eq]; omega) fun g => ?_
  refine rest_ind (fun i vs nw => (∃ kk tt, nw = _ :: (b, listOf #[.ref fw, .int kk tt] n) :: (fw, listOf ys.toArray nf) :: rest) ∧ ∃ ds, ds.length = i ∧ (∀ d ∈ ds, d < 2) ∧ StrsAre vs (bs ds)) _ ?step ?fin _ 0 [] _ (Nat.zero_add _) ⟨⟨_, _, rfl⟩, [], rfl, (fun d hd => nomatch hd), .nil⟩
  case step =>
    intro i vs nw v Ia oI C oC D m₂ h tk E' hi hinv hP hC hx F2 N2 off ne
    obtain ⟨⟨kk, tt, hnw⟩, ds, hdl, hdlt, hds⟩ := hinv
    subst hnw
    simp only [LCg.Off3, and_true] at off
    obtain ⟨t9, hv⟩ := hP
    subst hv
    clear hF hN
    (try dsimp only)
    (try k_fold)
    k_steps
    rename Fr _ _ _ _ => hF
    rename News _ _ _ _ => hN
    refine (id : LCg.CompEnd _ _ _ _ _ _ _ _ _ _ _ _ _ _ → Halt _) ?_
    exact LCg.CompEnd.intro hF hN _ (fun p hp => hp) off trivial ⟨⟨_, _, rfl⟩, ds ++ [_], by rw [List.length_append, hdl]; rfl, fun d hd => by rcases List.mem_append.mp hd with hd | hd; exact hdlt d hd; rw [List.mem_singleton.mp hd]; omega, strs_snoc hds⟩
  case fin =>
    intro vs nw hinv
    obtain ⟨⟨kk, tt, hnw⟩, ds, hdl, hdlt, hds⟩ := hinv
    subst hnw
    have hvl := strs_length hds
    rw [bs_length, hdl] at hvl
    clear hF hN
    (try dsimp only)
    (try k_fold)
    k_steps
    · exact hret _ _ _ _ _ _ (by simp only [List.length_append, List.length_replicate, List.length_drop]; first | omega | (rw [Int.fdiv_eq_ediv_of_nonneg _ (by decide)]; omega)) (fun d hd => by
        rcases List.mem_append.mp hd with hd | hd
        · rw [(List.mem_replicate.mp hd).2]; decide
        · exact hdlt d (List.mem_of_mem_drop hd)) (by k_asm) (by rename News _ _ _ _ => hN9; exact fun p hp => hN9 p (by first | exact .tail _ (.tail _ hp) | exact .tail _ (.tail _ (.tail _ hp)) | exact .tail _ (.tail _ (.tail _ (.tail _ hp))) | exact .tail _ (.tail _ (.tail _ (.tail _ (.tail _ hp)))) | exact .tail _ (.tail _ (.tail _ (.tail _ (.tail _ (.tail _ hp)))))))
    · exact hret _ _ _ _ _ _ (by omega) hdlt (by k_asm) (by rename News _ _ _ _ => hN9; exact fun p hp => hN9 p (.tail _ (.tail _ hp)))
end
end Mine
namespace Mine
section
variable {w : World} {p : Program} {loose : List Str} {mean : ExcName → Option Value} {mg mb : Str → Option Value}
    {dp un : Nat} {gd : Option (List Code)} {cn : Str} {cs : Scope} {a : Addr} {ccd : Value} {cl : List (Str × Addr)} {outer : List Env} {A₀ : Around} {base h₀ : Heap} {L : Addr} {m : Str → Option Value} {s : Shared} {Q E : Value → Shared → Prop}
    {news : List (Addr × Obj)}
theorem drawn {b fw : Addr} {k : Int} {t : Tok} {n nf : Nat} {ys : List Value} {ns : List Int} {g : Obj → List (Addr × Obj)} (U : UpdF b (listOf #[.ref fw, .int k t] n) news g) (hm : (fw, listOf ys.toArray nf) ∈ news) (hbf : fw ≠ b)
    (hI : IntsAre ys ns) (hl0 : 0 < ns.length) (hl1 : ns.length ≤ 40)
    (B : Below A₀ base outer h₀) (F : Fr h₀ L s.heap m) (X : (hd.heap_39 w.params).In h₀) (N : News h₀ L s.heap news) (T : Top p loose mean mg mb h₀) (hk : cs.kind = .function)
    (hd1 : dp + 6 < recursionLimit) (hu1 : un + 64 < cLine)
    (hret : ∀ ds k' t' t2 h' tk', ds.length ≤ 60 → (∀ d ∈ ds, d < 2) → Fr h₀ L h' m → News h₀ L h' (g (listOf #[.ref fw, .int k' t2] n)) → Q (.str (strBits ds) t') { s with heap := h', toks := tk' }) :
    wpAny (model PySem.Challenge.rw_eh5005_01.row.prog w) (ktrTop dp un gd cn cs L a ccd cl outer) (call (.ref 111) [.ref b]) Q E s := by
  obtain ⟨rest, N2, hr, back⟩ := news_turn U hm hbf N
  exact drawn0 hI hl0 hl1 hbf hr B F X N2 T hk hd1 hu1 fun ds k' t' t2 h' tk' h1 h2 F' N' => hret ds k' t' t2 h' tk' h1 h2 F' (back _ _ N')
end
end Mine
end

/-! R2 -/
section
open PySem PySem.W PyProof.Rows PySem.Calls
set_option linter.unusedVariables false
namespace Mine
theorem name_led {h₀ h : Heap} {L a : Addr} {o : Obj} {rest : List (Addr × Obj)} (N : News h₀ L h ((a, o) :: rest)) : ∃ b : Addr, b = a := ⟨a, rfl⟩
theorem ints_getv : ∀ {vs : List Value} {ns : List Int} {i : Nat} {v : Value}, IntsAre vs ns → vs[i]? = some v → ∃ n t, v = .int n t ∧ ns[i]? = some n
  | _, _, i, v, .nil, h => by simp at h
  | _, _, 0, v, .cons n t r, h => ⟨n, t, by simpa using h.symm, rfl⟩
  | _, _, i + 1, v, .cons n t r, h => by
    obtain ⟨k, u, e1, e2⟩ := ints_getv (i := i) r (by simpa using h)
    exact ⟨k, u, e1, by simpa using e2⟩
section
variable {prog : Program} {w : World} {A : Around} {E : Value → Shared → Prop} {s : Shared} {env : Env} {h₀ : Heap} {x : Str} {body : List Stmt} {Q : Flow → Shared → Prop}
theorem kst_tup {σ : Type} {ax : Addr} {vs : List Value} {ns : List Int} {m₀ : Str → Option Value} (Led : σ → List (Addr × Obj)) (ps : σ → List (Str × Value)) (Facts : σ → Prop) (stored : List Str) (P : List Int → σ → Prop) (c₀ : σ)
    (hh : A.handled = none) (hl : s.heap.IsTuple ax vs.toArray) (hi : IntsAre vs ns) (F : Fr h₀ env.locals s.heap m₀) (hLx : env.locals ≠ ax) (hax : ∀ p ∈ Led c₀, p.1 ≠ ax) (N : News h₀ env.locals s.heap (Led c₀)) (hf : Facts c₀) (hk : ∀ p ∈ ps c₀, m₀ p.1 = some p.2) (hp : P [] c₀)
    (turn : ∀ (c : σ) pre post n t (u : Str → Option Value) h tk own, ns = pre ++ n :: post → n ∈ ns → OwnOff own ((Led c₀).map (·.1)) → Facts c → P pre c →
      Fr h₀ env.locals h (fun y => if y = x then some (.int n t) else kstB (fun z => if stored.contains z then u z else m₀ z) (ps c) y) → News h₀ env.locals h (Led c ++ own) →
      wpAny (model prog w) A (execs body env) (InvPostN h₀ env.locals (KstS Led ps Facts x stored m₀ P (pre ++ [n])) own ((Led c₀).map (·.1)) { s with heap := h, toks := tk } Q) E { s with heap := h, toks := tk })
    (done : ∀ (c : σ) (u : Str → Option Value) h tk, Facts c → P ns c → Fr h₀ env.locals h (fun y => if y = x then u y else kstB (fun z => if stored.contains z then u z else m₀ z) (ps c) y) → News h₀ env.locals h (Led c) → Q .next { s with heap := h, toks := tk }) :
    wpAny (model prog w) A (pyIter (.ref ax)) (fun it s₂ => LoopAtV prog w A h₀ env x body Q E it s₂) E s := by
  obtain ⟨lo, hlo, hlc, nlo, hld⟩ := id hl
  have hlt : ax < s.heap.objs.size := Heap.lt_size hlo
  refine wpAny_pyIter_tuple hl ?_
  have W := Walks.tuple (prog := prog) (w := w) hh s.heap.objs.size ax (Nat.ne_of_lt hlt) vs.toArray
  refine loop_invN (fun i m nx => KstS Led ps Facts x stored m₀ P (ns.take i) m nx) W ?_ ?_ ?_ ?_ ?_ (F.push _) (fun p hp => ⟨Heap.get?_push_of_some _ (N p hp).1, (N p hp).2⟩) ⟨c₀, rfl, hf, hk, fun _ _ _ _ => rfl, by simpa using hp⟩ ?_ ?_
  · intro hm
    rcases List.mem_cons.mp hm with e | hm
    · exact absurd F.ns.lt (e ▸ Nat.lt_irrefl _)
    · exact hLx (List.mem_singleton.mp hm)
  · intro b hb
    rw [List.mem_singleton.mp hb]
    exact next_is_new F
  · intro p hp hI
    exact absurd (Heap.lt_size (N p hp).1) ((List.mem_singleton.mp hI) ▸ Nat.lt_irrefl _)
  · intro p hp hI
    rcases List.mem_cons.mp hI with e | hm
    · exact absurd (Heap.lt_size (N p hp).1) (e ▸ Nat.lt_irrefl _)
    · exact hax p hp (List.mem_singleton.mp hm)
  · exact ⟨⟨_, Heap.get?_push_size _ rfl, rfl, rfl⟩, hl.at fun o e => Heap.get?_push_of_some _ e⟩
  · rintro i v m₁ nx h tk own hi' hv _ hoff ⟨c, rfl, hf', h1, h2, hp'⟩ F₁ N₁
    have hv' : vs[i]? = some v := by have hv2 : vs.toArray[i]? = some v := hv; simpa using hv2
    obtain ⟨n, t, rfl, hn⟩ := ints_getv hi hv'
    have hs : ns.take (i + 1) = ns.take i ++ [n] := by simp [List.take_add_one, hn]
    have e : ns = ns.take i ++ n :: ns.drop (i + 1) := by
      have ht := List.take_append_drop (i + 1) ns
      rw [hs, List.append_assoc] at ht
      exact ht.symm
    rw [hs]
    exact turn c _ _ n t m₁ h tk own e (List.mem_of_getElem? hn) hoff hf' hp' (kst_fr h1 h2 F₁) N₁
  · rintro m₁ nx h tk ⟨c, rfl, hf', h1, h2, hp'⟩ F₁ N₁
    have hln : vs.toArray.size = ns.length := by rw [List.size_toArray, hi.length]
    rw [hln, List.take_length] at hp'
    exact done c m₁ h tk hf' hp' (kst_frOut h1 h2 F₁) N₁
end
end Mine
end

/-! D3 -/
section
open PySem PySem.W PyProof.Rows PySem.Calls
set_option linter.unusedVariables false
namespace Mine
local macro_rules | `(tactic| walk_at "mine enter") => `(tactic| (refine wpAny_call ?_; k_dflt (refine' code_def ?k1 ?k2 ?k3 ?k4 ?k5 ?kA ?kF ?kK ?k6 ?k7 ?k8 ?k9 ?kB ?_ ?c2 ?c3 ?c4 ?c5; (case kA => exact rfl); (case kF => exact rfl); (case kK => assumption); (case k1 => k_asm); (case k2 => k_asm); (case k3 => k_asm); (case k4 => k_asm); (case k5 => k_asm); (case k6 => k_is); (case k7 => k_is); (case k8 => ktr_room); (case k9 => first | exact BindsTo.of_eq rfl | exact binds_K (by k_in) rfl (by k_is) rfl rfl rfl); (case c5 => decide); (case kB => exact locs rfl); (case c2 => exact rfl); (case c3 => exact rfl); (case c4 => exact rfl); k_whole; intro g' L' h' FG' F' N' B' X' T'; (try dsimp only); (try k_lift B'); (try k_fold))))
local macro_rules | `(tactic| walk_at "subscriptTail") => `(tactic| (k_here; (with_reducible show wpAny _ _ (subscriptTail _ _ (Value.str (Str.ofString "01") _) (Value.int (Int.fmod _ 2) _)) _ _ _); refine item01 (by decide +kernel) (Int.fmod_nonneg_of_pos _ (by decide)) (Int.fmod_lt_of_pos _ (by decide)) ?_))
local macro_rules | `(tactic| walk_at "call builtin:str.join") => `(tactic| (k_here; (with_reducible show wpAny _ _ (call (Value.builtin "str.join") [Value.str _ _, Value.ref _]) _ _ _); k_dflt (refine' join_bits ?N ?m ?a ?b ?_; (case N => k_asm); (case m => k_mem); (case a => assumption); (case b => omega)); intro _ _; (try dsimp only)))
local macro_rules | `(tactic| k_all) => `(tactic| assumption)
local macro_rules | `(tactic| walk_at "exec For Name Tuple cons nil") => `(tactic| (k_here; (rename Fr _ _ _ _ => lF'); (with_unfolding_all refine' For_invVF lF' ?k1 ?k2 ?_; (case k1 => exact rfl); (case k2 => exact rfl); k_whole)))
local macro_rules | `(tactic| walk_at "pyIter ref") => `(tactic| (k_here; (with_reducible show wpAny _ _ (pyIter (Value.ref _)) (fun it s₂ => LoopAtV _ _ _ _ _ _ _ _ _ it s₂) _ _); refine halt ?_))
local macro_rules | `(tactic| walk_at "binaryOp FloorDiv int int") => `(tactic| (k_here; (with_reducible refine PyProof.Rows.floordiv_int ?kbe ?_ (Or.inl (PyProof.noPylong_small ?kbp))); (case kbe => omega); (case kbp => omega)))
local macro_rules | `(tactic| walk_at "call builtin:list.append") => `(tactic| (k_here; (with_reducible show wpAny _ _ (call (Value.builtin _) [Value.ref _, _]) _ _ _); k_dflt (refine' append_K ?k1 ?k2 ?k3 ?_ ?z; (case k1 => k_asm); (case k2 => k_asm); (case k3 => k_upd); (case z => (rw [List.size_toArray, sizeLine_eq]; omega)); k_whole); intro h' F' N'; (try k_sweep)))
def bitI (n k : Int) : Nat := ((n.fdiv k).fmod 2).toNat
def wts : List Int := [128, 64, 32, 16, 8, 4, 2, 1]
theorem wts_pos : ∀ k ∈ wts, 0 < k ∧ k ≤ 128 := by decide
def bitsI (n : Int) : List Nat := [((n.fdiv 128).fmod 2).toNat, ((n.fdiv 64).fmod 2).toNat, ((n.fdiv 32).fmod 2).toNat, ((n.fdiv 16).fmod 2).toNat, ((n.fdiv 8).fmod 2).toNat, ((n.fdiv 4).fmod 2).toNat, ((n.fdiv 2).fmod 2).toNat, ((n.fdiv 1).fmod 2).toNat]
theorem bitsI_length (pre : List Int) : (pre.flatMap bitsI).length = 8 * pre.length := by
  induction pre with
  | nil => rfl
  | cons c r ih => rw [List.flatMap_cons, List.length_append, ih, List.length_cons]; show 8 + _ = _; omega
theorem bitsI_byte (c : UInt8) : bitsI (c.toNat : Int) = bits8 c := by
  have h : ∀ (k : Nat), 0 < k → (((c.toNat : Int).fdiv (k : Int)).fmod 2).toNat = c.toNat / k % 2 := by
    intro k hk
    rw [Int.fdiv_eq_ediv_of_nonneg _ (by omega), Int.fmod_eq_emod_of_nonneg _ (by decide)]
    rw [← Int.natCast_ediv]
    omega
  have e := fun k hk => h k hk
  unfold bitsI bits8
  rw [show ((c.toNat : Int).fdiv 128) = (c.toNat : Int).fdiv ((128 : Nat) : Int) from rfl, h 128 (by decide)]
  rw [show ((c.toNat : Int).fdiv 64) = (c.toNat : Int).fdiv ((64 : Nat) : Int) from rfl, h 64 (by decide)]
  rw [show ((c.toNat : Int).fdiv 32) = (c.toNat : Int).fdiv ((32 : Nat) : Int) from rfl, h 32 (by decide)]
  rw [show ((c.toNat : Int).fdiv 16) = (c.toNat : Int).fdiv ((16 : Nat) : Int) from rfl, h 16 (by decide)]
  rw [show ((c.toNat : Int).fdiv 8) = (c.toNat : Int).fdiv ((8 : Nat) : Int) from rfl, h 8 (by decide)]
  rw [show ((c.toNat : Int).fdiv 4) = (c.toNat : Int).fdiv ((4 : Nat) : Int) from rfl, h 4 (by decide)]
  rw [show ((c.toNat : Int).fdiv 2) = (c.toNat : Int).fdiv ((2 : Nat) : Int) from rfl, h 2 (by decide)]
  rw [show ((c.toNat : Int).fdiv 1) = (c.toNat : Int).fdiv ((1 : Nat) : Int) from rfl, h 1 (by decide), Nat.div_one]
theorem bitsI_all (l : List UInt8) : (KBw.bInts l.toArray).flatMap bitsI = bitsOf l := by
  unfold KBw.bInts bitsOf
  rw [List.flatMap_map]
  congr 1
  funext c
  exact bitsI_byte c
theorem strs_cons {vs : List Value} {ds : List Nat} {d : Nat} {t : Tok} (h : StrsAre vs (bs ds)) : StrsAre (.str (strBits [d]) t :: vs) (bs (d :: ds)) := .cons _ _ h
section
variable {w : World} {p : Program} {loose : List Str} {mean : ExcName → Option Value} {mg mb : Str → Option Value}
    {dp un : Nat} {gd : Option (List Code)} {cn : Str} {cs : Scope} {a : Addr} {ccd : Value} {cl : List (Str × Addr)} {outer : List Env} {A₀ : Around} {base h₀ : Heap} {L : Addr} {m : Str → Option Value} {s : Shared} {Q E : Value → Shared → Prop}
    {news : List (Addr × Obj)}
set_option maxRecDepth 100000
set_option maxHeartbeats 8000000
theorem letters {l : List UInt8} {t : Tok} (hl : l.length ≤ 100)
    (B : Below A₀ base outer h₀) (F : Fr h₀ L s.heap m) (X : (hd.heap_39 w.params).In h₀) (N : News h₀ L s.heap news) (T : Top p loose mean mg mb h₀) (hk : cs.kind = .function)
    (hd1 : dp + 2 < recursionLimit) (hu1 : un + 16 < cLine)
    (hret : ∀ t' h' tk', Fr h₀ L h' m → News h₀ L h' news → Q (.str (strBits (bitsOf l)) t') { s with heap := h', toks := tk' }) :
    wpAny (model PySem.Challenge.rw_eh5005_01.row.prog w) (ktrTop dp un gd cn cs L a ccd cl outer) (call (.ref 99) [.bytes l.toArray t]) Q E s := by
  w_top off; revert X; k_fill; intro X
  walk_at "mine enter"
  k_steps
  rename Fr _ _ _ _ => hF
  rename News _ _ _ _ => hN
  obtain ⟨ra, hra⟩ := name_led hN
  subst hra
  rename ∀ p ∈ news, p.1 < _ => hlt
  refine' KStb.kst_bytes (Led := fun c : List Value × Nat => (ra, listOf c.1.toArray c.2) :: news) (ps := fun c => [(Str.ofString "rows", .ref ra)]) (Facts := fun c => True) (stored := [Str.ofString "weight"])
    (P := fun pre c => StrsAre c.1 (bs (pre.flatMap bitsI))) (c₀ := ([], 0)) rfl rfl (by rfl) hF hN True.intro ?kk ?kp ?turn ?done
  case kk =>
    intro p hp
    obtain rfl := List.mem_singleton.mp hp
    rfl
  case kp => exact .nil
  case turn =>
    intro c pre post n0 t9 u h tk own hks hpl h0 h1 hown hf hp F' N'
    obtain ⟨vs, nn⟩ := c
    clear hF hN
    dsimp only at hp F' N'
    rw [List.cons_append] at N'
    have hall : ∀ p ∈ news ++ own, p.1 ≠ ra := fun p hp => by
      rcases List.mem_append.mp hp with hp | hp
      · exact Nat.ne_of_lt (hlt p hp)
      · exact hown p hp _ (.head _)
    (try k_fold)
    k_steps
    rename Fr _ _ _ _ => hF
    rename News _ _ _ _ => hN
    have hNt := hN _ (.head _)
    have hNr : News _ _ _ _ := fun p hp => hN p (.tail _ hp)
    refine (id : wpAny _ _ _ _ _ _ → Halt _) ?_
    refine' kst_tup (Led := fun c : List Value × Nat => (ra, listOf c.1.toArray c.2) :: (news ++ own)) (ps := fun c => [(Str.ofString "rows", .ref ra)]) (Facts := fun c => True) (stored := [])
      (P := fun pr c => StrsAre c.1 (bs (pre.flatMap bitsI ++ pr.map (bitI n0)))) (c₀ := (vs, nn)) (ns := wts) (by rfl) ⟨_, hNt.1, rfl, _, rfl⟩ (.cons _ _ (.cons _ _ (.cons _ _ (.cons _ _ (.cons _ _ (.cons _ _ (.cons _ _ (.cons _ _ .nil)))))))) hF ?iL ?ia ?iN True.intro ?ik ?ip ?it ?id
    case iL => exact Ne.symm hNt.2.1
    case ia =>
      rename _ < _ ∧ AllLt _ _ => hl1
      intro p hp
      rcases List.mem_cons.mp hp with rfl | hp
      · exact Nat.ne_of_lt hl1.1
      · exact Nat.ne_of_lt (kst_ltOf hl1.2 p hp)
    case iN => exact hNr
    case ik =>
      intro p hp
      obtain rfl := List.mem_singleton.mp hp
      show (if Str.ofString "rows" = _ then _ else _) = _
      rw [if_neg (by decide +kernel)]
      simp [kstB]
    case ip => rw [List.map_nil, List.append_nil]; exact hp
    case it =>
      intro c pr post k t2 u2 h2 tk2 own2 hks2 hkm hoff2 hf2 hp2 F2 N2
      obtain ⟨vs2, nn2⟩ := c
      clear hF hN hNt hNr hall
      dsimp only at hp2 F2 N2
      rw [List.cons_append] at N2
      have hk0 := wts_pos k hkm
      have hvl := strs_length hp2
      have hwl := congrArg List.length hks2
      have hil : (KBw.bInts l.toArray).length = l.length := by rw [KBw.ints_length, List.size_toArray]
      rw [bs_length, List.length_append, List.length_map, bitsI_length] at hvl
      rw [List.length_append, List.length_cons] at hwl
      have hw8 : wts.length = 8 := rfl
      rw [hil] at hpl
      have hall : ∀ p ∈ (news ++ own) ++ own2, p.1 ≠ ra := fun p hp => by
        rcases List.mem_append.mp hp with hp | hp
        · rcases List.mem_append.mp hp with hp | hp
          · exact Nat.ne_of_lt (hlt p hp)
          · exact hown p hp _ (.head _)
        · exact hoff2 p hp _ (.head _)
      (try k_fold)
      k_steps
      rename Fr _ _ _ _ => fE
      rename News _ _ _ _ => nE
      (try simp only [List.push_toArray] at nE)
      refine' kst_end (vs2 ++ [.str (strBits [bitI n0 k]) _], nn2 + 1) fE nE ?hn ?ho rfl ?hf ?hk ?hr ?hp
      case hf => exact True.intro
      case hn =>
        intro p hp
        rcases List.mem_cons.mp hp with rfl | hp
        · exact .head _
        · exact .tail _ (List.mem_append.mpr (.inl hp))
      case ho => exact fun p hp => .tail _ (List.mem_append.mpr (.inr hp))
      case hk =>
        intro p hp
        obtain rfl := List.mem_singleton.mp hp
        show (if Str.ofString "rows" = _ then _ else _) = _
        rw [if_neg (by decide +kernel)]
        simp [kstB]
      case hr =>
        intro z hx h5 h6
        have hz := h5 _ (.head _)
        show (if _ then _ else _) = _
        rw [if_neg hx]
        dsimp only at hz
        simp [kstB, hz]
      case hp =>
        show StrsAre (vs2 ++ _) (bs (_ ++ (pr ++ [k]).map (bitI n0)))
        rw [List.map_append, ← List.append_assoc]
        exact strs_snoc hp2
    case id =>
      intro c u2 h2 tk2 hf2 hp2 F2 N2
      obtain ⟨vs2, nn2⟩ := c
      clear hF hN hNt hNr
      dsimp only at hp2 F2 N2
      (try k_fold)
      k_steps
      rename Fr _ _ _ _ => fE
      rename News _ _ _ _ => nE
      refine' kst_end (vs2, nn2) fE nE ?jn ?jo rfl ?jf ?jk ?jr ?jp
      case jf => exact True.intro
      case jn =>
        intro p hp
        rcases List.mem_cons.mp hp with rfl | hp
        · exact .head _
        · exact .tail _ (List.mem_append.mpr (.inl hp))
      case jo => exact fun p hp => .tail _ (List.mem_append.mpr (.inr hp))
      case jk =>
        intro p hp
        obtain rfl := List.mem_singleton.mp hp
        show (if Str.ofString "rows" = _ then _ else _) = _
        rw [if_neg (by decide +kernel)]
        simp [kstB]
      case jr =>
        intro z hx h5 h6
        have hz := h5 _ (.head _)
        dsimp only at hz
        simp only [List.contains_cons, List.contains_nil, Bool.or_false, beq_eq_false_iff_ne, ne_eq] at h6
        show (if _ then _ else _) = _
        rw [if_neg h6]
        simp [kstB, hz, hx, h6]
      case jp =>
        rw [List.flatMap_append]
        exact hp2
  case done =>
    intro c u h tk hlen hf hp F' N'
    obtain ⟨vs, nn⟩ := c
    clear hF hN
    dsimp only at hp F' N'
    rw [bitsI_all] at hp
    have hl2 := bitsOf_length l
    (try k_fold)
    k_steps
    exact hret _ _ _ (by k_asm) (by rename News _ _ _ _ => hN9; exact fun p hp => hN9 p (.tail _ hp))
end
end Mine
end

/-! R3 -/
section
open PySem PySem.W PyProof.Rows PySem.Calls
set_option linter.unusedVariables false
namespace Mine
section
variable {prog : Program} {w : World} {A : Around} {E : Value → Shared → Prop} {s : Shared} {env : Env} {h₀ : Heap} {x : Str} {body : List Stmt} {Q : Flow → Shared → Prop}
theorem kst_step {σ : Type} {r : Addr} {a₀ b₀ cst : Int} {t₀ u₀ v₀ : Tok} {n : Nat} {m₀ : Str → Option Value} (Led : σ → List (Addr × Obj)) (ps : σ → List (Str × Value)) (Facts : σ → Prop) (stored : List Str) (P : List Int → σ → Prop) (c₀ : σ)
    (hh : A.handled = none) (hr : IsRange s.heap r a₀ b₀ cst t₀ u₀ v₀) (hsmall : Builtin.Range.small a₀ b₀ cst = true) (hn : Builtin.Range.rangeSize a₀ b₀ cst = (n : Int)) (F : Fr h₀ env.locals s.heap m₀) (N : News h₀ env.locals s.heap (Led c₀)) (hf : Facts c₀) (hk : ∀ p ∈ ps c₀, m₀ p.1 = some p.2) (hp : P [] c₀)
    (turn : ∀ (c : σ) (pre : List Int) (k : Int) t (u : Str → Option Value) h tk own, k = a₀ + (pre.length : Int) * cst → pre.length < n → OwnOff own ((Led c₀).map (·.1)) → Facts c → P pre c →
      Fr h₀ env.locals h (fun y => if y = x then some (.int k t) else kstB (fun z => if stored.contains z then u z else m₀ z) (ps c) y) → News h₀ env.locals h (Led c ++ own) →
      wpAny (model prog w) A (execs body env) (InvPostN h₀ env.locals (KstS Led ps Facts x stored m₀ P (pre ++ [k])) own ((Led c₀).map (·.1)) { s with heap := h, toks := tk } Q) E { s with heap := h, toks := tk })
    (done : ∀ (c : σ) (pre : List Int) (u : Str → Option Value) h tk, pre.length = n → Facts c → P pre c → Fr h₀ env.locals h (fun y => if y = x then u y else kstB (fun z => if stored.contains z then u z else m₀ z) (ps c) y) → News h₀ env.locals h (Led c) → Q .next { s with heap := h, toks := tk }) :
    wpAny (model prog w) A (pyIter (.ref r)) (fun it s₂ => LoopAtV prog w A h₀ env x body Q E it s₂) E s := by
  refine wpAny_pyIter_range hr hsmall ?_
  have W : Walks prog w A s.heap.objs.size [s.heap.objs.size] [s.heap.objs.size] n (fun i v => i < n ∧ ∃ t, v = .int (a₀ + i * cst) t)
      (fun i h => IsRangeIter h s.heap.objs.size (a₀ + (i : Nat) * cst) ((n : Int) - (i : Nat)) cst) := (Walks.range hh _ a₀ cst n).bound
  refine loop_invN (fun i m nx => KstS Led ps Facts x stored m₀ P ((List.range i).map fun j : Nat => a₀ + (j : Int) * cst) m nx) W ?_ ?_ ?_ ?_ (by show IsRangeIter _ _ _ _ _; rw [hn]; simpa using Heap.get?_push_size _ rfl) (F.push _) (fun p hp => ⟨Heap.get?_push_of_some _ (N p hp).1, (N p hp).2⟩) ⟨c₀, rfl, hf, hk, fun _ _ _ _ => rfl, hp⟩ ?_ ?_
  · intro hm
    exact absurd F.ns.lt ((List.mem_singleton.mp hm) ▸ Nat.lt_irrefl _)
  · intro b hb
    rw [List.mem_singleton.mp hb]
    exact next_is_new F
  · intro p hp hI
    exact absurd (Heap.lt_size (N p hp).1) ((List.mem_singleton.mp hI) ▸ Nat.lt_irrefl _)
  · intro p hp hI
    exact absurd (Heap.lt_size (N p hp).1) ((List.mem_singleton.mp hI) ▸ Nat.lt_irrefl _)
  · rintro i v m₁ nx h tk own hi ⟨_, t, rfl⟩ _ hoff ⟨c, rfl, hf', h1, h2, hp'⟩ F₁ N₁
    have hlen : ((List.range i).map fun j : Nat => a₀ + (j : Int) * cst).length = i := by rw [List.length_map, List.length_range]
    have hs : ((List.range (i + 1)).map fun j : Nat => a₀ + (j : Int) * cst) = ((List.range i).map fun j : Nat => a₀ + (j : Int) * cst) ++ [a₀ + (i : Int) * cst] := by
      rw [List.range_succ, List.map_append]; rfl
    rw [hs]
    exact turn c _ _ t m₁ h tk own (by rw [hlen]) (by rw [hlen]; exact hi) hoff hf' hp' (kst_fr h1 h2 F₁) N₁
  · rintro m₁ nx h tk ⟨c, rfl, hf', h1, h2, hp'⟩ F₁ N₁
    exact done c _ m₁ h tk (by rw [List.length_map, List.length_range]) hf' hp' (kst_frOut h1 h2 F₁) N₁
end
section
variable {prog : Program} {w : World} {A : Around} {E : Value → Shared → Prop} {s : Shared} {Q : Value → Shared → Prop}
theorem charAt_bits {ds : List Nat} {i : Int} (h0 : 0 ≤ i) (h1 : i < ds.length) : Txt.item (strBits ds) i = strBits [ds.getD i.toNat 0] := by
  have hl : (strBits ds).length = ds.length := strBits_length ds
  have e : seqIndex? i (strBits ds).length = some i.toNat := by
    unfold seqIndex?
    rw [hl]
    simp only [show ¬ i < 0 by omega, if_false]
    rw [if_pos (by simp; omega)]
  unfold Txt.item Txt.charAt
  rw [e]
  simp only [Option.bind_some]
  have e2 : (strBits ds).cps[i.toNat]? = some (hexDig (ds.getD i.toNat 0)) := by
    have hlt : i.toNat < ds.length := by omega
    simp [strBits, List.getD_eq_getElem?_getD, hlt]
  rw [e2]
  rfl
theorem item_bits {value slice : Expr} {ds : List Nat} {i : Int} {t u : Tok} (h0 : 0 ≤ i) (h1 : i < ds.length) (hz : ds.length ≤ 1000) (h : Q (.str (strBits [ds.getD i.toNat 0]) s.toks) { s with toks := s.toks + 1 })
    (hs : subscripted slice false (.str (strBits ds) t) (.int i u) = operate [.str (strBits ds) t, .int i u] (getItem (.str (strBits ds) t) (.int i u)) := by with_unfolding_all rfl)
    (ht : ∀ r, letTemporaryGo value (.str (strBits ds) t) r = pure () := by intro _; with_unfolding_all rfl) :
    wpAny (model prog w) A (subscriptTail value slice (.str (strBits ds) t) (.int i u)) Q E s := by
  refine KXi.item (n := ds.length) (strBits_length ds) (by omega) (by omega) (by omega) (fun _ => ?_) hs ht
  rw [charAt_bits h0 h1]
  exact h
end
theorem bit_one {d : Nat} (hd : d < 2) : (strBits [d] = Str.ofString "1") ↔ d = 1 := by
  have : d = 0 ∨ d = 1 := by omega
  rcases this with rfl | rfl
  · exact ⟨fun h => absurd h (by decide +kernel), fun h => absurd h (by decide)⟩
  · exact ⟨fun _ => rfl, fun _ => by decide +kernel⟩
end Mine
namespace Mine
theorem rangeSize_8 (n : Nat) : Builtin.Range.rangeSize 0 (n : Int) 8 = (((n + 7) / 8 : Nat) : Int) := by
  unfold Builtin.Range.rangeSize
  simp only [show (8 : Int) > 0 by decide, if_true]
  split <;> omega
theorem fits_long {i : Int} (h0 : 0 ≤ i) (h1 : i ≤ 2000) : Builtin.Range.rangeFitsLong i = true := by
  have e1 : (2 : Int) ^ 63 = 9223372036854775808 := by decide
  unfold Builtin.Range.rangeFitsLong
  rw [e1, Bool.and_eq_true]
  exact ⟨decide_eq_true (by omega), decide_eq_true (by omega)⟩
theorem small_8 {n : Nat} (h : n ≤ 1000) : Builtin.Range.small 0 (n : Int) 8 = true := by
  unfold Builtin.Range.small
  rw [rangeSize_8, fits_long (i := 0) (by omega) (by omega), fits_long (i := (n : Int)) (by omega) (by omega), fits_long (i := 8) (by omega) (by omega), fits_long (i := (((n + 7) / 8 : Nat) : Int)) (by omega) (by omega), if_pos (by decide), fits_long (by omega) (by omega)]
  simp
def bitsAt (ds : List Nat) (i j : Nat) : List Nat := (List.range j).map fun k => ds.getD (8 * i + k) 0
theorem fold_snoc (ds : List Nat) (i j : Nat) : foldB 2 0 (bitsAt ds i (j + 1)) = 2 * foldB 2 0 (bitsAt ds i j) + ds.getD (8 * i + j) 0 := by
  unfold bitsAt
  rw [List.range_succ, List.map_append, foldB_append]
  show _ * 2 + ds.getD (8 * i + j) 0 = _
  omega
theorem fold_bits_lt {ds : List Nat} (h : ∀ d ∈ ds, d < 2) (i : Nat) : ∀ j, foldB 2 0 (bitsAt ds i j) < 2 ^ j
  | 0 => Nat.one_pos
  | j + 1 => by
    have := fold_bits_lt h i j
    have := getD_lt h (8 * i + j)
    rw [fold_snoc, Nat.pow_succ]; omega
theorem octAt_fold {ds : List Nat} (h : ∀ d ∈ ds, d < 2) (i : Nat) : (octAt ds i).toNat = foldB 2 0 (bitsAt ds i 8) := by
  have := fold_bits_lt h i 8
  have e : octAt ds i = (foldB 2 0 (bitsAt ds i 8)).toUInt8 := rfl
  rw [e]
  show _ % 256 = _
  omega
theorem octs_succ (n : Nat) (ds : List Nat) : octs (n + 1) ds = octs n ds ++ [octAt ds n] := by
  unfold octs
  rw [List.range_succ, List.map_append]; rfl
end Mine
end

/-! D4 -/
section
open PySem PySem.W PyProof.Rows PySem.Calls
set_option linter.unusedVariables false
namespace Mine
local macro_rules | `(tactic| walk_at "mine enter") => `(tactic| (refine wpAny_call ?_; k_dflt (refine' code_def ?k1 ?k2 ?k3 ?k4 ?k5 ?kA ?kF ?kK ?k6 ?k7 ?k8 ?k9 ?kB ?_ ?c2 ?c3 ?c4 ?c5; (case kA => exact rfl); (case kF => exact rfl); (case kK => assumption); (case k1 => k_asm); (case k2 => k_asm); (case k3 => k_asm); (case k4 => k_asm); (case k5 => k_asm); (case k6 => k_is); (case k7 => k_is); (case k8 => ktr_room); (case k9 => first | exact BindsTo.of_eq rfl | exact binds_K (by k_in) rfl (by k_is) rfl rfl rfl); (case c5 => decide); (case kB => exact locs rfl); (case c2 => exact rfl); (case c3 => exact rfl); (case c4 => exact rfl); k_whole; intro g' L' h' FG' F' N' B' X' T'; (try dsimp only); (try k_lift B'); (try k_fold))))
local macro_rules | `(tactic| k_all) => `(tactic| assumption)
local macro_rules | `(tactic| walk_at "exec For Name Call cons nil") => `(tactic| (k_here; (rename Fr _ _ _ _ => lF'); (with_unfolding_all refine' For_invVF lF' ?k1 ?k2 ?_; (case k1 => exact rfl); (case k2 => exact rfl); k_whole)))
local macro_rules | `(tactic| walk_at "pyIter ref") => `(tactic| (k_here; (with_reducible show wpAny _ _ (pyIter (Value.ref _)) (fun it s₂ => LoopAtV _ _ _ _ _ _ _ _ _ it s₂) _ _); refine halt ?_))
local macro_rules | `(tactic| walk_at "subscriptTail") => `(tactic| (k_here; (with_reducible show wpAny _ _ (subscriptTail _ _ (Value.str (strBits _) _) (Value.int _ _)) _ _ _); refine item_bits (by omega) (by omega) (by omega) ?_))
local macro_rules | `(tactic| walk_at "call builtin:list.append") => `(tactic| (k_here; (with_reducible show wpAny _ _ (call (Value.builtin _) [Value.ref _, _]) _ _ _); k_dflt (refine' append_K ?k1 ?k2 ?k3 ?_ ?z; (case k1 => k_asm); (case k2 => k_asm); (case k3 => k_upd); (case z => (rw [List.size_toArray, sizeLine_eq]; omega)); k_whole); intro h' F' N'; (try k_sweep)))
section
variable {w : World} {p : Program} {loose : List Str} {mean : ExcName → Option Value} {mg mb : Str → Option Value}
    {dp un : Nat} {gd : Option (List Code)} {cn : Str} {cs : Scope} {a : Addr} {ccd : Value} {cl : List (Str × Addr)} {outer : List Env} {A₀ : Around} {base h₀ : Heap} {L : Addr} {m : Str → Option Value} {s : Shared} {Q E : Value → Shared → Prop}
    {news : List (Addr × Obj)}
set_option maxRecDepth 100000
set_option maxHeartbeats 8000000
theorem octets {ds : List Nat} {t : Tok} (hz : ds.length ≤ 60) (hd2 : ∀ d ∈ ds, d < 2)
    (B : Below A₀ base outer h₀) (F : Fr h₀ L s.heap m) (X : (hd.heap_39 w.params).In h₀) (N : News h₀ L s.heap news) (T : Top p loose mean mg mb h₀) (hk : cs.kind = .function)
    (hd1 : dp + 2 < recursionLimit) (hu1 : un + 16 < cLine)
    (hret : ∀ t' h' tk', Fr h₀ L h' m → News h₀ L h' news → Q (.bytes (packB ds).toArray t') { s with heap := h', toks := tk' }) :
    wpAny (model PySem.Challenge.rw_eh5005_01.row.prog w) (ktrTop dp un gd cn cs L a ccd cl outer) (call (.ref 106) [.str (strBits ds) t]) Q E s := by
  w_top off; revert X; k_fill; intro X
  have hsl := strBits_length ds
  walk_at "mine enter"
  k_steps
  rename IsRange _ _ _ _ _ _ _ _ => hR
  rename Fr _ _ _ _ => hF
  rename News _ _ _ _ => hN
  rename ∀ p ∈ news, p.1 < _ => hlt
  obtain ⟨ra, hra⟩ := name_led hN
  subst hra
  rw [hsl] at hR
  refine (id : wpAny _ _ _ _ _ _ → Halt _) ?_
  refine' kst_step (Led := fun c : List Value × Nat => (ra, listOf c.1.toArray c.2) :: news) (ps := fun c => [(Str.ofString "rows", .ref ra)]) (Facts := fun c => True) (stored := [Str.ofString "octet", Str.ofString "k"])
    (P := fun pre c => IntsAre c.1 ((octs pre.length ds).map fun b => (b.toNat : Int))) (c₀ := ([], 0)) (by rfl) hR (small_8 (by omega)) (rangeSize_8 _) hF hN True.intro ?kk ?kp ?turn ?done
  case kk =>
    intro p hp
    obtain rfl := List.mem_singleton.mp hp
    rfl
  case kp => exact .nil
  case turn =>
    intro c pre start t9 u h tk own hst hpl hown hf hp F' N'
    obtain ⟨vs, nn⟩ := c
    clear hF hN
    dsimp only at hp F' N'
    rw [List.cons_append] at N'
    have hvl := hp.length
    rw [List.length_map, octs, List.length_map, List.length_range] at hvl
    have hall : ∀ p ∈ news ++ own, p.1 ≠ ra := fun p hp => by
      rcases List.mem_append.mp hp with hp | hp
      · exact Nat.ne_of_lt (hlt p hp)
      · exact hown p hp _ (.head _)
    (try k_fold)
    k_steps
    rename IsRange _ _ _ _ _ _ _ _ => hR2
    rename Fr _ _ _ _ => hF
    rename News _ _ _ _ => hN
    refine (id : wpAny _ _ _ _ _ _ → Halt _) ?_
    refine' kst_step (n := 8) (Led := fun c : Int × Tok => (ra, listOf vs.toArray nn) :: (news ++ own)) (ps := fun c => [(Str.ofString "octet", .int c.1 c.2)]) (Facts := fun c => True) (stored := [])
      (P := fun pr c => c.1 = ((foldB 2 0 (bitsAt ds pre.length pr.length) : Nat) : Int)) (c₀ := (0, _)) (by rfl) hR2 (small_one (by omega) (by omega) (by omega) (by omega)) (by rw [rangeSize_nat]; omega) hF hN True.intro ?ik ?ip ?it ?id
    case ik =>
      intro p hp
      obtain rfl := List.mem_singleton.mp hp
      rfl
    case ip => rfl
    case it =>
      intro c pr k t2 u2 h2 tk2 own2 hk2 hpl2 hoff2 hf2 hp2 F2 N2
      obtain ⟨oc, ot⟩ := c
      clear hF hN hall
      dsimp only at hp2 F2 N2
      rw [List.cons_append] at N2
      have hall : ∀ p ∈ (news ++ own) ++ own2, p.1 ≠ ra := fun p hp => by
        rcases List.mem_append.mp hp with hp | hp
        · rcases List.mem_append.mp hp with hp | hp
          · exact Nat.ne_of_lt (hlt p hp)
          · exact hown p hp _ (.head _)
        · exact hoff2 p hp _ (.head _)
      have hb1 := fold_bits_lt hd2 pre.length pr.length
      have hb2 : 2 ^ pr.length ≤ 2 ^ 7 := Nat.pow_le_pow_right (by decide) (by omega)
      have hb3 : oc < 128 := by have e7 : (2 : Nat) ^ 7 = 128 := by decide
                                omega
      have hb4 : 0 ≤ oc := by omega
      have hsn := fold_snoc ds pre.length pr.length
      have hkn : k.toNat = 8 * pre.length + pr.length := by omega
      (try k_fold)
      k_steps
      · rename Fr _ _ _ _ => fE
        rename News _ _ _ _ => nE
        rename (Txt.item _ _ == _) = true => hq
        rw [charAt_bits (by omega) (by omega), beq_iff_eq, bit_one (getD_lt hd2 _), hkn] at hq
        refine' kst_end (2 * oc + 1, _) fE nE ?an ?ao rfl ?af ?ak ?ar ?ap
        case af => exact True.intro
        case an =>
          intro p hp
          rcases List.mem_cons.mp hp with rfl | hp
          · exact .head _
          · exact .tail _ (List.mem_append.mpr (.inl hp))
        case ao => exact fun p hp => .tail _ (List.mem_append.mpr (.inr hp))
        case ak =>
          intro p hp
          obtain rfl := List.mem_singleton.mp hp
          exact if_pos rfl
        case ar =>
          intro z hx h5 h6
          have hz := h5 _ (.head _)
          dsimp only at hz
          simp [kstB, hz, hx]
        case ap =>
          rw [List.length_append]
          show 2 * oc + 1 = ((foldB 2 0 (bitsAt ds pre.length (pr.length + 1)) : Nat) : Int)
          omega
      · rename Fr _ _ _ _ => fE
        rename News _ _ _ _ => nE
        rename (Txt.item _ _ == _) = false => hq
        rw [charAt_bits (by omega) (by omega), beq_eq_false_iff_ne, ne_eq, bit_one (getD_lt hd2 _), hkn] at hq
        have hq2 := getD_lt hd2 (8 * pre.length + pr.length)
        refine' kst_end (2 * oc, _) fE nE ?bn ?bo rfl ?bf ?bk ?br ?bp
        case bf => exact True.intro
        case bn =>
          intro p hp
          rcases List.mem_cons.mp hp with rfl | hp
          · exact .head _
          · exact .tail _ (List.mem_append.mpr (.inl hp))
        case bo => exact fun p hp => .tail _ (List.mem_append.mpr (.inr hp))
        case bk =>
          intro p hp
          obtain rfl := List.mem_singleton.mp hp
          exact if_pos rfl
        case br =>
          intro z hx h5 h6
          have hz := h5 _ (.head _)
          dsimp only at hz
          simp [kstB, hz, hx]
        case bp =>
          rw [List.length_append]
          show 2 * oc = ((foldB 2 0 (bitsAt ds pre.length (pr.length + 1)) : Nat) : Int)
          omega
      · rename Fr _ _ _ _ => fE
        rename News _ _ _ _ => nE
        rename ¬ _ < _ => hq
        have hq2 : ds.getD (8 * pre.length + pr.length) 0 = 0 := by
          rw [List.getD_eq_getElem?_getD, List.getElem?_eq_none (by omega)]; rfl
        refine' kst_end (2 * oc, _) fE nE ?cn ?co rfl ?cf ?ck ?cr ?cp
        case cf => exact True.intro
        case cn =>
          intro p hp
          rcases List.mem_cons.mp hp with rfl | hp
          · exact .head _
          · exact .tail _ (List.mem_append.mpr (.inl hp))
        case co => exact fun p hp => .tail _ (List.mem_append.mpr (.inr hp))
        case ck =>
          intro p hp
          obtain rfl := List.mem_singleton.mp hp
          exact if_pos rfl
        case cr =>
          intro z hx h5 h6
          have hz := h5 _ (.head _)
          dsimp only at hz
          simp [kstB, hz, hx]
        case cp =>
          rw [List.length_append]
          show 2 * oc = ((foldB 2 0 (bitsAt ds pre.length (pr.length + 1)) : Nat) : Int)
          omega
    case id =>
      intro c pr u2 h2 tk2 hlen2 hf2 hp2 F2 N2
      obtain ⟨oc, ot⟩ := c
      clear hF hN
      dsimp only at hp2 F2 N2
      rw [hlen2, ← octAt_fold hd2] at hp2
      subst hp2
      (try k_fold)
      k_steps
      rename Fr _ _ _ _ => fE
      rename News _ _ _ _ => nE
      simp only [List.push_toArray] at nE
      refine' kst_end (vs ++ [.int ((octAt ds pre.length).toNat : Int) _], nn + 1) fE nE ?dn ?dO rfl ?df ?dk ?dr ?dp
      case df => exact True.intro
      case dn =>
        intro p hp
        rcases List.mem_cons.mp hp with rfl | hp
        · exact .head _
        · exact .tail _ (List.mem_append.mpr (.inl hp))
      case dO => exact fun p hp => .tail _ (List.mem_append.mpr (.inr hp))
      case dk =>
        intro p hp
        obtain rfl := List.mem_singleton.mp hp
        show (if Str.ofString "rows" = _ then _ else _) = _
        rw [if_neg (by decide +kernel)]
        simp [kstB]
        repeat rw [if_neg (by decide +kernel)]
      case dr =>
        intro z hx h5 h6
        have hz := h5 _ (.head _)
        dsimp only at hz
        simp only [List.contains_cons, List.contains_nil, Bool.or_false, Bool.or_eq_false_iff, beq_eq_false_iff_ne, ne_eq] at h6
        simp [kstB, hz, hx, h6]
      case dp =>
        rw [List.length_append]
        show IntsAre _ ((octs (pre.length + 1) ds).map fun b => (b.toNat : Int))
        rw [octs_succ, List.map_append]
        exact ints_snoc hp
  case done =>
    intro c pre u h tk hlen hf hp F' N'
    obtain ⟨vs, nn⟩ := c
    clear hF hN
    dsimp only at hp F' N'
    (try k_fold)
    k_steps
    refine' bytes_K (ns := (packB ds).map fun b => (b.toNat : Int)) F' N' ⟨_, News.get N' (.head _), rfl, _, rfl⟩ ?h1 ?r ?z rfl ?h
    case h1 => rw [hlen] at hp; exact hp
    case r =>
      intro x hx
      obtain ⟨c, _, rfl⟩ := List.mem_map.mp hx
      have := c.toNat_lt
      omega
    case z => rw [hp.length, List.length_map, octs, List.length_map, List.length_range, sizeLine_eq]; omega
    case h =>
      intro h' t' k' F'' N'' _
      rw [bytes_back]
      k_steps
      all_goals exact hret _ _ _ (by k_asm) (by rename News _ _ _ _ => hN9; exact fun p hp => hN9 p (.tail _ hp))
end
end Mine
end

/-! W9 -/
section
open PySem PySem.W PyProof.Rows PySem.Calls
namespace Mine
section
variable {prog : Program} {w : World} {A : Around} {s : Shared} {R : Result → Shared → Prop}
theorem codeC_func {body env}
    (h : wpC (model prog w) (A.deeper env) (execs body env) (fun f s' => R (.ok (.ret (match f with | .ret v => v | _ => .none))) s')
      (fun e s' => wpAny (model prog w) (A.deeper env) (leaving env e) (fun _ s'' => R (.error e) s'') (fun e' s'' => R (.error e') s'') s') s) :
    codeC (model prog w) A (.func body env) R s := by
  refine codeC_of_tree rfl ?_
  show wpC _ (A.deeper env) (do point; match ← (execs body env).onRaise (leaving env) with | .ret v => ret v | _ => ret .none) _ _ s
  refine wpC_bindA (wpAny_point (wpC_bind (wpC_onRaise (wpC_mono h (fun f s' h' => ?_) fun _ _ h' => h'))))
  cases f <;> exact wpC_of (wpAny_pure h')
theorem codeC_call_function {a : Addr} {args : Args} {o : Obj} {fd : FuncData} {body : List Stmt} (hroom : A.depth < recursionLimit)
    (ho : s.heap.get? a = some o)
    (hd' : o.data = .func fd) (hco : fd.scope.isCoroutine = false) (hgen : fd.scope.isGenerator = false) (hbody : fd.body = .stmts body) (hcd : s.heap.CodeRec fd.code fd.qualname)
    (h : wpAny (model prog w) A.in1 (bindArgs fd args) (fun binds s₁ =>
      wpAny (model prog w) A.in1 (newFunctionEnv fd.scope fd.globals fd.closure binds (fd.qualname ++ ".<locals>.") (some a) fd.code none fd.builtins)
        (fun env s₂ => s₂.heap.NoLimit ∧ codeC (model prog w) A (.func body env) R s₂) (fun e s' => R (.error e) s') s₁) (fun e s' => R (.error e) s') s) :
    codeC (model prog w) A (.call (.ref a) args) R s := by
  refine codeC_of_tree rfl (wpC_of ?_)
  show wpAny _ A.in1 (callAny (.ref a) args) _ _ s
  simp only [callAny]
  refine wpAny_bind (wpAny_load ho ?_)
  obtain ⟨c, oc, vs, tq, hc, hoc, hdc, hq⟩ := hcd
  simp only [hd', callFunction, hco, hgen, hbody, hc]
  rw [hc] at h
  refine wpAny_bind (m := field (.ref c) 1) (wpAny_field hoc hdc hq (wpAny_bind (wpAny_pure ?_)))
  exact wpAny_bind (wpAny_mono h (fun binds s₁ h₁ => wpAny_bind (wpAny_mono h₁ (fun env s₂ h₂ => wpAny_bind (wpAny_enterFrame h₂.1 hroom
    (wpAny_pure (And.intro rfl h₂.2)))) fun _ _ h' => h')) fun _ _ h' => h')
theorem call_cellsC {name : Str} {params : Arguments} {body : List Stmt} {scope : Scope}
    {pm cd doc : Value} {a : Addr} {o : Obj} {args : List Value} {binds : List (Str × Value)}
    (hroom : A.depth < recursionLimit) (ho : s.heap.get? a = some o) (hdata : o.data = .func (docDef name params body scope pm cd doc)) (hlim : s.heap.NoLimit) (hcd : s.heap.CodeRec cd name)
    (hbind : bindArgs (docDef name params body scope pm cd doc) ⟨args, []⟩ = pure binds)
    (hkind : ∀ x ∈ binds, scope.names.lookup x.1 = some .local ∨ (scope.names.lookup x.1 = some .cell ∧ ((cellsFrom (s.heap.objs.size + 1) scope.names []).lookup x.1).isSome = true))
    (hnd : ((cellsFrom 0 scope.names []).map (·.1)).Nodup)
    (h : ∀ h₁ tk cells, Fr s.heap s.heap.objs.size h₁ (bindL (envOfC name scope s.heap.objs.size a cd).kindOf binds fun _ => none) → News s.heap s.heap.objs.size h₁ cells →
      CellsAre (bindC (envOfC name scope s.heap.objs.size a cd).kindOf binds fun _ => none) (cellsFrom (s.heap.objs.size + 1) scope.names []) cells →
      wpC (model prog w) (A.deeper (envOfC name scope s.heap.objs.size a cd)) (execs body (envOfC name scope s.heap.objs.size a cd))
        (fun f s' => R (.ok (.ret (match f with | .ret v => v | _ => .none))) s')
        (fun e s' => wpAny (model prog w) (A.deeper (envOfC name scope s.heap.objs.size a cd)) (leaving (envOfC name scope s.heap.objs.size a cd) e)
          (fun _ s'' => R (.error e) s'') (fun e' s'' => R (.error e') s'') s')
        { s with heap := h₁, toks := tk })
    (hco : scope.isCoroutine = false := by rfl) (hgen : scope.isGenerator = false := by rfl) (hk : scope.kind = .function := by rfl) :
    codeC (model prog w) A (.call (.ref a) ⟨args, []⟩) R s := by
  refine codeC_call_function hroom ho hdata hco hgen rfl hcd ?_
  rw [show bindArgs (docDef name params body scope pm cd doc) ⟨args, []⟩ = pure binds from hbind]
  refine wpAny_pure (wpAny_newFunctionEnv_cells hk hkind fun env he s' x => ?_)
  subst he
  refine ⟨hlim.keeps x.toInCall.keep, codeC_func ?_⟩
  obtain ⟨h₁, tk, rfl, _⟩ := x.done
  have hk₁ := x.toInCall.keep
  obtain ⟨cells, NC, Y⟩ := Cl.news (h₀ := s.heap) (Nat.le_refl _) fun n c hm => ⟨x.cell n c (lookup_of_mem_nodup (cellsFrom_names scope.names 0 (s.heap.objs.size + 1) [] [] rfl ▸ hnd) hm), x.above n c hm⟩
  exact h h₁ tk cells ⟨x.toInCall.ns, hk₁, Nat.le_refl _⟩ NC Y
theorem enter_callC {M : Model} {A : Around} {s : Shared} {f : Value} {pos : List Value} {kw : List (Str × Value)} {c : ClaimW} {cl : Str → Option Addr} {mean : ExcName → Option Value} {args : List WData} {s₁ : Shared}
    (h : codeC M A (.call f ⟨pos, kw⟩) (GoodWG c cl mean args s₁) s) : wpC M A (PySem.call f pos kw) (fun v s' => GoodWG c cl mean args s₁ (.ok (.ret v)) s') (fun e s' => GoodWG c cl mean args s₁ (.error e) s') s :=
  wpC_call (codeC_mono h fun res s' g => by rcases g.1 with ⟨v, _, _, rfl, _⟩ | ⟨e, _, _, rfl, _⟩ <;> exact g)
end
end Mine
end

/-! R4 -/
section
open PySem PySem.W PyProof.Rows PySem.Calls
set_option linter.unusedVariables false
namespace Mine
def FewPost (h₀ : Heap) (L : Addr) (m : Str → Option Value) (c : Addr × Obj) (s : Shared) (f : Flow) (s' : Shared) : Prop :=
  f = .next ∧ ∃ h tk D ys ns nf, s' = { s with heap := h, toks := tk } ∧ IntsAre ys ns ∧ 0 < ns.length ∧ ns.length ≤ 40 ∧ (c.1 ≠ D) ∧ Fr h₀ L h (fun y => if y = Str.ofString "few" then some (.ref D) else m y) ∧ News h₀ L h [(D, listOf ys.toArray nf), c]
section
variable {prog : Program} {w : World} {A : Around} {E : Value → Shared → Prop} {s : Shared} {env : Env} {Q : Flow → Shared → Prop} {h₀ : Heap} {L : Addr} {m : Str → Option Value} {c : Addr × Obj}
theorem step_few {st rest} (F : Fr h₀ L s.heap m) (N : News h₀ L s.heap [c])
    (h1 : wpAny (model prog w) A (exec st env) (FewPost h₀ L m c s) E s)
    (h2 : ∀ h tk (D : Addr) ys ns nf, IntsAre ys ns → 0 < ns.length → ns.length ≤ 40 → (c.1 ≠ D) → Fr h₀ L h (fun y => if y = Str.ofString "few" then some (.ref D) else m y) → News h₀ L h [(D, listOf ys.toArray nf), c] → wpC (model prog w) A (execs rest env) Q E { s with heap := h, toks := tk }) :
    wpC (model prog w) A (execs (st :: rest) env) Q E s := by
  refine wpC_execs_step (wpAny_mono h1 (fun f s' h => ?_) fun _ _ e => e)
  obtain ⟨rfl, h, tk, D, ys, ns, nf, rfl, a1, a2, a3, a4, a5, a6⟩ := h
  exact h2 h tk D ys ns nf a1 a2 a3 a4 a5 a6
end
theorem fewPost {h₀ : Heap} {L : Addr} {m : Str → Option Value} {c : Addr × Obj} {s : Shared} {h : Heap} {tk : Nat} {D : Addr} {ys : List Value} {ns : List Int} {nf : Nat} (a1 : IntsAre ys ns) (a2 : 0 < ns.length) (a3 : ns.length ≤ 40) (a4 : c.1 ≠ D)
    (a5 : Fr h₀ L h (fun y => if y = Str.ofString "few" then some (.ref D) else m y)) (a6 : News h₀ L h [(D, listOf ys.toArray nf), c]) : FewPost h₀ L m c s .next { s with heap := h, toks := tk } := ⟨rfl, h, tk, D, ys, ns, nf, rfl, a1, a2, a3, a4, a5, a6⟩
end Mine
namespace Mine
theorem few_drop {h₀ h : Heap} {L : Addr} {p c : Addr × Obj} {rest : List (Addr × Obj)} (N : News h₀ L h (p :: rest)) (hc : c ∈ rest) : News h₀ L h [p, c] := fun q hq => by
  rcases List.mem_cons.mp hq with rfl | hq
  · exact N _ (.head _)
  · rw [List.mem_singleton.mp hq]; exact N _ (.tail _ hc)
theorem one_int (k : Int) (t : Tok) : IntsAre [.int k t] [k] := .cons _ _ .nil
end Mine
end

/-! R5 -/
section
open PySem PySem.W PyProof.Rows PySem.Calls
set_option linter.unusedVariables false
namespace Mine
def BoxLed (bx D : Addr) (ys : List Value) (nb nf : Nat) (c : Addr × Obj) (k : Int) (t : Tok) : List (Addr × Obj) := [(bx, listOf #[.ref D, .int k t] nb), (D, listOf ys.toArray nf), c]
def TurnEnd (h₀ : Heap) (L : Addr) (bx D : Addr) (ys : List Value) (nb nf : Nat) (c : Addr × Obj) (It : Addr) (oI : Obj) (s : Shared) (R : Flow → Shared → Prop) (f : Flow) (s₃ : Shared) : Prop :=
  match f with
  | .next | .cont => ∃ h tk m k t, s₃ = { s with heap := h, toks := tk } ∧ Fr h₀ L h m ∧ News h₀ L h ((It, oI) :: BoxLed bx D ys nb nf c k t)
  | .brk => R .next s₃
  | .ret v => R (.ret v) s₃
theorem codeC_iff {M : Model} {A : Around} {c : Code} {R R' : Result → Shared → Prop} {s : Shared} (h : codeC M A c R s) (hR : ∀ r s, R r s → R' r s) : codeC M A c R' s := codeC_mono h hR
section
variable {prog : Program} {w : World} {A : Around} {s : Shared} {env : Env} {h₀ : Heap} {L : Addr} {m : Str → Option Value} {c : Addr × Obj} {bx D : Addr} {ys : List Value} {nb nf : Nat}
theorem loop_box {R : Flow → Shared → Prop} {x : Str} {px : Pos} {body : List Stmt} {r : Addr} {b₀ : Int} {t₀ u₀ v₀ : Tok} {n : Nat} {k₀ : Int} {tb : Tok} (hh : A.handled = none)
    (hr : IsRange s.heap r 0 b₀ 1 t₀ u₀ v₀) (hsmall : Builtin.Range.small 0 b₀ 1 = true) (hn : Builtin.Range.rangeSize 0 b₀ 1 = (n : Int)) (F : Fr h₀ L s.heap m) (N : News h₀ L s.heap (BoxLed bx D ys nb nf c k₀ tb))
    (turn : ∀ (It : Addr) (oI : Obj) i t9 h tk m' k t, (∀ p ∈ BoxLed bx D ys nb nf c k t, p.1 < It) → Fr h₀ L h m' → News h₀ L h ((It, oI) :: BoxLed bx D ys nb nf c k t) →
      wpAny (model prog w) A (assign (.Name x px) env (.int i t9)) (fun _ s₂ => wpC (model prog w) A (execs body env) (TurnEnd h₀ L bx D ys nb nf c It oI s R) (fun _ _ => False) s₂) (fun _ _ => False) { s with heap := h, toks := tk })
    (done : ∀ h tk m' k t, Fr h₀ L h m' → News h₀ L h (BoxLed bx D ys nb nf c k t) → R .next { s with heap := h, toks := tk }) :
    wpAny (model prog w) A (pyIter (.ref r)) (fun it s₂ => codeC (model prog w) A (.forLoop (.Name x px) it body [] env) (fun r s' => match r with | .ok f => R f s' | .error _ => False) s₂) (fun _ _ => False) s := by
  refine wpAny_pyIter_range hr hsmall ?_
  have W : Walks prog w A s.heap.objs.size [s.heap.objs.size] [s.heap.objs.size] n (fun i v => i < n ∧ ∃ t, v = .int (0 + i * 1) t)
      (fun i h => IsRangeIter h s.heap.objs.size (0 + (i : Nat) * 1) ((n : Int) - (i : Nat)) 1) := (Walks.range hh _ 0 1 n).bound
  have hIL : L ≠ s.heap.objs.size := Nat.ne_of_lt F.ns.lt
  have hI0 : h₀.get? s.heap.objs.size = none := next_is_new F
  have hlt : ∀ k t, ∀ p ∈ BoxLed bx D ys nb nf c k t, p.1 < s.heap.objs.size := fun k t p hp => by
    rcases List.mem_cons.mp hp with rfl | hp
    · exact Heap.lt_size (N _ (.head _)).1
    · exact Heap.lt_size (N p (.tail _ hp)).1
  refine codeC_forLoop (fun j s' => ∃ (i : Nat) (h : Heap) (tk : Nat) (m' : Str → Option Value) (k : Int) (t : Tok), j = n - i ∧ i ≤ n ∧ s' = { s with heap := h, toks := tk } ∧ IsRangeIter h s.heap.objs.size (0 + (i : Nat) * 1) ((n : Int) - (i : Nat)) 1 ∧ Fr h₀ L h m' ∧ News h₀ L h (BoxLed bx D ys nb nf c k t)) ?_ n
    ⟨0, _, s.toks, m, k₀, tb, rfl, Nat.zero_le _, rfl, (by show IsRangeIter _ _ _ _ _; rw [hn]; simpa using Heap.get?_push_size _ rfl), F.push _, fun p hp => ⟨Heap.get?_push_of_some _ (N p hp).1, (N p hp).2⟩⟩
  rintro j s' ⟨i, h, tk, m', k, t, rfl, hi, rfl, hst, F₁, N₁⟩
  by_cases hin : i < n
  · refine W.item i _ _ _ hin hst fun v h₂ tk₂ hPv hst₂ hk₂ => ?_
    obtain ⟨_, t9, rfl⟩ := hPv
    have F₂ : Fr h₀ L h₂ m' := LCg.fr_but F₁ hk₂ hIL hI0
    have N₂ : News h₀ L h₂ (BoxLed bx D ys nb nf c k t) := LCg.news_but N₁ hk₂ fun p hp => Nat.ne_of_lt (hlt k t p hp)
    obtain ⟨oI, hst₂', hX⟩ : ∃ o, h₂.get? s.heap.objs.size = some o ∧ ∀ h' : Heap, h'.get? s.heap.objs.size = some o → IsRangeIter h' s.heap.objs.size (0 + ((i + 1 : Nat) : Int) * 1) ((n : Int) - ((i + 1 : Nat) : Int)) 1 := ⟨_, hst₂, fun _ e => e⟩
    refine wpAny_mono (turn s.heap.objs.size oI _ t9 h₂ tk₂ m' k t (hlt k t) F₂ (fun p hp => ?_)) (fun _ s₂ h3 => wpC_mono h3 (fun f s₃ h4 => ?_) fun _ _ e => e) fun _ _ e => e
    · rcases List.mem_cons.mp hp with rfl | hp
      · exact ⟨hst₂', Ne.symm hIL, hI0⟩
      · exact N₂ p hp
    · have go : (∃ h tk m k t, s₃ = { s with heap := h, toks := tk } ∧ Fr h₀ L h m ∧ News h₀ L h ((s.heap.objs.size, oI) :: BoxLed bx D ys nb nf c k t)) → (∃ m_1, m_1 < n - i ∧ ∃ (i : Nat) (h : Heap) (tk : Nat) (m' : Str → Option Value) (k : Int) (t : Tok), m_1 = n - i ∧ i ≤ n ∧ s₃ = { s with heap := h, toks := tk } ∧ IsRangeIter h s.heap.objs.size (0 + (i : Nat) * 1) ((n : Int) - (i : Nat)) 1 ∧ Fr h₀ L h m' ∧ News h₀ L h (BoxLed bx D ys nb nf c k t)) := fun ⟨h5, tk5, m5, k5, t5, e5, F5, N5⟩ =>
        ⟨n - (i + 1), by omega, i + 1, h5, tk5, m5, k5, t5, rfl, hin, e5, hX _ (N5 _ (.head _)).1, F5, fun p hp => N5 p (.tail _ hp)⟩
      cases f with
      | next => exact go h4
      | cont => exact go h4
      | brk => exact h4
      | ret v => exact h4
  · obtain rfl : i = n := by omega
    refine W.done _ _ _ hst fun h₂ tk₂ hk₂ => ?_
    exact done h₂ tk₂ m' k t (LCg.fr_but F₁ hk₂ hIL hI0) (LCg.news_but N₁ hk₂ fun p hp => Nat.ne_of_lt (hlt k t p hp))
end
end Mine
end

/-! R6 -/
section
open PySem PySem.W PyProof.Rows PySem.Calls
set_option linter.unusedVariables false
namespace Mine
theorem arr_news {h₀ h h' : Heap} {L : Addr} {m : Str → Option Value} {news : List (Addr × Obj)} {b : Array UInt8} (F : Fr h₀ L h m) (N : News h₀ L h news) (keep : ∀ b o, h.get? b = some o → h'.get? b = some o) (e : h'.get? h.objs.size = some (arrObj b)) :
    Fr h₀ L h' m ∧ ∃ d : Addr, d = h.objs.size ∧ News h₀ L h' ((d, arrObj b) :: news) ∧ ∀ p ∈ news, p.1 < d := by
  refine ⟨F.keeps keep, _, rfl, fun p hp => ?_, fun p hp => Heap.lt_size (N p hp).1⟩
  rcases List.mem_cons.mp hp with rfl | hp
  · exact ⟨e, Ne.symm (Nat.ne_of_lt F.ns.lt), next_is_new F⟩
  · exact ⟨keep _ _ (N p hp).1, (N p hp).2⟩
section
variable {prog : Program} {w : World} {A : Around} {E : Value → Shared → Prop} {s : Shared} {Q : Value → Shared → Prop} {h₀ : Heap} {L : Addr} {m : Str → Option Value} {news : List (Addr × Obj)} {value slice : Expr} {t : Tok}
theorem slice_bits {ds : List Nat} {n : Int} {uj : Tok} (hz : ds.length ≤ 1000) (h0 : 0 ≤ n) (hF : Fr h₀ L s.heap m) (hN : News h₀ L s.heap news) (h : ∀ h' t' k, Fr h₀ L h' m → News h₀ L h' news → Q (.str (strBits (ds.take n.toNat)) t') { s with heap := h', toks := k })
    (hs : subscripted slice false (.str (strBits ds) t) (.ref s.heap.objs.size) = operate [.ref s.heap.objs.size, .str (strBits ds) t] (getItem (.str (strBits ds) t) (.ref s.heap.objs.size)) := by with_unfolding_all rfl)
    (ht : ∀ r, letTemporaryGo value (.str (strBits ds) t) r = pure () := by intro _; with_unfolding_all rfl) :
    wpAny (model prog w) A (subscriptTail value slice (.str (strBits ds) t) (.ref s.heap.objs.size)) Q E { s with heap := s.heap.push { cls := .type "slice", data := .fields #[.none, .int n uj, .none] } } := by
  refine slice_strN_ns hF hN (fun h' t' k a b => ?_) hs ht (by rw [strBits_length, sizeLine_eq]; omega)
  rw [slice_upto h0]
  have e : (⟨((strBits ds).cps.toList.take n.toNat).toArray⟩ : Str) = strBits (ds.take n.toNat) := by simp [strBits, List.map_take]
  rw [e]
  exact h h' t' k a b
end
section
variable {w : World} {p : Program} {loose : List Str} {mean : ExcName → Option Value} {mg mb : Str → Option Value}
    {dp un : Nat} {gd : Option (List Code)} {cn : Str} {cs : Scope} {a : Addr} {ccd : Value} {cl : List (Str × Addr)} {outer : List Env} {A₀ : Around} {base h₀ : Heap} {L : Addr} {m : Str → Option Value} {s : Shared} {Q E : Value → Shared → Prop}
    {news : List (Addr × Obj)}
theorem pack_bl {l : List UInt8} {t u : Tok} {n : Int} (hz : l.length ≤ 300) (h0 : 0 ≤ n)
    (B : Below A₀ base outer h₀) (F : Fr h₀ L s.heap m) (X : (hd.heap_39 w.params).In h₀) (N : News h₀ L s.heap news) (T : Top p loose mean mg mb h₀) (hk : cs.kind = .function)
    (hd1 : dp + 6 < recursionLimit) (hu1 : un + 64 < cLine)
    (hret : ∀ t' h' tk', Fr h₀ L h' m → News h₀ L h' news → Q (.str (strBits ((bitsOf l).take n.toNat)) t') { s with heap := h', toks := tk' }) :
    wpAny (model PySem.Challenge.rw_eh5005_01.row.prog w) (ktrTop dp un gd cn cs L a ccd cl outer) (call (.ref 78) [.int n t, .bytes l.toArray u]) Q E s :=
  pack_b (b := l.toArray) hz h0 B F X N T hk hd1 hu1 hret
theorem pack_al {l : List UInt8} {d : Addr} {t : Tok} {n : Int} (hz : l.length ≤ 300) (h0 : 0 ≤ n) (hm : (d, arrObj l.toArray) ∈ news)
    (B : Below A₀ base outer h₀) (F : Fr h₀ L s.heap m) (X : (hd.heap_39 w.params).In h₀) (N : News h₀ L s.heap news) (T : Top p loose mean mg mb h₀) (hk : cs.kind = .function)
    (hd1 : dp + 6 < recursionLimit) (hu1 : un + 64 < cLine)
    (hret : ∀ t' h' tk', Fr h₀ L h' m → News h₀ L h' news → Q (.str (strBits ((bitsOf l).take n.toNat)) t') { s with heap := h', toks := tk' }) :
    wpAny (model PySem.Challenge.rw_eh5005_01.row.prog w) (ktrTop dp un gd cn cs L a ccd cl outer) (call (.ref 78) [.int n t, .ref d]) Q E s :=
  pack_a (b := l.toArray) hz h0 hm B F X N T hk hd1 hu1 hret
theorem unpack9 {t u : Tok}
    (B : Below A₀ base outer h₀) (F : Fr h₀ L s.heap m) (X : (hd.heap_39 w.params).In h₀) (N : News h₀ L s.heap news) (T : Top p loose mean mg mb h₀) (hk : cs.kind = .function)
    (hd1 : dp + 6 < recursionLimit) (hu1 : un + 64 < cLine)
    (hret : ∀ t' h' tk', Fr h₀ L h' m → News h₀ L h' news → Q (.bytes #[0, 128] t') { s with heap := h', toks := tk' }) :
    wpAny (model PySem.Challenge.rw_eh5005_01.row.prog w) (ktrTop dp un gd cn cs L a ccd cl outer) (call (.ref 85) [.int 9 t, .str (Str.ofString "000000001") u]) Q E s := by
  have e : Str.ofString "000000001" = strBits [0, 0, 0, 0, 0, 0, 0, 0, 1] := by decide +kernel
  have e2 : (packB [0, 0, 0, 0, 0, 0, 0, 0, 1]).toArray = #[0, 128] := by decide +kernel
  rw [e]
  refine unpack (by decide) (by decide) (by decide) (by decide) B F X N T hk hd1 hu1 fun t' h' tk' a b => ?_
  rw [e2]
  exact hret t' h' tk' a b
end
end Mine
namespace Mine
theorem len_bits {prog : Program} {w : World} {A : Around} {E : Value → Shared → Prop} {s : Shared} {Q : Value → Shared → Prop} {ds : List Nat} {t : Tok} (hz : ds.length ≤ 1000) (h : Q (.int (ds.length : Nat) (s.toks + 1)) { s with toks := s.toks + 1 + 1 }) : wpAny (model prog w) A (call (.builtin "len") [.str (strBits ds) t]) Q E s := by
  refine PyProof.Rows.len_str (by rw [strBits_length]; omega) ?_
  rw [strBits_length]
  exact h
end Mine
end

/-! L1 -/
section
open PySem PySem.W PyProof.Rows PySem.Calls
set_option linter.unusedVariables false
namespace Mine
inductive Stopper : Prop
  | mk
theorem boot_bytearray : bootBuiltins "bytearray" = some (.type "bytearray") := by decide +kernel
theorem bytes_list (ms : List Int) : ∃ l : List UInt8, byteArr ms = l.toArray ∧ l.length = ms.length := ⟨(byteArr ms).toList, by simp, by simp [byteArr]⟩
local macro_rules | `(tactic| walk_at "call ref") => `(tactic| (k_here; (with_reducible show wpAny _ _ (call (Value.ref 92) [Value.ref _, Value.int _ _]) _ _ _); k_dflt (refine' draw ?u1 ?u2 ?u3 ?u4 ?u5 ?u6 ?u7 ?k1 ?k2 ?k3 ?k4 ?k5 ?k6 ?k7 ?k8 ?_; (case k1 => k_asm); (case k2 => k_asm); (case k3 => k_asm); (case k4 => k_asm); (case k5 => k_asm); (case k6 => first | exact rfl | assumption); (case k7 => first | ktr_room | decide); (case k8 => first | ktr_units | decide); (case u1 => k_updF); (case u2 => k_mem); (case u3 => first | k_ne | exact Nat.ne_of_lt (by omega)); (case u4 => omega); (case u5 => assumption); (case u6 => assumption); (case u7 => assumption)); intro d9 t9 u9 h9 tk9 d91 d92 F9 N9; (try dsimp only at N9); (try dsimp only); (try k_fold)))
local macro_rules | `(tactic| walk_at "call ref") => `(tactic| (k_here; (with_reducible show wpAny _ _ (call (Value.ref 111) [Value.ref _]) _ _ _); k_dflt (refine' drawn ?u1 ?u2 ?u3 ?u5 ?u6 ?u7 ?k1 ?k2 ?k3 ?k4 ?k5 ?k6 ?k7 ?k8 ?_; (case k1 => k_asm); (case k2 => k_asm); (case k3 => k_asm); (case k4 => k_asm); (case k5 => k_asm); (case k6 => first | exact rfl | assumption); (case k7 => first | ktr_room | decide); (case k8 => first | ktr_units | decide); (case u1 => k_updF); (case u2 => k_mem); (case u3 => first | k_ne | exact Nat.ne_of_lt (by omega)); (case u5 => assumption); (case u6 => assumption); (case u7 => assumption)); intro ds9 k9 t9 u9 h9 tk9 d91 d92 F9 N9; (try dsimp only at N9); (try dsimp only); (try k_fold)))
local macro_rules | `(tactic| walk_at "call ref") => `(tactic| (k_here; (with_reducible show wpAny _ _ (call (Value.ref 99) [Value.bytes _ _]) _ _ _); k_dflt (refine' letters ?u1 ?k1 ?k2 ?k3 ?k4 ?k5 ?k6 ?k7 ?k8 ?_; (case k1 => k_asm); (case k2 => k_asm); (case k3 => k_asm); (case k4 => k_asm); (case k5 => k_asm); (case k6 => first | exact rfl | assumption); (case k7 => first | ktr_room | decide); (case k8 => first | ktr_units | decide); (case u1 => omega)); intro t9 h9 tk9 F9 N9; (try dsimp only); (try k_fold)))
local macro_rules | `(tactic| walk_at "call ref") => `(tactic| (k_here; (with_reducible show wpAny _ _ (call (Value.ref 106) [Value.str (strBits _) _]) _ _ _); k_dflt (refine' octets ?u1 ?u2 ?k1 ?k2 ?k3 ?k4 ?k5 ?k6 ?k7 ?k8 ?_; (case k1 => k_asm); (case k2 => k_asm); (case k3 => k_asm); (case k4 => k_asm); (case k5 => k_asm); (case k6 => first | exact rfl | assumption); (case k7 => first | ktr_room | decide); (case k8 => first | ktr_units | decide); (case u1 => assumption); (case u2 => assumption)); intro t9 h9 tk9 F9 N9; (try dsimp only); (try k_fold)))
local macro_rules | `(tactic| walk_at "call ref") => `(tactic| (k_here; (with_reducible show wpAny _ _ (call (Value.ref 78) [Value.int _ _, Value.bytes _ _]) _ _ _); k_dflt (refine' pack_bl ?u1 ?u2 ?k1 ?k2 ?k3 ?k4 ?k5 ?k6 ?k7 ?k8 ?_; (case k1 => k_asm); (case k2 => k_asm); (case k3 => k_asm); (case k4 => k_asm); (case k5 => k_asm); (case k6 => first | exact rfl | assumption); (case k7 => first | ktr_room | decide); (case k8 => first | ktr_units | decide); (case u1 => first | omega | (rw [packB_length]; omega)); (case u2 => omega)); intro t9 h9 tk9 F9 N9; (try dsimp only); (try k_fold)))
local macro_rules | `(tactic| walk_at "call ref") => `(tactic| (k_here; (with_reducible show wpAny _ _ (call (Value.ref 78) [Value.int _ _, Value.ref _]) _ _ _); k_dflt (refine' pack_al ?u1 ?u2 ?u3 ?k1 ?k2 ?k3 ?k4 ?k5 ?k6 ?k7 ?k8 ?_; (case k1 => k_asm); (case k2 => k_asm); (case k3 => k_asm); (case k4 => k_asm); (case k5 => k_asm); (case k6 => first | exact rfl | assumption); (case k7 => first | ktr_room | decide); (case k8 => first | ktr_units | decide); (case u3 => k_mem); (case u1 => omega); (case u2 => omega)); intro t9 h9 tk9 F9 N9; (try dsimp only); (try k_fold)))
local macro_rules | `(tactic| walk_at "call ref") => `(tactic| (k_here; (with_reducible show wpAny _ _ (call (Value.ref 85) [Value.int _ _, Value.str (strBits _) _]) _ _ _); k_dflt (refine' unpack ?u1 ?u2 ?u3 ?u4 ?k1 ?k2 ?k3 ?k4 ?k5 ?k6 ?k7 ?k8 ?_; (case k1 => k_asm); (case k2 => k_asm); (case k3 => k_asm); (case k4 => k_asm); (case k5 => k_asm); (case k6 => first | exact rfl | assumption); (case k7 => first | ktr_room | decide); (case k8 => first | ktr_units | decide); (case u1 => first | omega | (rw [bitsOf_length]; omega)); (case u2 => first | assumption | exact bitsOf_lt _); (case u3 => (simp only [strBits_length, List.size_toArray, bitsOf_length, Int.fmod_eq_emod_of_nonneg _ (show (0 : Int) ≤ 8 by decide)]; omega)); (case u4 => omega)); intro t9 h9 tk9 F9 N9; (try dsimp only); (try k_fold)))
local macro_rules | `(tactic| walk_at "call type:bytes") => `(tactic| (k_here; (with_reducible show wpAny _ _ (call (Value.type "bytes") [Value.bytes _ _]) _ _ _); refine call_bytes_bytes ?_))
local macro_rules | `(tactic| walk_at "call type:bytes") => `(tactic| (k_here; (with_reducible show wpAny _ _ (call (Value.type "bytes") [Value.ref _]) _ _ _); k_dflt (refine' call_bytes_array (b := List.toArray _) (n := 0) ?g ?z ?_; (case g => exact News.get (by k_asm) (by k_mem)); (case z => (rw [sizeLine_eq, List.size_toArray]; omega))); intro _ _))
local macro_rules | `(tactic| walk_at "subscriptTail") => `(tactic| (k_here; (with_reducible show wpAny _ _ (subscriptTail _ _ (Value.str (strBits _) _) (Value.ref _)) _ _ _); refine slice_bits (by first | omega | (rw [bitsOf_length]; omega)) (by omega) (by k_asm) (by k_asm) ?_; intro _ _ _ _ _))
local macro_rules | `(tactic| walk_at "call builtin:len") => `(tactic| (k_here; (with_reducible show wpAny _ _ (call (Value.builtin "len") [Value.str (strBits _) _]) _ _ _); refine len_bits (by omega) ?_))
local macro_rules | `(tactic| walk_at "call ref") => `(tactic| (k_here; (with_reducible show wpAny _ _ (call (Value.ref 85) [Value.int 9 _, Value.str (Str.ofString "000000001") _]) _ _ _); k_dflt (refine' unpack9 ?k1 ?k2 ?k3 ?k4 ?k5 ?k6 ?k7 ?k8 ?_; (case k1 => k_asm); (case k2 => k_asm); (case k3 => k_asm); (case k4 => k_asm); (case k5 => k_asm); (case k6 => first | exact rfl | assumption); (case k7 => first | ktr_room | decide); (case k8 => first | ktr_units | decide)); intro t9 h9 tk9 F9 N9; (try dsimp only); (try k_fold)))
local macro_rules | `(tactic| walk_at "CompEnd") => `(tactic| (k_here; (with_reducible rename Stopper => hstp9); refine halt ?_))
local macro_rules | `(tactic| walk_at "CompSrc") => `(tactic| (k_here; (with_reducible rename Stopper => hstp9); refine halt ?_))
set_option maxRecDepth 100000
set_option maxHeartbeats 8000000
theorem law_holds : PySem.Challenge.rw_eh5005_01.Holds := by
  refine hd ?_
  k_fill
  intro w s₀ s₁ mg mb G Y fa o pm cd doc dV kV ho hdd hcd hD hmg hg args vals as hpre hlay hrd hwl hlo
  have KX := kIn_of Y
  have X := (Ground.X G).1
  have V := (Ground.X G).2
  try w_nolog (first | (have GL := glob_more (Ground.glob G (by first | k_qdec | decide +kernel) (by first | k_qdec | decide +kernel)) V) | (have GL := glob_more (Ground.glob G (by decide +kernel)) V))
  refine Ground.open G ?_
  intro T B D TE TW
  try (refine guard_noD D (by decide +kernel) ?_; clear D)
  obtain ⟨_, _, M⟩ := bmod_of_top T
  have TA := at_of_top T
  try (obtain ⟨_, _, he, B0⟩ := based_of_top T rfl hmg ho hdd; have he' : cd = _ := he; subst he'; clear he)
  clear hmg
  wrow_args hpre hlay hrd hwl hlo
  refine ⟨?_, ?_⟩
  rotate_left
  · refine GoodW.toG ⟨.inl ⟨_, .bool true, [], rfl, ?hn, ReadsW.bool true, ?hp, unshared_nil⟩, fun _ _ e => e, rfl, hg⟩
    case hn => first | exact raisesW_false (by wrow_none_raised) | (intro cls; rfl)
    case hp => first | exact postW_of (by wrow_shape) (by wtm_val) (by str_meet; first | done | w_fin) | rfl
  refine enter_callC ?_
  w_top on
  refine codeC_mono ?_ (fun _ _ g => GoodW.toG g)
  have K0 := below_caller (Top.heap T)
  have he := Dflts.none hD rfl; subst he; have he := Dflts.noKw hD; subst he
  refine call_cellsC (by decide) ho (fd_plain hdd) (Top.nolimit T) hcd rfl (kinds_of (by kinds_ok)) (by decide) fun h₁ tk₁ cells F N0 X0 => ?_
  cells_open X0
  clear hdd TA
  clear hD
  k_drop
  (try k_fold)
  refine step_few F N0 ?few ?rest
  case few =>
    k_steps
    · rename Fr _ _ _ _ => fE
      rename News _ _ _ _ => nE
      refine fewPost (by assumption) (by assumption) (by simp only [List.length_map, List.length_take]; omega) ?_ fE (few_drop nE (by k_mem))
      k_ne
    · rename Fr _ _ _ _ => fE
      rename News _ _ _ _ => nE
      refine fewPost (one_int 11 _) (by decide) (by decide) ?_ fE (few_drop nE (by k_mem))
      k_ne
  case rest =>
    intro h2 tk2 D ys ns nf hI hl0 hl1 hcD F2 N2
    clear F N0
    dsimp only at hcD
    (try k_fold)
    refine wpC_execs_step ?_
    k_steps
    rename Fr _ _ _ _ => F3
    rename News _ _ _ _ => N3
    rename Obj.data _ = Data.cell _ => hcell
    simp only [List.cons_append, List.nil_append] at N3
    obtain ⟨bx, hbx⟩ := name_led N3
    subst hbx

    refine wpC_execs_cons (wpC_mono (wpC_For ?_) (fun _ _ h => h) fun _ _ e => e.elim)
    k_steps
    rename IsRange _ _ _ _ _ _ _ _ => hR
    rename Fr _ _ _ _ => F4
    rename News _ _ _ _ => N4
    rename D < bx ∧ _ => hbx
    have hq0 : 0 ≤ ((ns.length : Nat) : Int).fdiv 4 := by rw [Int.fdiv_eq_ediv_of_nonneg _ (by decide)]; omega
    have hb0 : ∀ q : Int, 0 ≤ q → 0 ≤ (if 2 + q < 6 then 2 + q else 6) ∧ (if 2 + q < 6 then 2 + q else 6) ≤ 6 := by intro q hq; split <;> omega
    have hb1 := hb0 _ hq0
    refine loop_box (by rfl) hR (small_one (by omega) (by omega) (by omega) (by omega)) (rangeSize_nat _ _) F4 N4 ?turn ?done
    case done =>
      intro h tk m' k t F5 N5
      clear hR hb0 hb1
      (try dsimp only)
      refine wpC_execs_step ?_
      k_steps
    case turn =>
      intro It oI i t9 h tk m' k t hlt9 F5 N5
      simp only [BoxLed] at N5 hlt9
      have hstop : Stopper := .mk
      have r1 : @Ne Nat D bx := Nat.ne_of_lt hbx.1
      have r2 : @Ne Nat (s₁.heap.objs.size + 1) bx := Nat.ne_of_lt hbx.2
      have r3 : @LT.lt Nat _ D bx := hbx.1
      have r4 : @LT.lt Nat _ (s₁.heap.objs.size + 1) bx := hbx.2
      have q1 : @LT.lt Nat _ bx It := hlt9 _ (.head _)
      have q2 : @LT.lt Nat _ D It := hlt9 _ (.tail _ (.head _))
      have q3 : @LT.lt Nat _ (s₁.heap.objs.size + 1) It := hlt9 _ (.tail _ (.tail _ (.head _)))
      clear hlt9 hR hb0 hb1
      (try k_fold)
      k_steps
      refine wpC_execs_step ?_
      k_steps
      rename IsRange _ _ _ _ _ _ _ _ => hR
      rename Fr _ _ _ _ => hF
      rename News _ _ _ _ => hN
      refine (id : LCg.CompSrc _ _ _ _ _ _ _ _ _ _ _ _ _ _ → Halt _) ?_
      refine LCg.CompSrc.range (by rfl) hF hN hR (small_one (by omega) (by omega) (by omega) (by omega)) (rangeSize_nat _ _) (by rw [sizeLine_eq]; omega) fun g => ?_
      refine rest_ind (fun i vs nw => (∃ kk tt, nw = (It, oI) :: (bx, listOf #[.ref D, .int kk tt] _) :: (D, listOf ys.toArray nf) :: _ :: []) ∧ ∃ ms, IntsAre vs ms ∧ ms.length = i ∧ ∀ x ∈ ms, 0 ≤ x ∧ x < 256) _ ?step ?fin _ 0 [] _ (Nat.zero_add _) ⟨⟨_, _, rfl⟩, [], .nil, rfl, (fun d hd => nomatch hd)⟩
      case step =>
        intro i vs nw v Ia oI C oC D m₂ h tk E' hi hinv hP hC hx F2 N2 off ne
        obtain ⟨⟨kk, tt, hnw⟩, ms, hms, hml, hmb⟩ := hinv
        subst hnw
        simp only [LCg.Off3, and_true] at off
        obtain ⟨t9, hv⟩ := hP
        subst hv
        clear hF hN hR
        (try dsimp only)
        (try k_fold)
        k_steps
        rename Fr _ _ _ _ => hF
        rename News _ _ _ _ => hN
        refine (id : LCg.CompEnd _ _ _ _ _ _ _ _ _ _ _ _ _ _ → Halt _) ?_
        exact LCg.CompEnd.intro hF hN _ (fun p hp => hp) (by simp only [LCg.Off3, and_true]; exact off) trivial ⟨⟨_, _, rfl⟩, ms ++ [_], ints_snoc hms, by rw [List.length_append, hml]; rfl, fun x hx => by rcases List.mem_append.mp hx with hx | hx; exact hmb x hx; rw [List.mem_singleton.mp hx]; omega⟩
      case fin =>
        intro vs nw hinv
        obtain ⟨⟨kk, tt, hnw⟩, ms, hms, hml, hmb⟩ := hinv
        subst hnw
        clear hF hN hR
        (try dsimp only)
        (try k_fold)
        k_steps
        rename Fr _ _ _ _ => Fo
        rename News _ _ _ _ => No
        obtain ⟨l, hl, hll⟩ : ∃ l : List UInt8, byteArr ms = l.toArray ∧ l.length = ms.length := bytes_list ms
        rw [hl] at Fo
        have hl12 : l.length ≤ 12 := by omega
        refine wpC_execs_step ?_
        k_steps
        refine wpC_execs_step ?_
        k_steps
        refine wpC_execs_cons (wpC_If ?_)
        k_steps
        rotate_left
        · refine wpC_execs_nil ?_
          (try dsimp only)
          refine wpC_execs_step ?_
          k_steps
          refine wpC_execs_step ?_
          k_steps
          refine wpC_execs_step ?_
          k_steps
          refine wpC_execs_step ?_
          k_steps
          all_goals try (exfalso; rename (_ != _) = true => hbad; first | (rw [Int.toNat_natCast, bits_pack_take (by assumption)] at hbad; simp at hbad; done) | (rw [pack_bits] at hbad; simp at hbad; done) | (simp at hbad; done))
          refine wpC_execs_step ?_
          k_steps
          all_goals try (exfalso; rename (_ != _) = true => hbad; first | (rw [Int.toNat_natCast, bits_pack_take (by assumption)] at hbad; simp at hbad; done) | (rw [pack_bits] at hbad; simp at hbad; done) | (simp at hbad; done))
          refine wpC_execs_step ?_
          k_steps
          all_goals try (exfalso; rename (_ != _) = true => hbad; first | (rw [Int.toNat_natCast, bits_pack_take (by assumption)] at hbad; simp at hbad; done) | (rw [pack_bits] at hbad; simp at hbad; done) | (simp at hbad; done))
          refine wpC_execs_step ?_
          k_steps
          all_goals try (exfalso; rename (_ != _) = true => hbad; first | (rw [Int.toNat_natCast, bits_pack_take (by assumption)] at hbad; simp at hbad; done) | (rw [pack_bits] at hbad; simp at hbad; done) | (simp at hbad; done))
          refine wpC_execs_step ?_
          k_steps
          all_goals try (exfalso; rename (_ != _) = true => hbad; first | (rw [Int.toNat_natCast, bits_pack_take (by assumption)] at hbad; simp at hbad; done) | (rw [pack_bits] at hbad; simp at hbad; done) | (simp at hbad; done))
          refine wpC_execs_step ?_
          k_steps
          all_goals try (exfalso; rename (_ != _) = true => hbad; first | (rw [Int.toNat_natCast, bits_pack_take (by assumption)] at hbad; simp at hbad; done) | (rw [pack_bits] at hbad; simp at hbad; done) | (simp at hbad; done))
          refine wpC_execs_nil ?_
          rename Fr _ _ _ _ => fE
          rename News _ _ _ _ => nE
          exact ⟨_, _, _, _, _, rfl, fE, fun p hp => nE p (by first | exact .tail _ hp | exact .tail _ (.tail _ hp))⟩
        · refine wpC_execs_cons (wpC_Assign_Name (by with_unfolding_all rfl) ?_)
          refine wpC_callType1 (T := "bytearray") ?_
          k_dflt refine' nameX_B ?nF ?nX ?nT ?ne ?nv ?nn ?_ ?na ?nb
          case nF => k_asm
          case na => rfl
          case nb => rfl
          case nX => k_asm
          case nT => k_asm
          case ne => k_dflt k_is
          case nv => exact boot_bytearray
          case nn => decide
          refine ⟨rfl, ?_⟩
          k_steps
          rename Fr _ _ _ _ => Fb
          rename News _ _ _ _ => Nb
          refine call_bytearray (by rfl) (by rw [sizeLine_eq, List.size_toArray]; omega) fun hA keep hnew => ?_
          obtain ⟨FA, d, hdd, NA, ltA⟩ := arr_news Fb Nb keep hnew
          have r5 : @LT.lt Nat _ bx d := ltA _ (.tail _ (.tail _ (.head _)))
          clear Fb Nb keep hnew ltA
          (try dsimp only)
          rw [← hdd]
          clear hdd
          k_steps
          refine wpC_execs_nil ?_
          (try dsimp only)
          refine wpC_execs_step ?_
          k_steps
          refine wpC_execs_step ?_
          k_steps
          refine wpC_execs_step ?_
          k_steps
          refine wpC_execs_step ?_
          k_steps
          all_goals try (exfalso; rename (_ != _) = true => hbad; first | (rw [Int.toNat_natCast, bits_pack_take (by assumption)] at hbad; simp at hbad; done) | (rw [pack_bits] at hbad; simp at hbad; done) | (simp at hbad; done))
          refine wpC_execs_step ?_
          k_steps
          all_goals try (exfalso; rename (_ != _) = true => hbad; first | (rw [Int.toNat_natCast, bits_pack_take (by assumption)] at hbad; simp at hbad; done) | (rw [pack_bits] at hbad; simp at hbad; done) | (simp at hbad; done))
          refine wpC_execs_step ?_
          k_steps
          all_goals try (exfalso; rename (_ != _) = true => hbad; first | (rw [Int.toNat_natCast, bits_pack_take (by assumption)] at hbad; simp at hbad; done) | (rw [pack_bits] at hbad; simp at hbad; done) | (simp at hbad; done))
          refine wpC_execs_step ?_
          k_steps
          all_goals try (exfalso; rename (_ != _) = true => hbad; first | (rw [Int.toNat_natCast, bits_pack_take (by assumption)] at hbad; simp at hbad; done) | (rw [pack_bits] at hbad; simp at hbad; done) | (simp at hbad; done))
          refine wpC_execs_step ?_
          k_steps
          all_goals try (exfalso; rename (_ != _) = true => hbad; first | (rw [Int.toNat_natCast, bits_pack_take (by assumption)] at hbad; simp at hbad; done) | (rw [pack_bits] at hbad; simp at hbad; done) | (simp at hbad; done))
          refine wpC_execs_step ?_
          k_steps
          all_goals try (exfalso; rename (_ != _) = true => hbad; first | (rw [Int.toNat_natCast, bits_pack_take (by assumption)] at hbad; simp at hbad; done) | (rw [pack_bits] at hbad; simp at hbad; done) | (simp at hbad; done))
          refine wpC_execs_nil ?_
          rename Fr _ _ _ _ => fE
          rename News _ _ _ _ => nE
          exact ⟨_, _, _, _, _, rfl, fE, fun p hp => nE p (by first | exact .tail _ hp | exact .tail _ (.tail _ hp))⟩
end Mine
end

theorem PySem.Challenge.cw_eh5005_01_holds : PySem.Challenge.rw_eh5005_01.Holds := by
  exact Mine.law_holds
