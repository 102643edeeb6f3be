import PyProof.Rows.All
import Wide.All
import OpenK.AllK
import Wide.FinOn
import PySem.Challenge.RW_dz0133_01
open PySem PySem.W PySem.Calls PyProof.Rows
set_option Elab.async false
set_option maxRecDepth 100000

/- part C0 -/
namespace Mine
open PySem.Sem (wp)

/-- no decoder that holds its first argument -/
def CodeOk (c : Code) : Prop := ∀ id args, c = .builtin id args → Builtin.Bytes.decodersThatHold.contains id = false
def Clean (Γ : Ctx) : Prop := CodeOk Γ.code ∧ ∀ x ∈ Γ.below, CodeOk x.1
def CleanB (Γ : Ctx) : Prop := ∀ x ∈ Γ.below, CodeOk x.1

def wpC {α : Type} (M : Model) (A : Around) (t : Sem α) (Q : α → Shared → Prop) (E : Value → Shared → Prop) (s : Shared) : Prop :=
  ∀ Γ p, Γ.In A → Clean Γ → wp M Γ t (fun a _ s' => Q a s') (fun e _ s' => E e s') p s
def codeC (M : Model) (A : Around) (c : Code) (R : Result → Shared → Prop) (s : Shared) : Prop :=
  ∀ Γ p, Γ.code = c → Γ.Below A → CleanB Γ → wpCode M Γ R p s

theorem ok_call (f : Value) (a : Args) : CodeOk (.call f a) := fun _ _ e => by cases e
theorem ok_func (b : List Stmt) (env : Env) : CodeOk (.func b env) := fun _ _ e => by cases e
theorem ok_block (b : List Stmt) (env : Env) : CodeOk (.block b env) := fun _ _ e => by cases e
theorem ok_builtin {id : String} {a : Args} (h : Builtin.Bytes.decodersThatHold.contains id = false) : CodeOk (.builtin id a) := fun _ _ e => by cases e; exact h

section
variable {α β : Type} {M : Model} {A : Around} {E : Value → Shared → Prop} {s : Shared}
theorem wpC_of {t : Sem α} {Q : α → Shared → Prop} (h : wpAny M A t Q E s) : wpC M A t Q E s := fun Γ p hΓ _ => h Γ p hΓ
theorem codeC_of {c : Code} {R : Result → Shared → Prop} (h : codeAny M A c R s) : codeC M A c R s := fun Γ p hc hΓ _ => h Γ p hc hΓ
theorem wpC_mono {t : Sem α} {Q Q' : α → Shared → Prop} {E' : Value → Shared → Prop} (h : wpC M A t Q E s)
    (hQ : ∀ a s, Q a s → Q' a s) (hE : ∀ e s, E e s → E' e s) : wpC M A t Q' E' s :=
  fun Γ p hΓ hC => Sem.wp_mono M Γ t (fun a _ s => hQ a s) (fun e _ s => hE e s) p s (h Γ p hΓ hC)
theorem wpC_pure {a : α} {Q : α → Shared → Prop} (h : Q a s) : wpC M A (pure a) Q E s := fun _ _ _ _ => h
theorem wpC_bind {m : Sem α} {f : α → Sem β} {Q : β → Shared → Prop} (h : wpC M A m (fun a s' => wpC M A (f a) Q E s') E s) :
    wpC M A (m >>= f) Q E s := fun Γ p hΓ hC => by
  rw [Sem.wp_bind']
  exact Sem.wp_mono M Γ m (fun a p' s' h' => h' Γ p' hΓ hC) (fun _ _ _ h' => h') p s (h Γ p hΓ hC)
theorem wpC_bindA {m : Sem α} {f : α → Sem β} {Q : β → Shared → Prop} (h : wpAny M A m (fun a s' => wpC M A (f a) Q E s') E s) :
    wpC M A (m >>= f) Q E s := wpC_bind (wpC_of h)
theorem wpC_onRaise {m : Sem α} {k : Value → Sem Unit} {Q : α → Shared → Prop}
    (h : wpC M A m Q (fun e s' => wpAny M A (k e) (fun _ s'' => E e s'') E s') s) : wpC M A (m.onRaise k) Q E s := fun Γ p hΓ hC => by
  rw [Sem.wp_onRaise]
  exact Sem.wp_mono M Γ m (fun _ _ _ h' => h') (fun e p' s' h' => h' Γ p' hΓ) p s (h Γ p hΓ hC)
theorem wpC_tryCatch {m : Sem α} {k : Value → Sem α} {Q : α → Shared → Prop} (h : wpC M A m Q (fun e s' => wpC M A (k e) Q E s') s) :
    wpC M A (tryCatch m k) Q E s := fun Γ p hΓ hC => by
  rw [Sem.wp_tryCatch']
  exact Sem.wp_mono M Γ m (fun _ _ _ h' => h') (fun e p' s' h' => h' Γ p' hΓ hC) p s (h Γ p hΓ hC)
theorem wpC_attempt {m : Sem α} {Q : Except Value α → Shared → Prop} (h : wpC M A m (fun a => Q (.ok a)) (fun e => Q (.error e)) s) :
    wpC M A m.attempt Q E s := fun Γ p hΓ hC => by rw [Sem.wp_attempt]; exact h Γ p hΓ hC
theorem wpC_holding {vs : List Value} {m : Sem α} {Q : α → Shared → Prop} (h : wpC M A m Q E s) : wpC M A (holding vs m) Q E s :=
  fun Γ p hΓ hC => by rw [Sem.wp_holding]; exact h Γ p hΓ hC
theorem wpC_standAt {pos : Pos} {f : Unit → Sem α} {Q : α → Shared → Prop} (h : wpC M A (f ()) Q E s) : wpC M A (standAt pos >>= f) Q E s :=
  wpC_bindA (wpAny_standAt h)
theorem wpC_ofEq {t t' : Sem α} {Q : α → Shared → Prop} (e : t = t') (h : wpC M A t' Q E s) : wpC M A t Q E s := e ▸ h

theorem clean_enter {Γ : Ctx} {c : Code} {h : Option Value} {p : Pos} (hC : Clean Γ) : CleanB (Γ.enter c h p) := by
  intro x hx
  have hx' : x ∈ (Γ.code, p) :: Γ.below := hx
  rcases List.mem_cons.mp hx' with rfl | hx'
  · exact hC.1
  · exact hC.2 x hx'
theorem wpC_run {c : Code} {h : Option Value} {Q : Flow → Shared → Prop}
    (hc : codeC M (A.mark h) c (fun r s' => match r with | .ok f => Q f s' | .error e => E e s') s) (hnb : h ≠ some byPass := by intro x; cases x) :
    wpC M A (run c h) Q E s :=
  fun Γ p hΓ hC => by rw [Sem.wp_run]; exact hc _ p rfl (hΓ.enter c h p hnb) (clean_enter hC)
theorem wpC_runValue {c : Code} {Q : Value → Shared → Prop}
    (hc : codeC M A c (fun r s' => match r with | .ok (.ret v) => Q v s' | .ok _ => False | .error e => E e s') s) :
    wpC M A (runValue c) Q E s := fun Γ p hΓ hC => by rw [Sem.wp_runValue]; exact hc _ p rfl (hΓ.enter c none p (by intro x; cases x)) (clean_enter hC)
theorem wpC_call {f : Value} {pos : List Value} {kw : List (Str × Value)} {Q : Value → Shared → Prop}
    (hc : codeC M A (.call f ⟨pos, kw⟩) (fun r s' => match r with | .ok (.ret v) => Q v s' | .ok _ => False | .error e => E e s') s) :
    wpC M A (call f pos kw) Q E s := wpC_runValue hc
theorem codeC_mono {c : Code} {R R' : Result → Shared → Prop} (h : codeC M A c R s) (hR : ∀ r s, R r s → R' r s) : codeC M A c R' s :=
  fun Γ p hc hΓ hC => wpCode_mono hR (h Γ p hc hΓ hC)
theorem codeC_tree {c : Code} {R : Result → Shared → Prop} (hk : CodeOk c)
    (h : wpC M (A.under c) (M.den c) (fun fin s' => match fin with | .done f => R (.ok f) s' | .again c' => c'.quiet = true ∧ codeC M A c' R s')
      (fun e s' => R (.error e) s') s) : codeC M A c R s := fun Γ p hc hΓ hC => by
  rw [wpCode_iff_wp, hc]
  refine Sem.wp_mono M Γ _ (fun fin p' s' h' => ?_) (fun _ _ _ h' => h') p s (h Γ p (hc ▸ hΓ.in) ⟨hc ▸ hk, hC⟩)
  cases fin with
  | done f => exact h'
  | again c' => exact ⟨h'.1, h'.2 (Γ.goto c') p' rfl (hΓ.goto c') hC⟩
end
end Mine

/- part Ba -/
namespace Mine
open PySem.Sem (wp)
namespace B
theorem mro : mroOf (.type "bytearray") = pure [.type "bytearray", .type "object"] := by rw [mroOf_type]; kernel_rfl
theorem lookup_new : typeLookup (.type "bytearray") "__new__" = pure (some (.builtin "bytearray.__new__")) := by rw [typeLookup_type, builtinLookup_eq_fast]; kernel_rfl
theorem slot_init : Slot "bytearray" "__init__" "bytearray.__init__" :=
  .of (owner := "bytearray") (n := "__init__") (by rw [typeLookup_type, builtinLookup_eq_fast]; kernel_rfl) (by decide +kernel) (by decide +kernel) (by decide +kernel)
    (by first | exact .inl (by decide +kernel) | exact .inr (by decide +kernel)) (by rw [isSubtype_type]; kernel_rfl)
theorem called : TypeCalled "bytearray" "bytearray.__new__" "bytearray.__init__" :=
  ⟨by decide +kernel, by decide +kernel, ⟨_, _, mro⟩, madeBy_type mro lookup_new (by decide +kernel), by decide +kernel, by rw [isSubtype_type]; kernel_rfl, slot_init⟩
theorem typeCall (a : Value) : checkTypeCall "bytearray" ⟨[a], []⟩ = pure () := by kernel_rfl
theorem newCall (a : Value) : checkBuiltinCall "bytearray.__new__" ⟨[.type "bytearray", a], []⟩ = pure () := by kernel_rfl
theorem plain_new : plainId "bytearray.__new__" = true := by decide +kernel
theorem plain_init : plainId "bytearray.__init__" = true := by decide +kernel
theorem entry_new : entryFor table "bytearray.__new__" = some Builtin.«list.__new__» := by
  exact entryFor_alias (id' := "list.__new__") (by kernel_rfl) rfl (by decide +kernel) (by kernel_rfl)
theorem entry_init : entryFor table "bytearray.__init__" = some Builtin.«bytearray.__init__» := by first | exact entryFor_of_fast (by kernel_rfl) | exact entryFor_of_tree (by kernel_rfl)
set_option maxRecDepth 1000000 in
set_option maxHeartbeats 4000000 in
theorem owner_new : ("bytearray.__new__".splitOn ".__new__").headD "" = "bytearray" := by simp +decide [String.splitOn, String.splitOnAux]
theorem sub_self : isSubtype (.type "bytearray") (.type "bytearray") = pure true := by rw [isSubtype_type]; kernel_rfl
theorem args_init (a b : Value) : argsOk "bytearray.__init__" ⟨[a, b], []⟩ := by unfold argsOk; kernel_rfl
theorem look_buffer : typeLookup (.type "bytearray") "__buffer__" = pure (some (.builtin "bytearray.__buffer__")) := by rw [typeLookup_type, builtinLookup_eq_fast]; kernel_rfl
theorem look_release : typeLookup (.type "bytearray") "__release_buffer__" = pure (some (.builtin "bytearray.__release_buffer__")) := by rw [typeLookup_type, builtinLookup_eq_fast]; kernel_rfl
theorem without_bytes : typeLookup (.type "bytearray") "__bytes__" = pure none := by rw [typeLookup_type, builtinLookup_eq_fast]; kernel_rfl
theorem without_index : typeLookup (.type "bytearray") "__index__" = pure none := by rw [typeLookup_type, builtinLookup_eq_fast]; kernel_rfl
theorem slot_len : Slot "bytearray" "__len__" "bytearray.__len__" :=
  .of (owner := "bytearray") (n := "__len__") (by rw [typeLookup_type, builtinLookup_eq_fast]; kernel_rfl) (by decide +kernel) (by decide +kernel) (by decide +kernel)
    (by first | exact .inl (by decide +kernel) | exact .inr (by decide +kernel)) (by rw [isSubtype_type]; kernel_rfl)
theorem slot_getitem : Slot "bytearray" "__getitem__" "bytearray.__getitem__" :=
  .of (owner := "bytearray") (n := "__getitem__") (by rw [typeLookup_type, builtinLookup_eq_fast]; kernel_rfl) (by decide +kernel) (by decide +kernel) (by decide +kernel)
    (by first | exact .inl (by decide +kernel) | exact .inr (by decide +kernel)) (by rw [isSubtype_type]; kernel_rfl)
theorem slot_setitem : Slot "bytearray" "__setitem__" "bytearray.__setitem__" :=
  .of (owner := "bytearray") (n := "__setitem__") (by rw [typeLookup_type, builtinLookup_eq_fast]; kernel_rfl) (by decide +kernel) (by decide +kernel) (by decide +kernel)
    (by first | exact .inl (by decide +kernel) | exact .inr (by decide +kernel)) (by rw [isSubtype_type]; kernel_rfl)
theorem entry_len : entryFor table "bytearray.__len__" = some Builtin.«bytearray.__len__» := by first | exact entryFor_of_fast (by kernel_rfl) | exact entryFor_of_tree (by kernel_rfl)
theorem entry_getitem : entryFor table "bytearray.__getitem__" = some Builtin.«bytearray.__getitem__» := by first | exact entryFor_of_fast (by kernel_rfl) | exact entryFor_of_tree (by kernel_rfl)
theorem entry_setitem : entryFor table "bytearray.__setitem__" = some Builtin.«bytearray.__setitem__» := by first | exact entryFor_of_fast (by kernel_rfl) | exact entryFor_of_tree (by kernel_rfl)
theorem args_len (a : Value) : argsOk "bytearray.__len__" ⟨[a], []⟩ := by unfold argsOk; kernel_rfl
theorem args_getitem (a b : Value) : argsOk "bytearray.__getitem__" ⟨[a, b], []⟩ := by unfold argsOk; kernel_rfl
theorem args_setitem (a b c : Value) : argsOk "bytearray.__setitem__" ⟨[a, b, c], []⟩ := by unfold argsOk; kernel_rfl
theorem ok_type : Builtin.Bytes.decodersThatHold.contains "type.__call__" = false := by decide +kernel
theorem ok_new : Builtin.Bytes.decodersThatHold.contains "bytearray.__new__" = false := by decide +kernel
theorem ok_init : Builtin.Bytes.decodersThatHold.contains "bytearray.__init__" = false := by decide +kernel
end B

abbrev baObj (b : Array UInt8) : Obj := { cls := .type "bytearray", data := .bytearray b }
section
variable {prog : Program} {w : World} {A : Around} {E : Value → Shared → Prop} {s : Shared}
theorem codeC_builtin {id : String} {args : Args} {b : Builtin} {R : Result → Shared → Prop} (hb : entryFor table id = some b) (hk : Builtin.Bytes.decodersThatHold.contains id = false)
    (h : wpC (model prog w) (A.under (.builtin id args)) (b args)
      (fun fin s' => match fin with | .done f => R (.ok f) s' | .again c' => c'.quiet = true ∧ codeC (model prog w) A c' R s') (fun e s' => R (.error e) s') s) :
    codeC (model prog w) A (.builtin id args) R s := by
  refine codeC_tree (ok_builtin hk) ?_
  show wpC _ _ (match entryFor table id with | some b => b args | none => unsupported ((withoutEnding? id "#data").getD id)) _ _ s
  rw [hb]; exact h

theorem ba_new (a : Value) {Q₁ : Value → Shared → Prop}
    (h : Q₁ (.ref s.heap.objs.size) { s with heap := s.heap.push (baObj #[]) }) :
    codeAny (model prog w) A (.call (.builtin "bytearray.__new__") ⟨[.type "bytearray", a], []⟩) (wants Q₁ E) s := by
  refine codeAny_of_tree ?_
  show wpAny _ A.in1 (do checkBuiltinCall "bytearray.__new__" ⟨[.type "bytearray", a], []⟩; again (.builtin "bytearray.__new__" ⟨[.type "bytearray", a], []⟩)) _ _ s
  refine wpAny_bind (wpAny_of_eq (B.newCall a) (wpAny_pure ⟨plainId_quiet B.plain_new _, codeAny_builtin_stack B.entry_new rfl fun p st => ?_⟩))
  rw [Around.under_plainId B.plain_new _]
  have hsub := B.sub_self
  have hown := B.owner_new
  obtain ⟨hp, g, d, tk, os⟩ := s
  simp only [hown]
  wp_walk
  exact h
end
end Mine

/- part Bb -/
namespace Mine
open PySem.Sem (wp)
open Builtin (Bytes.exported)
section
variable {prog : Program} {w : World} {M : Model} {A : Around} {E : Value → Shared → Prop} {s : Shared} {S : Addr} {b : Array UInt8}

theorem ba_typeIs (h : s.heap.get? S = some (baObj b)) : s.TypeIs (.ref S) "bytearray" := ⟨_, h, rfl⟩

theorem ba_own {name : String} {id : String} {Q : Bool → Shared → Prop} (h : s.heap.get? S = some (baObj b)) (hl : typeLookup (.type "bytearray") name = pure (some (.builtin id)))
    (h1 : (!id.endsWith ("." ++ name)) = false) (h2 : id.dropRight (name.length + 1) = "bytearray") (hq : Q true s) : wpAny M A (Builtin.Bytes.slotIsOwn (.ref S) name) Q E s := by
  unfold Builtin.Bytes.slotIsOwn
  refine wpAny_bind (wpAny_specialOf (ba_typeIs h) hl ?_)
  refine bm_if_false h1 ?_
  rw [h2]
  exact wpAny_isInstance (ba_typeIs h) B.sub_self hq
theorem ba_ownRelease {Q : Bool → Shared → Prop} (h : s.heap.get? S = some (baObj b)) (hq : Q false s) : wpAny M A (Builtin.Bytes.ownRelease (.ref S)) Q E s := by
  unfold Builtin.Bytes.ownRelease
  exact wpAny_bind (ba_own h B.look_release (by decide +kernel) (by decide +kernel) (wpAny_pure hq))
theorem ba_payload {Q : Array UInt8 → Shared → Prop} (h : s.heap.get? S = some (baObj b)) (hq : Q b s) : wpAny M A (Builtin.Bytes.payload (.ref S)) Q E s := by
  unfold Builtin.Bytes.payload Builtin.Bytes.payload?
  refine wpAny_bind (wpAny_bind (wpAny_load h ?_))
  exact wpAny_pure (wpAny_pure hq)
theorem ba_write {f : Array UInt8 → Array UInt8} {Q : Unit → Shared → Prop} (h : s.heap.get? S = some (baObj b)) (hz : (f b).size ≤ sizeLine)
    (hq : ∀ h', h'.get? S = some (baObj (f b)) → Heap.SameBut S s.heap h' → Q () { s with heap := h' }) : wpAny M A (Builtin.Bytes.write (.ref S) f) Q E s := by
  show wpAny M A (updateBytearray S f) Q E s
  unfold updateBytearray
  refine wpAny_bind (wpAny_load h ?_)
  show wpAny _ _ (update S (Obj.mapBytearray f) >>= fun _ => lookBehind S) _ _ _
  refine wpAny_bind (wpAny_update h ?_)
  have hS₂ : (s.heap.update S (Obj.mapBytearray f)).get? S = some (baObj (f b)) := Heap.get?_update_self (Obj.mapBytearray f) h rfl
  refine wpAny_lookBehind hS₂ ?_ (hq _ hS₂ (Heap.SameBut.update ..))
  show (if (f b).size > sizeLine then some "bytearray:memory" else none) = none
  rw [if_neg (Nat.not_lt.mpr hz)]

def expF (self : Value) : Code × Pos → Bool
    | (.builtin "bytearray.__contains__" ⟨v :: _, _⟩, _) | (.builtin "bytearray.__mod__" ⟨v :: _, _⟩, _)
    | (.builtin "bytearray.__rmod__" ⟨_ :: v :: _, _⟩, _) | (.builtin "_struct.pack_into.held" ⟨v :: _, _⟩, _) => Builtin.Bytes.sameRef v self
    | (.builtin "bytearray.find.held" ⟨_ :: _ :: held, _⟩, _) => held.any (Builtin.Bytes.sameRef self)
    | (.builtin id ⟨v :: _, _⟩, _) => Builtin.Bytes.sameRef v self && Builtin.Bytes.decodersThatHold.contains id
    | _ => false
theorem expF_no {self : Value} {x : Code × Pos} (hg : x.1.isGuard = false) (hk : CodeOk x.1) : expF self x = false := by
  unfold expF
  split
  · exact absurd hg (by simp only [Code.isGuard]; decide +kernel)
  · exact absurd hg (by simp only [Code.isGuard]; decide +kernel)
  · exact absurd hg (by simp only [Code.isGuard]; decide +kernel)
  · exact absurd hg (by simp only [Code.isGuard]; decide +kernel)
  · exact absurd hg (by simp only [Code.isGuard]; decide +kernel)
  · rw [hk _ _ rfl, Bool.and_false]
  · rfl
theorem guards_nil {l : List (Code × Pos)} (h : guardsOf l = []) : ∀ x ∈ l, x.1.isGuard = false := by
  intro x hx
  cases hg : x.1.isGuard with
  | false => rfl
  | true =>
    have : x.1 ∈ guardsOf l := List.mem_filter.mpr ⟨List.mem_map.mpr ⟨x, hx, rfl⟩, hg⟩
    rw [h] at this; cases this
theorem exported_no {self : Value} {Q : Bool → Shared → Prop} (hG : A.guards = some []) (hq : Q false s) : wpC M A (Builtin.Bytes.exported self) Q E s := fun Γ p hΓ hC => by
  show Q (((Γ.code, p) :: Γ.below).any (expF self)) s
  have : ((Γ.code, p) :: Γ.below).any (expF self) = false := by
    rw [List.any_eq_false]
    intro x hx
    have hg : guardsOf ((Γ.code, p) :: Γ.below) = [] := by rw [guardsOf_cons]; exact hΓ.2.2.2.1 [] hG
    rw [expF_no (guards_nil hg x hx) ?_]
    · exact Bool.false_ne_true
    · rcases List.mem_cons.mp hx with rfl | hx
      · exact hC.1
      · exact hC.2 x hx
  rw [this]; exact hq
end
end Mine

/- part Bc -/
namespace Mine
open PySem.Sem (wp)
namespace B
theorem bindOpt (v : Value) : Builtin.Bytes.bindOptional "bytearray.__init__" "bytearray" ["source", "encoding", "errors"] [v] [] = pure [some v, none, none] := by kernel_rfl
theorem bytes_without_index : typeLookup (.type "bytes") "__index__" = pure none := by rw [typeLookup_type, builtinLookup_eq_fast]; kernel_rfl
theorem buffer_full {id : String} {b : Array UInt8} {t : Tok} : Builtin.Bytes.buffer? id (.bytes b t) true = pure (some b) := by
  unfold Builtin.Bytes.buffer?
  rw [KBy.special_eq KBy.look_buffer, KBy.own_buffer, KBy.own_release]
  kernel_rfl
end B
section
variable {prog : Program} {w : World} {M : Model} {A : Around} {E : Value → Shared → Prop} {s : Shared} {S : Addr} {b : Array UInt8}
theorem wpC_if_false {α : Type} {c : Bool} {a b : Sem α} {Q : α → Shared → Prop} (hc : c = false) (h : wpC M A b Q E s) : wpC M A (if c = true then a else b) Q E s := by
  subst hc
  exact h
theorem wpC_if_true {α : Type} {c : Bool} {a b : Sem α} {Q : α → Shared → Prop} (hc : c = true) (h : wpC M A a Q E s) : wpC M A (if c = true then a else b) Q E s := by
  subst hc
  exact h
theorem ba_init_int {n : Int} {t : Tok} {P : Fin → Shared → Prop} (hG : A.guards = some []) (h : s.heap.get? S = some (baObj #[])) (h0 : 0 ≤ n) (hn : n ≤ 16777216)
    (hq : ∀ h', h'.get? S = some (baObj (Array.replicate n.toNat 0)) → (∀ a o, a ≠ S → s.heap.get? a = some o → h'.get? a = some o) → P (.done (.ret .none)) { s with heap := h' }) :
    wpC (model prog w) A (Builtin.«bytearray.__init__» ⟨[.ref S, .int n t], []⟩) P E s := by
  unfold Builtin.«bytearray.__init__»
  refine wpC_bindA (ba_ownRelease h ?_)
  refine wpC_if_false rfl ?_
  refine wpC_bindA (wpAny_of_eq (B.bindOpt _) ?_)
  refine wpC_bindA (wpAny_of_eq (a := ()) rfl ?_)
  refine wpC_bindA (wpAny_of_eq (a := ()) rfl ?_)
  refine wpC_bind (wpC_bind (exported_no hG ?_))
  refine wpC_bindA ?_
  show wpAny _ _ (load S >>= _) _ _ _
  refine wpAny_bind (wpAny_load h ?_)
  refine wpAny_pure (wpC_pure ?_)
  refine wpC_of ?_
  refine bm_if_false rfl ?_
  refine wpAny_bind (ba_write h (Nat.zero_le _) fun h1 hS1 hs1 => ?_)
  refine wpAny_bind (wpAny_of_eq (a := none) rfl ?_)
  refine bm_if_false rfl ?_
  refine wpAny_bind (wpAny_of_eq (a := ()) rfl ?_)
  refine wpAny_bind (wpAny_specialOf (typeIs_int _ _ _) F.slot_int_index.lookup ?_)
  refine bm_if_true rfl ?_
  refine wpAny_bind (wpAny_attempt (wpAny_of_eq (rfl : asIndex (.int n t) = pure n) ?_))
  have hn2 : n < 2 ^ 63 - 1 := by omega
  refine bm_if_false (by unfold Builtin.Bytes.fitsIndex; simp only [Bool.not_eq_false', Bool.and_eq_true, decide_eq_true_eq]; omega) ?_
  refine wpAny_ite ?_
  rw [if_neg (by omega)]
  refine bm_if_false (by rw [beq_eq_false_iff_ne]; omega) ?_
  refine bm_if_false (KBy.tooLong_not (by omega)) ?_
  refine wpAny_bind (wpAny_rule ?_)
  refine wpAny_ite ?_
  split
  · refine wpAny_bind (ba_write hS1 (by rw [Array.size_replicate, sizeLine_eq]; omega) fun h2 hS2 hs2 => ?_)
    exact wpAny_pure (hq h2 hS2 fun a o ha e => hs2.extBut a o ha (hs1.extBut a o ha e))
  · have : n = 0 := by omega
    subst this
    exact wpAny_pure (hq h1 hS1 fun a o ha e => hs1.extBut a o ha e)
theorem ba_init_bytes {c : Array UInt8} {t : Tok} {P : Fin → Shared → Prop} (hG : A.guards = some []) (h : s.heap.get? S = some (baObj #[])) (hn : c.size ≤ 16777216)
    (hq : ∀ h', h'.get? S = some (baObj c) → (∀ a o, a ≠ S → s.heap.get? a = some o → h'.get? a = some o) → P (.done (.ret .none)) { s with heap := h' }) :
    wpC (model prog w) A (Builtin.«bytearray.__init__» ⟨[.ref S, .bytes c t], []⟩) P E s := by
  unfold Builtin.«bytearray.__init__»
  refine wpC_bindA (ba_ownRelease h ?_)
  refine wpC_if_false rfl ?_
  refine wpC_bindA (wpAny_of_eq (B.bindOpt _) ?_)
  refine wpC_bindA (wpAny_of_eq (a := ()) rfl ?_)
  refine wpC_bindA (wpAny_of_eq (a := ()) rfl ?_)
  refine wpC_bind (wpC_bind (exported_no hG ?_))
  refine wpC_bindA ?_
  show wpAny _ _ (load S >>= _) _ _ _
  refine wpAny_bind (wpAny_load h ?_)
  refine wpAny_pure (wpC_pure ?_)
  refine wpC_of ?_
  refine bm_if_false rfl ?_
  refine wpAny_bind (ba_write h (Nat.zero_le _) fun h1 hS1 hs1 => ?_)
  refine wpAny_bind (wpAny_of_eq (a := none) rfl ?_)
  refine bm_if_false rfl ?_
  refine wpAny_bind (wpAny_of_eq (a := ()) rfl ?_)
  refine wpAny_bind (wpAny_specialOf (typeIs_bytes _ _ _) B.bytes_without_index ?_)
  refine bm_if_false rfl ?_
  refine wpAny_bind (wpAny_of_eq (B.buffer_full) ?_)
  refine wpAny_bind (wpAny_rule ?_)
  refine wpAny_bind (ba_write hS1 (by rw [sizeLine_eq]; exact hn) fun h2 hS2 hs2 => ?_)
  exact wpAny_pure (hq h2 hS2 fun a o ha e => hs2.extBut a o ha (hs1.extBut a o ha e))
end
end Mine

/- part Bd -/
namespace Mine
open PySem.Sem (wp)
section
variable {prog : Program} {w : World} {M : Model} {A : Around} {E : Value → Shared → Prop} {s : Shared} {S : Addr} {b : Array UInt8}
theorem codeC_call_builtin {id : String} {args : Args} {b : Builtin} {R : Result → Shared → Prop} (hq : plainId id = true) (hb : entryFor table id = some b) (hk : Builtin.Bytes.decodersThatHold.contains id = false)
    (h : wpAny (model prog w) A.in1 (checkBuiltinCall id args) (fun _ s₁ => wpC (model prog w) A.in1 (b args)
      (fun fin s' => match fin with | .done f => R (.ok f) s' | .again c' => c'.quiet = true ∧ codeC (model prog w) A c' R s') (fun e s' => R (.error e) s') s₁)
      (fun e s' => R (.error e) s') s) : codeC (model prog w) A (.call (.builtin id) args) R s := by
  refine codeC_tree (ok_call _ _) ?_
  show wpC _ A.in1 (do checkBuiltinCall id args; again (.builtin id args)) _ _ s
  refine wpC_bindA (wpAny_mono h (fun _ s₁ h₁ => wpC_pure ⟨plainId_quiet hq args, codeC_builtin hb hk ?_⟩) fun _ _ h' => h')
  rw [Around.under_plainId hq args]; exact h₁

theorem ba_call {v : Value} {Q : Value → Shared → Prop}
    (hinit : ∀ S h₁, S = s.heap.objs.size → h₁ = s.heap.push (baObj #[]) → h₁.get? S = some (baObj #[]) → wpC (model prog w) A.in1.in1 (Builtin.«bytearray.__init__» ⟨[.ref S, v], []⟩) (fun fin s' => fin = .done (.ret .none) ∧ Q (.ref S) s') E { s with heap := h₁ }) :
    wpC (model prog w) A (call (.type "bytearray") [v]) Q E s := by
  obtain ⟨c, tl, hmro⟩ := B.called.mro
  refine wpC_call (codeC_tree (ok_call _ _) ?_)
  show wpC _ _ (callAny (.type "bytearray") _) _ _ _
  refine wpC_pure ⟨Code.quiet_builtin _ (by decide +kernel), codeC_builtin F.entry_type_call B.ok_type ?_⟩
  rw [Around.under_plain (weight_type_call_type "bytearray" [v] []) rfl]
  unfold Builtin.«type.__call__»
  refine wpC_if_false B.called.notType ?_
  refine wpC_if_false B.called.canCreate ?_
  refine wpC_bindA (wpAny_of_eq (B.typeCall v) ?_)
  refine wpC_bindA (wpAny_of_eq B.mro ?_)
  refine wpC_if_false rfl ?_
  refine wpC_bindA (wpAny_of_eq B.called.made ?_)
  refine wpC_bindA (wpAny_pure ?_)
  refine wpC_bindA (wpAny_holding (wpAny_call (codeAny_mono (ba_new v (Q₁ := fun o s₁ => o = .ref s.heap.objs.size ∧ s₁ = { s with heap := s.heap.push (baObj #[]) }) (E := fun _ _ => False) ⟨rfl, rfl⟩) fun r s₁ hr => ?_)))
  cases r with
  | error e => exact hr.elim
  | ok fl =>
    cases fl with
    | ret obj =>
      obtain ⟨rfl, rfl⟩ := hr
      have hS : (s.heap.push (baObj #[])).get? s.heap.objs.size = some (baObj #[]) := Heap.get?_push_size _ rfl
      refine wpC_bindA (wpAny_isInstance (ba_typeIs (s := { s with heap := s.heap.push (baObj #[]) }) hS) B.sub_self ?_)
      refine wpC_if_false rfl ?_
      refine wpC_bind (wpC_holding ?_)
      unfold callSpecial?
      refine wpC_bindA (wpAny_specialOf (ba_typeIs (s := { s with heap := s.heap.push (baObj #[]) }) hS) B.slot_init.lookup ?_)
      refine wpC_holding (wpC_bindA (wpAny_of_eq (B.slot_init.bind _) ?_))
      refine wpC_bind (wpC_call ?_)
      refine codeC_call_builtin B.plain_init B.entry_init B.ok_init (B.slot_init.check _ _ _ _ _ _ _ _ (ba_typeIs (s := { s with heap := s.heap.push (baObj #[]) }) hS) (B.args_init _ _) ?_)
      refine wpC_mono (hinit _ _ rfl rfl hS) (fun fin s' hf => ?_) fun _ _ e => e
      obtain ⟨rfl, hq⟩ := hf
      exact wpC_pure (wpC_if_false (by decide) (wpC_pure hq))
    | _ => exact hr.elim

theorem ba_of_int {n : Int} {t : Tok} {Q : Value → Shared → Prop} (hG : A.guards = some []) (h0 : 0 ≤ n) (hn : n ≤ 16777216)
    (hq : ∀ S h', s.heap.get? S = none → h'.get? S = some (baObj (Array.replicate n.toNat 0)) → (∀ a o, s.heap.get? a = some o → h'.get? a = some o) → Q (.ref S) { s with heap := h' }) :
    wpC (model prog w) A (call (.type "bytearray") [.int n t]) Q E s := by
  refine ba_call fun S h₁ hS hh h1 => ba_init_int hG h1 h0 hn fun h' h2 hk => ⟨rfl, hq S h' ?_ h2 fun a o e => hk a o ?_ ?_⟩
  · subst hS
    cases e : s.heap.get? s.heap.objs.size with
    | none => rfl
    | some o => exact absurd (Heap.lt_size e) (Nat.lt_irrefl _)
  · subst hS; exact Nat.ne_of_lt (Heap.lt_size e)
  · subst hh; exact Heap.get?_push_of_some _ e
theorem ba_of_bytes {c : Array UInt8} {t : Tok} {Q : Value → Shared → Prop} (hG : A.guards = some []) (hn : c.size ≤ 16777216)
    (hq : ∀ S h', s.heap.get? S = none → h'.get? S = some (baObj c) → (∀ a o, s.heap.get? a = some o → h'.get? a = some o) → Q (.ref S) { s with heap := h' }) :
    wpC (model prog w) A (call (.type "bytearray") [.bytes c t]) Q E s := by
  refine ba_call fun S h₁ hS hh h1 => ba_init_bytes hG h1 hn fun h' h2 hk => ⟨rfl, hq S h' ?_ h2 fun a o e => hk a o ?_ ?_⟩
  · subst hS
    cases e : s.heap.get? s.heap.objs.size with
    | none => rfl
    | some o => exact absurd (Heap.lt_size e) (Nat.lt_irrefl _)
  · subst hS; exact Nat.ne_of_lt (Heap.lt_size e)
  · subst hh; exact Heap.get?_push_of_some _ e
end
end Mine

/- part Be -/
namespace Mine
section
variable {prog : Program} {w : World} {A : Around} {E : Value → Shared → Prop} {s : Shared} {S : Addr} {b : Array UInt8}

theorem ba_len {Q : Value → Shared → Prop} (h : s.heap.get? S = some (baObj b)) (hz : b.size ≤ 16777216)
    (hq : Q (.int (b.size : Nat) (s.toks + 1)) { s with toks := s.toks + 1 + 1 }) : wpAny (model prog w) A (call (.builtin "len") [.ref S]) Q E s := by
  refine Calls.call_function_entry kind_len plain_len entry_len (args_len1 _) ?_
  unfold Builtin.«len»
  refine wpAny_bind (m := oneArg "len" _) (wpAny_pure ?_)
  refine wpAny_bind (m := callSpecial? (.ref S) (Str.ofString "__len__")) (wpAny_callSpecial?_slot (name := Str.ofString "__len__") (ba_typeIs h) B.slot_len
    (wpAny_call_entry B.slot_len (ba_typeIs h) B.entry_len ?_ (B.args_len _)))
  unfold Builtin.«bytearray.__len__»
  refine wpAny_bind (wpAny_pure ?_)
  refine wpAny_bind (ba_payload h ?_)
  refine wpAny_bind (wpAny_mkInt (wpAny_pure ⟨_, rfl, ?_⟩))
  show wpAny _ _ _ _ _ { s with toks := s.toks + 1 }
  refine wpAny_bind (wpAny_holding (wpAny_pure ?_))
  refine wpAny_bind (wpAny_letGo ?_)
  refine wpAny_ite ?_
  rw [if_neg (by omega)]
  refine wpAny_ite ?_
  rw [if_neg (by omega)]
  exact wpAny_bind (wpAny_mkInt (wpAny_pure ⟨_, rfl, hq⟩))

theorem sub_int {k : Int} {t : Tok} {Q : Option Int → Shared → Prop} (h0 : -(2 ^ 63 : Int) ≤ k) (h1 : k < 2 ^ 63) (hq : Q (some k) s) : wpAny (model prog w) A (Builtin.Bytes.subscript? (.int k t)) Q E s := by
  unfold Builtin.Bytes.subscript?
  refine wpAny_bind (wpAny_specialOf (typeIs_int _ _ _) F.slot_int_index.lookup ?_)
  refine bm_if_false rfl ?_
  refine wpAny_bind (wpAny_of_eq (a := k) rfl ?_)
  refine bm_if_false (by unfold Builtin.Bytes.fitsIndex; simp only [Bool.not_eq_false', Bool.and_eq_true, decide_eq_true_eq]; exact ⟨h0, h1⟩) ?_
  exact wpAny_pure hq

theorem seqIndex_in {k : Int} {n : Nat} (h0 : 0 ≤ k) (h1 : k < n) : seqIndex? k n = some k.toNat := by
  have e : (if k < 0 then k + n else k) = k := if_neg (by omega)
  unfold seqIndex?
  simp only [e]
  rw [if_pos (by simp only [Bool.and_eq_true, decide_eq_true_eq]; omega)]
theorem seqIndex_out {k : Int} {n : Nat} (h0 : 0 ≤ k) (h1 : (n : Int) ≤ k) : seqIndex? k n = none := by
  have e : (if k < 0 then k + n else k) = k := if_neg (by omega)
  unfold seqIndex?
  simp only [e]
  rw [if_neg (by simp only [Bool.and_eq_true, decide_eq_true_eq]; omega)]

theorem ba_getItem {k : Int} {t : Tok} {Q : Value → Shared → Prop} (h : s.heap.get? S = some (baObj b)) (hz : b.size ≤ 16777216) (h0 : 0 ≤ k) (h1 : k < (b.size : Int))
    (hq : Q (.int ((b.getD k.toNat 0).toNat : Nat) s.toks) { s with toks := s.toks + 1 }) : wpAny (model prog w) A (getItem (.ref S) (.int k t)) Q E s := by
  refine wpAny_getItem_slot (ba_typeIs h) (by decide) B.slot_getitem (wpAny_call_entry B.slot_getitem (ba_typeIs h) B.entry_getitem ?_ (B.args_getitem _ _))
  unfold Builtin.«bytearray.__getitem__»
  refine wpAny_bind (wpAny_pure ?_)
  refine wpAny_bind (sub_int (by omega) (by omega) ?_)
  refine wpAny_bind (ba_payload h ?_)
  rw [seqIndex_in h0 h1]
  have hlt : k.toNat < b.size := by omega
  have e : ((some k.toNat).bind fun x => b[x]?) = some (b.getD k.toNat 0) := by
    show b[k.toNat]? = _
    rw [Array.getElem?_eq_getElem hlt, Array.getD_eq_getD_getElem?, Array.getElem?_eq_getElem hlt]; rfl
  rw [e]
  exact wpAny_bind (wpAny_mkInt (wpAny_pure ⟨_, rfl, hq⟩))
theorem ba_item {value slice : Expr} {k : Int} {t : Tok} {Q : Value → Shared → Prop} (h : s.heap.get? S = some (baObj b)) (hz : b.size ≤ 16777216) (h0 : 0 ≤ k) (h1 : k < (b.size : Int))
    (hq : Q (.int ((b.getD k.toNat 0).toNat : Nat) s.toks) { s with toks := s.toks + 1 })
    (hs : subscripted slice false (.ref S) (.int k t) = operate [.ref S, .int k t] (getItem (.ref S) (.int k t)) := by with_unfolding_all rfl) :
    wpAny (model prog w) A (subscriptTail value slice (.ref S) (.int k t)) Q E s :=
  tail_any (ba_typeIs h) B.slot_getitem.lookup (ba_getItem h hz h0 h1 hq) hs

theorem byteVal {n : Nat} {t : Tok} {Q : UInt8 → Shared → Prop} (hn : n < 256) (hq : Q n.toUInt8 s) : wpAny (model prog w) A (Builtin.Bytes.byteValue (.int (n : Nat) t)) Q E s := by
  unfold Builtin.Bytes.byteValue
  refine wpAny_bind (wpAny_of_eq (a := ((n : Nat) : Int)) rfl ?_)
  refine bm_if_false (by simp only [Bool.or_eq_false_iff, decide_eq_false_iff_not]; omega) ?_
  exact wpAny_pure hq

theorem ba_setItem {k : Int} {n : Nat} {t u : Tok} {Q : Unit → Shared → Prop} (h : s.heap.get? S = some (baObj b)) (hz : b.size ≤ 16777216) (h0 : 0 ≤ k) (h1 : k < (b.size : Int)) (hn : n < 256)
    (hq : ∀ h', h'.get? S = some (baObj (b.setIfInBounds k.toNat n.toUInt8)) → Heap.SameBut S s.heap h' → Q () { s with heap := h' }) : wpAny (model prog w) A (setItem (.ref S) (.int k t) (.int (n : Nat) u)) Q E s := by
  unfold setItem
  refine wpAny_holding ?_
  refine wpAny_bind (wpAny_sequenceKey (ba_typeIs h) (by decide) ?_)
  refine wpAny_bind (wpAny_callSpecial?_slot (name := Str.ofString "__setitem__") (ba_typeIs h) B.slot_setitem (wpAny_call_entry B.slot_setitem (ba_typeIs h) B.entry_setitem ?_ (B.args_setitem _ _ _)))
  unfold Builtin.«bytearray.__setitem__»
  refine bm_if_false rfl ?_
  refine wpAny_bind (sub_int (by omega) (by omega) ?_)
  refine wpAny_bind (byteVal hn ?_)
  refine wpAny_bind (ba_payload h ?_)
  rw [seqIndex_in h0 h1]
  refine wpAny_bind (ba_write h (by rw [Array.size_setIfInBounds, sizeLine_eq]; exact hz) fun h' hS hs => ?_)
  exact wpAny_pure ⟨_, rfl, wpAny_pure (hq h' hS hs)⟩
theorem ba_setItem_out {k : Int} {n : Nat} {t u : Tok} {Q : Unit → Shared → Prop} (hA : A.handled = none) (h : s.heap.get? S = some (baObj b)) (h0 : 0 ≤ k) (h1 : (b.size : Int) ≤ k) (h2 : k < 2 ^ 63) (hn : n < 256)
    (hq : ∀ h' tk e, Heap.NewExc s.heap h' e "IndexError" → E (.ref e) { s with heap := h', toks := tk }) : wpAny (model prog w) A (setItem (.ref S) (.int k t) (.int (n : Nat) u)) Q E s := by
  unfold setItem
  refine wpAny_holding ?_
  refine wpAny_bind (wpAny_sequenceKey (ba_typeIs h) (by decide) ?_)
  refine wpAny_bind (wpAny_callSpecial?_slot (name := Str.ofString "__setitem__") (ba_typeIs h) B.slot_setitem (wpAny_call_entry B.slot_setitem (ba_typeIs h) B.entry_setitem ?_ (B.args_setitem _ _ _)))
  unfold Builtin.«bytearray.__setitem__»
  refine bm_if_false rfl ?_
  refine wpAny_bind (sub_int (by omega) (by omega) ?_)
  refine wpAny_bind (byteVal hn ?_)
  refine wpAny_bind (ba_payload h ?_)
  rw [seqIndex_out h0 h1]
  refine wpAny_bind (wpAny_bind (wpAny_rule ?_))
  exact wpAny_raiseErrorWords plainExc_IndexError hA hq
end
end Mine

/- part Bf -/
namespace Mine
namespace B
theorem int_without_bytes : typeLookup (.type "int") "__bytes__" = pure none := by rw [typeLookup_type, builtinLookup_eq_fast]; kernel_rfl
end B
section
variable {prog : Program} {w : World} {A : Around} {E : Value → Shared → Prop} {s : Shared} {S : Addr} {b : Array UInt8}
theorem ba_buffer {id : String} {Q : Option (Array UInt8) → Shared → Prop} (h : s.heap.get? S = some (baObj b)) (hq : Q (some b) s) : wpAny (model prog w) A (Builtin.Bytes.buffer? id (.ref S) true) Q E s := by
  unfold Builtin.Bytes.buffer?
  refine wpAny_bind (wpAny_specialOf (ba_typeIs h) B.look_buffer ?_)
  refine wpAny_bind (ba_own h B.look_buffer (by decide +kernel) (by decide +kernel) ?_)
  refine bm_if_false rfl ?_
  refine wpAny_bind (wpAny_specialOf (ba_typeIs h) B.look_buffer ?_)
  refine wpAny_bind (ba_ownRelease h ?_)
  refine bm_if_false rfl ?_
  exact wpAny_bind (ba_payload h (wpAny_pure hq))
theorem code_bytes_new {v : Value} {Q₁ : Value → Shared → Prop}
    (h : wpAny (model prog w) A.in1 (Builtin.«bytes.__new__» ⟨[.type "bytes", v], []⟩) (fun fin s' => ∃ r, fin = .done (.ret r) ∧ Q₁ r s') E s) :
    codeAny (model prog w) A (.call (.builtin "bytes.__new__") ⟨[.type "bytes", v], []⟩) (wants Q₁ E) s := by
  refine codeAny_of_tree ?_
  show wpAny _ A.in1 (do checkBuiltinCall "bytes.__new__" ⟨[.type "bytes", v], []⟩; again (.builtin "bytes.__new__" ⟨[.type "bytes", v], []⟩)) _ _ s
  refine wpAny_bind (wpAny_of_eq (F.bm_newCall _) (wpAny_pure ⟨plainId_quiet F.bm_plain _, codeAny_builtin F.bm_entry ?_⟩))
  rw [Around.under_plainId F.bm_plain _]
  refine wpAny_mono h (fun fin s' hf => ?_) fun _ _ e => e
  obtain ⟨r, rfl, hq⟩ := hf
  exact hq
theorem call_bytes {v : Value} {Q : Value → Shared → Prop}
    (h : wpAny (model prog w) A.in1.in1 (Builtin.«bytes.__new__» ⟨[.type "bytes", v], []⟩) (fun fin s' => ∃ c t, fin = .done (.ret (.bytes c t)) ∧ Q (.bytes c t) s') E s) : wpAny (model prog w) A (call (.type "bytes") [v]) Q E s := by
  refine callType_codes (Q₁ := fun obj s₁ => s₁.TypeIs obj "bytes" ∧ Q obj s₁) F.bm_called (F.bm_typeCall _) F.entry_object_init
    (code_bytes_new (wpAny_mono h (fun fin s' ⟨c, t, e, q⟩ => ⟨_, e, PySem.W.typeIs_bytes _ _ _, q⟩) fun _ _ e => e)) fun obj s₁ h₁ => ?_
  exact ⟨h₁.1, F.args_object_init_2 obj _, object_init_meets F.bm_called.init.lookup F.bm_called.made (by decide) prog w A.in1 _ s₁ ⟨h₁.1, rfl, h₁.2⟩⟩
theorem bytes_of_ba {Q : Value → Shared → Prop} (h : s.heap.get? S = some (baObj b)) (hz : b.size ≤ 16777216)
    (hq : ∀ t k, Q (.bytes b t) { s with toks := k }) : wpAny (model prog w) A (call (.type "bytes") [.ref S]) Q E s := by
  refine call_bytes ?_
  unfold Builtin.«bytes.__new__»
  refine wpAny_bind (wpAny_of_eq (a := true) rfl ?_)
  refine bm_if_false rfl ?_
  refine wpAny_bind (wpAny_of_eq F.bm_sub ?_)
  refine bm_if_false rfl ?_
  refine wpAny_bind (wpAny_of_eq (F.bm_bind _) ?_)
  refine wpAny_bind (wpAny_of_eq (a := ()) rfl ?_)
  refine wpAny_bind (wpAny_of_eq (a := ()) rfl ?_)
  refine bm_if_false rfl ?_
  refine wpAny_bind (wpAny_specialOf (ba_typeIs h) B.without_bytes ?_)
  refine wpAny_bind (wpAny_bind ?_)
  show wpAny _ _ (load S >>= _) _ _ _
  refine wpAny_bind (wpAny_load h ?_)
  refine wpAny_pure (wpAny_pure ?_)
  refine bm_if_false rfl ?_
  refine wpAny_bind (wpAny_specialOf (ba_typeIs h) B.without_index ?_)
  refine bm_if_true rfl ?_
  refine wpAny_bind (ba_buffer h ?_)
  refine wpAny_bind (wpAny_rule ?_)
  refine wpAny_bind (wpAny_mkBytes ?_ (by rw [sizeLine_eq]; exact hz))
  show wpAny _ _ (if (Value.type "bytes" == Value.type "bytes") = true then _ else _) _ _ _
  refine bm_if_true (by decide) ?_
  exact wpAny_pure ⟨_, _, rfl, hq _ _⟩
theorem bytes_of_int {n : Int} {t : Tok} {Q : Value → Shared → Prop} (h0 : 0 ≤ n) (hn : n ≤ 16777216)
    (hq : ∀ t k, Q (.bytes (Array.replicate n.toNat 0) t) { s with toks := k }) : wpAny (model prog w) A (call (.type "bytes") [.int n t]) Q E s := by
  refine call_bytes ?_
  unfold Builtin.«bytes.__new__»
  refine wpAny_bind (wpAny_of_eq (a := true) rfl ?_)
  refine bm_if_false rfl ?_
  refine wpAny_bind (wpAny_of_eq F.bm_sub ?_)
  refine bm_if_false rfl ?_
  refine wpAny_bind (wpAny_of_eq (F.bm_bind _) ?_)
  refine wpAny_bind (wpAny_of_eq (a := ()) rfl ?_)
  refine wpAny_bind (wpAny_of_eq (a := ()) rfl ?_)
  refine bm_if_false rfl ?_
  refine wpAny_bind (wpAny_specialOf (typeIs_int _ _ _) B.int_without_bytes ?_)
  refine wpAny_bind (wpAny_of_eq (a := false) rfl ?_)
  refine bm_if_false rfl ?_
  refine wpAny_bind (wpAny_specialOf (typeIs_int _ _ _) F.slot_int_index.lookup ?_)
  refine bm_if_false rfl ?_
  refine wpAny_bind (wpAny_attempt (wpAny_of_eq (rfl : asIndex (.int n t) = pure n) ?_))
  refine bm_if_false (by unfold Builtin.Bytes.fitsIndex; simp only [Bool.not_eq_false', Bool.and_eq_true, decide_eq_true_eq]; omega) ?_
  refine wpAny_ite ?_
  rw [if_neg (by omega)]
  refine wpAny_ite ?_
  rw [if_neg (by omega)]
  refine bm_if_false (KBy.tooLong_not (by omega)) ?_
  refine wpAny_bind (wpAny_rule ?_)
  refine wpAny_bind (wpAny_mkBytes ?_ (by rw [Array.size_replicate, sizeLine_eq]; omega))
  show wpAny _ _ (if (Value.type "bytes" == Value.type "bytes") = true then _ else _) _ _ _
  refine bm_if_true (by decide) ?_
  exact wpAny_pure ⟨_, _, rfl, hq _ _⟩
end
end Mine

/- part P1 -/
namespace Mine
section
variable {M : Model} {A : Around} {E : Value → Shared → Prop} {s : Shared} {env : Env}
theorem wpC_keep {α : Type} {vs : List Value} {m : Sem α} {Q : α → Shared → Prop} (h : wpC M A m Q E s) : wpC M A (m.keep vs) Q E s :=
  fun Γ p hΓ hC => by rw [Sem.wp_keep]; exact h Γ p hΓ hC
theorem wpC_spliced_nil {Q : List Value → Shared → Prop} (h : Q [] s) : wpC M A (spliced []) Q E s := wpC_pure h
theorem wpC_spliced_cons {t : Sem Value} {rest : List (Bool × Sem Value)} {Q : List Value → Shared → Prop}
    (h : wpC M A t (fun v s₁ => wpC M A (spliced rest) (fun vs s₂ => Q (v :: vs) s₂) E s₁) E s) : wpC M A (spliced ((false, t) :: rest)) Q E s := by
  rw [spliced]
  refine wpC_bind (wpC_mono h (fun v s₁ h₁ => ?_) fun _ _ x => x)
  exact wpC_bind (wpC_pure (wpC_bind (wpC_holding (wpC_mono h₁ (fun vs s₂ h₂ => wpC_pure h₂) fun _ _ x => x))))
theorem wpC_args_nil {pos : Pos} {Q : List Value → Shared → Prop} (h : Q [] s) : wpC M A (spliced (backTo pos (starEach [] env))) Q E s := wpC_spliced_nil h
theorem wpC_args_cons {e : Expr} {rest : List Expr} {pos : Pos} {Q : List Value → Shared → Prop}
    (h : wpC M A (eval e env) (fun v s₁ => wpC M A (spliced (backTo pos (starEach rest env))) (fun vs s₂ => Q (v :: vs) s₂) E s₁) E s)
    (he : starEach (e :: rest) env = (false, eval e env) :: starEach rest env := by rfl) : wpC M A (spliced (backTo pos (starEach (e :: rest) env))) Q E s := by
  rw [he]; exact wpC_spliced_cons h
theorem wpC_evalArgs {f : Value} {t : Sem Value} {rest : List (Bool × Sem Value)} {Q : Args → Shared → Prop}
    (h : wpC M A (spliced ((false, t) :: rest)) (fun vs s₁ => Q ⟨vs, []⟩ s₁) E s) : wpC M A (evalArgs f true ((false, t) :: rest) []) Q E s := by
  unfold evalArgs
  show wpC M A (spliced ((false, t) :: rest) >>= _) Q E s
  refine wpC_bind (wpC_mono h (fun vs s₁ h₁ => ?_) fun _ _ x => x)
  refine wpC_holding ?_
  exact wpC_bind (wpC_pure (wpC_bind (wpC_pure (wpC_pure h₁))))
theorem wpC_callWith_of {P : Heap → Prop} {pos : Pos} {f : Value} {first : List Value} {args : List (Bool × Sem Value)} {Q : Value → Shared → Prop} (hplain : args.any (·.1) = false)
    (hk : ∀ h, P h → ∃ k, (k = Keeper.frame ∨ k = Keeper.machine) ∧ Looks M h (keeperOf f) k)
    (h : wpC M A (evalArgs f true args []) (fun a s₁ => P s₁.heap ∧ wpC M A (call f (first ++ a.pos) a.kw) Q E s₁) E s) : wpC M A (callWith pos f first args []) Q E s := by
  unfold callWith
  refine wpC_bind (wpC_holding (wpC_mono h (fun a s₁ h₁ => wpC_standAt ?_) fun _ _ x => x))
  obtain ⟨k, hk', L⟩ := hk _ h₁.1
  simp only [hplain, List.any_nil, Bool.or_false]
  refine wpC_bindA (L.here ?_)
  have tail : ∀ {t : Sem Value}, wpC M A t Q E s₁ → wpC M A (t >>= fun r => holding [r] point >>= fun _ => pure r) Q E s₁ :=
    fun ht => wpC_bind (wpC_mono ht (fun r s₂ hr => wpC_bindA (wpAny_holding (wpAny_point (wpC_pure hr)))) fun _ _ x => x)
  have marked (mk : Value) : wpC M A (callMarked mk f (first ++ a.pos) a.kw) Q E s₁ := by unfold callMarked; exact wpC_keep h₁.2
  rcases hk' with rfl | rfl <;> dsimp only <;> first | exact tail h₁.2 | (split <;> first | exact tail h₁.2 | exact tail (marked _))
theorem wpC_callWith_K {K : Frag} {pos : Pos} {f : Value} {e : Expr} {rest : List Expr} {Q : Value → Shared → Prop} (hk : keepIn K f = true)
    (h : wpC M A (spliced (backTo pos (starEach (e :: rest) env))) (fun vs s₁ => K.In s₁.heap ∧ wpC M A (call f vs) Q E s₁) E s)
    (he : starEach (e :: rest) env = (false, eval e env) :: starEach rest env := by rfl) (hplain : (backTo pos (starEach rest env)).any (·.1) = false := by rfl) :
    wpC M A (callWith pos f [] (backTo pos (starEach (e :: rest) env)) []) Q E s := by
  rw [he] at h ⊢
  exact wpC_callWith_of (P := K.In) (by show (false || (backTo pos (starEach rest env)).any (·.1)) = false; rw [hplain]; rfl) (fun h X => looks_keep hk X) (wpC_evalArgs h)
theorem wpC_callWith_type {pos : Pos} {T : String} {e : Expr} {rest : List Expr} {Q : Value → Shared → Prop}
    (h : wpC M A (spliced (backTo pos (starEach (e :: rest) env))) (fun vs s₁ => wpC M A (call (.type T) vs) Q E s₁) E s)
    (he : starEach (e :: rest) env = (false, eval e env) :: starEach rest env := by rfl) (hplain : (backTo pos (starEach rest env)).any (·.1) = false := by rfl) :
    wpC M A (callWith pos (.type T) [] (backTo pos (starEach (e :: rest) env)) []) Q E s := by
  rw [he] at h ⊢
  exact wpC_callWith_of (P := fun _ => True) (by show (false || (backTo pos (starEach rest env)).any (·.1)) = false; rw [hplain]; rfl) (fun h _ => ⟨.machine, .inr rfl, Looks.of_pure rfl⟩) (wpC_evalArgs (wpC_mono h (fun _ _ x => ⟨trivial, x⟩) fun _ _ x => x))
theorem wpC_Call {func : Expr} {args : List Expr} {pos : Pos} {Q : Value → Shared → Prop}
    (h : wpAny M A (eval func env) (fun f s₁ => wpC M A (callWith pos f [] (backTo pos (starEach args env)) []) Q E s₁) E s)
    (he : eval (.Call func args [] pos) env = (do callWith pos (← eval func env) [] (backTo pos (starEach args env)) (backToKw pos (keywordEach [] env))) := by rfl) :
    wpC M A (eval (.Call func args [] pos) env) Q E s := by
  rw [he]; exact wpC_bindA h
theorem wpC_execs_nil {Q : Flow → Shared → Prop} (h : Q .next s) : wpC M A (execs [] env) Q E s := wpC_pure h
theorem wpC_execs_cons {st : Stmt} {rest : List Stmt} {Q : Flow → Shared → Prop}
    (h : wpC M A (exec st env) (fun f s' => match f with | .next => wpC M A (execs rest env) Q E s' | f => Q f s') E s) : wpC M A (execs (st :: rest) env) Q E s := by
  show wpC M A (exec st env >>= fun f => match f with | .next => execs rest env | f => pure f) Q E s
  refine wpC_bind (wpC_mono h (fun f s' hf => ?_) fun _ _ x => x)
  cases f with
  | next => exact hf
  | ret v => exact wpC_pure hf
  | brk => exact wpC_pure hf
  | cont => exact wpC_pure hf
theorem wpC_Return {e : Expr} {pos : Pos} {Q : Flow → Shared → Prop} (h : wpC M A (eval e env) (fun v s' => Q (.ret v) s') E s) : wpC M A (exec (.Return (some e) pos) env) Q E s := by
  show wpC M A (standAt pos >>= fun _ => eval e env >>= fun v => pure (.ret v)) Q E s
  exact wpC_standAt (wpC_bind (wpC_mono h (fun _ _ x => wpC_pure x) fun _ _ x => x))
theorem wpC_If {test : Expr} {body orelse : List Stmt} {pos : Pos} {Q : Flow → Shared → Prop}
    (h : wpAny M A (isTrue test env (eval test env)) (fun b s' => if b = true then wpC M A (execs body env) Q E s' else wpC M A (execs orelse env) Q E s') E s) : wpC M A (exec (.If test body orelse pos) env) Q E s := by
  show wpC M A (standAt pos >>= fun _ => isTrue test env (eval test env) >>= fun b => if b = true then execs body env else execs orelse env) Q E s
  refine wpC_standAt (wpC_bindA (wpAny_mono h (fun b s' hb => ?_) fun _ _ x => x))
  cases b <;> exact hb
theorem wpC_and_one {e : Expr} {pos : Pos} {Q : Value → Shared → Prop} (h : wpC M A (eval e env) Q E s) : wpC M A (eval (.BoolOp .And [e] pos) env) Q E s := h
theorem wpC_and_more {e e' : Expr} {rest : List Expr} {pos : Pos} {Q : Value → Shared → Prop}
    (h : wpC M A (eval e env) (fun v s' => wpAny M A (truthy v) (fun b s'' => if b = true then wpC M A (eval (.BoolOp .And (e' :: rest) pos) env) Q E s'' else Q v s'') E s') E s) : wpC M A (eval (.BoolOp .And (e :: e' :: rest) pos) env) Q E s := by
  show wpC M A (eval e env >>= fun v => standAt pos >>= fun _ => holding [v] (truthy v) >>= fun t => match BoolOp.And, t with
    | .And, false | .Or, true => pure v
    | _, _ => boolOp pos .And (evalEach (e' :: rest) env)) Q E s
  refine wpC_bind (wpC_mono h (fun v s' hv => wpC_standAt (wpC_bindA (wpAny_holding (wpAny_mono hv (fun b s'' hb => ?_) fun _ _ x => x)))) fun _ _ x => x)
  cases b with
  | true => exact hb
  | false => exact wpC_pure hb
end
end Mine

/- part P2 -/
namespace Mine
section
variable {M : Model} {A : Around} {E : Value → Shared → Prop} {s : Shared} {env : Env}
theorem wpC_Compare1 {l op r pos} {Q : Value → Shared → Prop}
    (h : wpC M A (eval l env) (fun a s₁ => wpAny M A (eval r env) (fun b s₂ => wpAny M A (compareOp op a b) Q E s₂) E s₁) E s)
    (hm : behindInMarks op r = false := by with_unfolding_all rfl) :
    wpC M A (eval (.Compare l [op] [r] pos) env) Q E s := fun Γ p hΓ hC => by
  simp only [eval_Compare1, markedBehindIn_of_false hm, Sem.wp_bind', Sem.wp_holding, Sem.wp_cmd_standAt, Sem.wp_operate]
  exact Sem.wp_mono M Γ _ (fun a p₁ s₁ h₁ => Sem.wp_mono M Γ _ (fun b _ s₂ h₂ => h₂ Γ _ hΓ) (fun _ _ _ h' => h') _ _ (h₁ Γ p₁ hΓ))
    (fun _ _ _ h' => h') _ _ (h Γ p hΓ hC)
theorem wpC_Assign_Name {x pos' value pos} {Q : Flow → Shared → Prop}
    (h : wpC M A (eval value env) (fun v s₁ => wpAny M A (storeName env x v) (fun _ => Q .next) E s₁) E s)
    (hs : swapsWith value (some (.Name x pos')) pos.line env = pure false := by rfl) :
    wpC M A (exec (.Assign [.Name x pos'] value pos) env) Q E s := fun Γ p hΓ hC => by
  simp only [exec_Assign_Name env x pos' value pos hs, Sem.wp_bind', Sem.wp_cmd_standAt, Sem.wp_bindName, Sem.wp_pure']
  exact Sem.wp_mono M Γ _ (fun v _ s₁ h₁ => h₁ Γ _ hΓ) (fun _ _ _ h' => h') _ _ (h Γ _ hΓ hC)
end
section
variable {prog : Program} {w : World} {A : Around} {s : Shared} {R : Result → Shared → Prop}
theorem codeC_func {body env}
    (h : wpC (model prog w) (A.deeper env) (execs body env) (fun f s' => R (.ok (.ret (match f with | .ret v => v | _ => .none))) s')
      (fun e s' => wpAny (model prog w) (A.deeper env) (leaving env e) (fun _ s'' => R (.error e) s'') (fun e' s'' => R (.error e') s'') s') s) :
    codeC (model prog w) A (.func body env) R s := by
  refine codeC_tree (ok_func _ _) ?_
  show wpC _ (A.deeper env) (point >>= fun _ => (execs body env).onRaise (leaving env) >>= fun f => match f with | .ret v => ret v | _ => ret .none) _ _ s
  refine wpC_bindA (wpAny_point (wpC_bind (wpC_onRaise (wpC_mono h (fun f s' h' => ?_) fun _ _ h' => h'))))
  cases f <;> exact wpC_pure h'
theorem codeC_call_function {a : Addr} {args : Args} {o : Obj} {fd : FuncData} {body : List Stmt} (hroom : A.depth < recursionLimit)
    (ho : s.heap.get? a = some o)
    (hd' : o.data = .func fd) (hco : fd.scope.isCoroutine = false) (hgen : fd.scope.isGenerator = false) (hbody : fd.body = .stmts body) (hcd : s.heap.CodeRec fd.code fd.qualname)
    (h : wpAny (model prog w) A.in1 (bindArgs fd args) (fun binds s₁ =>
      wpAny (model prog w) A.in1 (newFunctionEnv fd.scope fd.globals fd.closure binds (fd.qualname ++ ".<locals>.") (some a) fd.code none fd.builtins)
        (fun env s₂ => s₂.heap.NoLimit ∧ codeC (model prog w) A (.func body env) R s₂) (fun e s' => R (.error e) s') s₁) (fun e s' => R (.error e) s') s) :
    codeC (model prog w) A (.call (.ref a) args) R s := by
  refine codeC_tree (ok_call _ _) (wpC_of ?_)
  show wpAny _ A.in1 (callAny (.ref a) args) _ _ s
  simp only [callAny]
  refine wpAny_bind (wpAny_load ho ?_)
  obtain ⟨c, oc, vs, tq, hc, hoc, hdc, hq⟩ := hcd
  simp only [hd', callFunction, hco, hgen, hbody, hc]
  rw [hc] at h
  refine wpAny_bind (m := field (.ref c) 1) (wpAny_field hoc hdc hq (wpAny_bind (wpAny_pure ?_)))
  exact wpAny_bind (wpAny_mono h (fun binds s₁ h₁ => wpAny_bind (wpAny_mono h₁ (fun env s₂ h₂ => wpAny_bind (wpAny_enterFrame h₂.1 hroom
    (wpAny_pure (And.intro rfl h₂.2)))) fun _ _ h' => h')) fun _ _ h' => h')
theorem codeC_call_def {a : Addr} {o : Obj} {fd : FuncData} {body : List Stmt} {args : Args} {binds : List (Str × Value)}
    (hroom : A.depth < recursionLimit) (ho : s.heap.get? a = some o) (hdata : o.data = .func fd) (hlim : s.heap.NoLimit) (hcd : s.heap.CodeRec fd.code fd.qualname)
    (hbody : fd.body = .stmts body) (hbind : BindsTo s fd args binds)
    (hcell : ∀ x ∈ fd.scope.names, x.2 ≠ .cell) (hloc : ∀ x ∈ binds, fd.scope.names.lookup x.1 = some .local)
    (h : ∀ h₀, h₀.Ns s.heap.objs.size (fun x => binds.reverse.lookup x) → (∀ b o, s.heap.get? b = some o → h₀.get? b = some o) →
      wpC (model prog w) (A.deeper (callEnv fd s.heap.objs.size a)) (execs body (callEnv fd s.heap.objs.size a)) (fun f s' => R (.ok (.ret (match f with | .ret v => v | _ => .none))) s')
        (fun e s' => wpAny (model prog w) (A.deeper (callEnv fd s.heap.objs.size a)) (leaving (callEnv fd s.heap.objs.size a) e) (fun _ s'' => R (.error e) s'') (fun e' s'' => R (.error e') s'') s')
        { s with heap := h₀, toks := s.toks + binds.length })
    (hco : fd.scope.isCoroutine = false := by rfl) (hgen : fd.scope.isGenerator = false := by rfl) (hk : fd.scope.kind = .function := by rfl) :
    codeC (model prog w) A (.call (.ref a) args) R s := by
  refine codeC_call_function hroom ho hdata hco hgen hbody hcd (hbind _ _ _ _ ?_)
  refine wpAny_newFunctionEnv hcell hloc (fun h₀ hns₀ hsb₀ => ⟨hlim.fresh _ hsb₀, codeC_func (h h₀ hns₀ fun b o e => ?_)⟩) hk
  exact hsb₀.extBut b o (Nat.ne_of_lt (Heap.lt_size e)) (Heap.get?_push_of_some _ e)
end
end Mine

/- part S1 -/
namespace Mine
section
variable {prog : Program} {w : World} {A : Around} {E : Value → Shared → Prop} {s : Shared}

theorem range_loop {env : Env} {x : Str} {body : List Stmt} {Q : Flow → Shared → Prop} {g : Heap} {S r : Addr} {a b c : Int} {t₀ u₀ v₀ : Tok} {n : Nat} {m₀ : Str → Option Value} {arr₀ : Array UInt8} {ex : List (Addr × Obj)}
    (hh : A.handled = none) (hr : IsRange s.heap r a b c t₀ u₀ v₀) (hsmall : Builtin.Range.small a b c = true) (hn : Builtin.Range.rangeSize a b c = (n : Int))
    (F : Fr g env.locals s.heap m₀) (N : News g env.locals s.heap ((S, baObj arr₀) :: ex)) (J : Nat → (Str → Option Value) → Array UInt8 → Prop) (h0 : J 0 m₀ arr₀)
    (turn : ∀ i m₁ arr h tk t own, i < n → J i m₁ arr → Fr g env.locals h (fun y => if y = x then some (.int (a + i * c) t) else m₁ y) → News g env.locals h ((S, baObj arr) :: (own ++ ex)) → (∀ p ∈ own, p.1 ≠ S) →
      wpAny (model prog w) A (execs body env) (fun f s' => f = .next ∧ ∃ h' tk' m' arr', s' = { s with heap := h', toks := tk' } ∧ Fr g env.locals h' m' ∧ News g env.locals h' ((S, baObj arr') :: (own ++ ex)) ∧ J (i + 1) m' arr') E { s with heap := h, toks := tk })
    (done : ∀ h' tk m' arr, J n m' arr → Fr g env.locals h' m' → News g env.locals h' ((S, baObj arr) :: ex) → Q .next { s with heap := h', toks := tk }) :
    wpAny (model prog w) A (pyIter (.ref r)) (fun it s₂ => LoopAtV prog w A g env x body Q E it s₂) E s := by
  refine wpAny_pyIter_range hr hsmall ?_
  have W : Walks prog w A s.heap.objs.size [s.heap.objs.size] [s.heap.objs.size] n (fun i v => ∃ t, v = .int (a + i * c) t)
      (fun i h => IsRangeIter h s.heap.objs.size (a + (i : Nat) * c) ((n : Int) - (i : Nat)) c) := Walks.range hh _ a c n
  refine ⟨_, _, _, n, _, _, m₀, (S, baObj arr₀) :: ex, (fun i m₁ news₁ => ∃ arr, news₁ = (S, baObj arr) :: ex ∧ J i m₁ arr), rfl, W, ?_, ?_, ?_, (by show IsRangeIter _ _ _ _ _; rw [hn]; simpa using Heap.get?_push_size _ rfl), F.push _, (fun p hp => ⟨Heap.get?_push_of_some _ (N p hp).1, (N p hp).2⟩), ⟨arr₀, rfl, h0⟩, ?_, ?_⟩
  · intro hm
    exact absurd F.ns.lt ((List.mem_singleton.mp hm) ▸ Nat.lt_irrefl _)
  · intro b hb
    rw [List.mem_singleton.mp hb]
    exact next_is_new F
  · intro p hp hI
    exact absurd (Heap.lt_size (N p hp).1) ((List.mem_singleton.mp hI) ▸ Nat.lt_irrefl _)
  · rintro i v m₁ news₁ s₁ own ⟨hh', tk', rfl⟩ hin ⟨t, rfl⟩ ⟨arr, rfl, hJ⟩ hoff hown _ _ _ F₁ N₁
    have hS : ∀ p ∈ own, p.1 ≠ S := fun p hp e => hoff (S, baObj arr) (.head _) (by rw [← e]; exact hown p hp)
    have N₂ : News g env.locals hh' ((S, baObj arr) :: (own ++ ex)) := fun p hp => N₁ p (by
      simp only [List.mem_cons, List.mem_append] at hp ⊢
      rcases hp with h | h | h
      · exact .inr (.inl h)
      · exact .inl h
      · exact .inr (.inr h))
    refine wpAny_mono (turn i m₁ arr hh' tk' t own hin hJ F₁ N₂ hS) (fun f s₂ p => ?_) fun _ _ e => e
    obtain ⟨rfl, h', tk, m', arr', rfl, F', N', hJ'⟩ := p
    refine .next ⟨rfl, h', tk, m', (S, baObj arr') :: ex, rfl, F', (fun p hp => N' p ?_), (fun p hp => ?_), arr', rfl, hJ'⟩
    · simp only [List.mem_cons, List.mem_append] at hp ⊢
      rcases hp with h | h | h
      · exact .inr (.inl h)
      · exact .inl h
      · exact .inr (.inr h)
    · rcases List.mem_cons.mp hp with rfl | hp
      · exact hoff (S, baObj arr) (.head _)
      · exact hoff p (.tail _ hp)
  · rintro h' tk m' news' F' N' _ ⟨arr, rfl, hJ⟩
    exact done h' tk m' arr hJ F' N'

theorem range_3_zero {a b : Int} {t u v : Tok} {Q : Value → Shared → Prop} (hA : A.handled = none)
    (hq : ∀ h' tk e, Heap.NewExc s.heap h' e "ValueError" → E (.ref e) { s with heap := h', toks := tk }) :
    wpAny (model prog w) A (call (.type "range") [.int a t, .int b u, .int 0 v]) Q E s := by
  refine callType_codes (Q₁ := fun _ _ => False) F.called_range (F.typeCall_range_3 _ _ _) F.entry_object_init ?_ fun obj s₁ h₁ => h₁.elim
  refine codeAny_call_builtin F.called_range.plain F.entry_range_new (wpAny_of_eq (F.newCall_range_3 _ _ _) ?_)
  unfold Builtin.«range.__new__»
  refine wpAny_bind (wpAny_of_eq (a := true) rfl ?_)
  refine bm_if_false rfl ?_
  refine wpAny_bind (wpAny_of_eq F.called_range.sub ?_)
  refine bm_if_false rfl ?_
  refine wpAny_bind (wpAny_of_eq (a := [.int a t, .int b u, .int 0 v]) rfl ?_)
  refine wpAny_bind (wpAny_of_eq (a := .int a t) rfl ?_)
  refine wpAny_bind (wpAny_of_eq (a := .int b u) rfl ?_)
  refine wpAny_bind (wpAny_of_eq (a := .int 0 v) rfl ?_)
  refine wpAny_bind (wpAny_of_eq (a := some 0) rfl ?_)
  refine bm_if_true rfl ?_
  refine wpAny_bind (wpAny_rule ?_)
  exact wpAny_bind (wpAny_raiseErrorWords plainExc_ValueError hA hq)
end
end Mine

/- part S2 -/
namespace Mine
/-- the body, the names, the parameters of the n-th statement of the text, a def -/
def defBody (n : Nat) : List Stmt := match PySem.Challenge.pw_dz0133_01.main.body[n]? with | some (.FunctionDef _ _ b _ _ _ _ _ _ _) => b | _ => []
def defScope (n : Nat) : Scope := match PySem.Challenge.pw_dz0133_01.main.body[n]? with | some (.FunctionDef _ _ _ _ _ _ sc _ _ _) => sc | _ => PySem.Challenge.pw_dz0133_01.main.scope
def defParams (n : Nat) : Arguments := match PySem.Challenge.pw_dz0133_01.main.body[n]? with | some (.FunctionDef _ a _ _ _ _ _ _ _ _) => a | _ => { posonlyargs := [], args := [], vararg := none, kwonlyargs := [], kw_defaults := [], kwarg := none, defaults := [] }
def swOuter : List Stmt := match defBody 1 with | [_, .For _ _ b _ _, _] => b | _ => []
def swInner : List Stmt := match swOuter with | [.For _ _ b _ _] => b | _ => []

abbrev swEnv (L f : Addr) (cd : Value) : Env := envOf "_byteswap" (defScope 1) L f cd

/-- a buffer: bytes, or a bytearray -/
inductive IsBuf (h : Heap) (b : Array UInt8) : Value → Prop where
  | bytes (t : Tok) : IsBuf h b (.bytes b t)
  | ba (a : Addr) : h.get? a = some (baObj b) → IsBuf h b (.ref a)
theorem IsBuf.keeps {h h' : Heap} {b : Array UInt8} {v : Value} (x : IsBuf h b v) (k : ∀ a o, h.get? a = some o → h'.get? a = some o) : IsBuf h' b v := by
  cases x with
  | bytes t => exact .bytes t
  | ba a e => exact .ba a (k _ _ e)

section
variable {prog : Program} {w : World} {A : Around} {E : Value → Shared → Prop} {s : Shared}
theorem buf_len {b : Array UInt8} {v : Value} {Q : Value → Shared → Prop} (hb : IsBuf s.heap b v) (hz : b.size ≤ 16777216) (hq : Q (.int (b.size : Nat) (s.toks + 1)) { s with toks := s.toks + 1 + 1 }) :
    wpAny (model prog w) A (call (.builtin "len") [v]) Q E s := by
  cases hb with
  | bytes t => exact len_bytes (by omega) hq
  | ba a e => exact ba_len e hz hq
theorem buf_item {b : Array UInt8} {v : Value} {x sl : Str} {p q r u : Pos} {y : Str} {k : Int} {tk : Tok} {Q : Value → Shared → Prop} (hb : IsBuf s.heap b v) (hz : b.size ≤ 16777216) (h0 : 0 ≤ k) (h1 : k < (b.size : Int))
    (hq : Q (.int ((b.getD k.toNat 0).toNat : Nat) s.toks) { s with toks := s.toks + 1 }) :
    wpAny (model prog w) A (subscriptTail (.Name x p) (.BinOp (.Name y q) .Add (.Name sl r) u) v (.int k tk)) Q E s := by
  cases hb with
  | bytes t =>
    have e : b.toList.toArray = b := Array.toArray_toList
    have g : wpAny (model prog w) A (getItem (.bytes b.toList.toArray t) (.int k tk)) Q E s := by
      refine getItem_bytes (l := b.toList) (by simp; omega) h0 (by simpa using h1) ?_
      have e2 : b.toList.getD k.toNat 0 = b.getD k.toNat 0 := by
        rw [List.getD_eq_getElem?_getD, Array.getD_eq_getD_getElem?, Array.getElem?_toList]
      rw [e2]; exact hq
    rw [e] at g
    exact tail_any (typeIs_bytes _ _ _) FB.slot_bytes_getitem.lookup g (by with_unfolding_all rfl)
  | ba a e => exact ba_item e hz h0 h1 hq
end

/-- what the inner loop makes of the array: word k, after j turns -/
def innerF (b : Array UInt8) (wd k : Nat) (arr : Array UInt8) : Nat → Array UInt8
  | 0 => arr
  | j + 1 => (innerF b wd k arr j).setIfInBounds (k * wd + wd - 1 - j) (b.getD (k * wd + j) 0)
def outerF (b : Array UInt8) (wd : Nat) : Nat → Array UInt8
  | 0 => Array.replicate b.size 0
  | k + 1 => innerF b wd k (outerF b wd k) wd
theorem innerF_size {b arr : Array UInt8} {wd k : Nat} : ∀ j, (innerF b wd k arr j).size = arr.size
  | 0 => rfl
  | j + 1 => by rw [innerF, Array.size_setIfInBounds, innerF_size j]
theorem outerF_size {b : Array UInt8} {wd : Nat} : ∀ k, (outerF b wd k).size = b.size
  | 0 => Array.size_replicate
  | k + 1 => by rw [outerF, innerF_size, outerF_size k]

structure Loc (m : Str → Option Value) (v : Value) (wd : Int) (S : Addr) : Prop where
  data : m "data" = some v
  width : ∃ t, m "width" = some (.int wd t)
  sw : m "swapped_data" = some (.ref S)
theorem Loc.put {m : Str → Option Value} {v : Value} {wd : Int} {S : Addr} {x : Str} {y : Value} (h : Loc m v wd S) (h1 : x ≠ "data") (h2 : x ≠ "width") (h3 : x ≠ "swapped_data") : Loc (fun z => if z = x then some y else m z) v wd S :=
  ⟨by rw [if_neg (Ne.symm h1)]; exact h.data, by rw [if_neg (Ne.symm h2)]; exact h.width, by rw [if_neg (Ne.symm h3)]; exact h.sw⟩

section
variable {prog : Program} {w : World} {A : Around} {E : Value → Shared → Prop} {s : Shared} {g : Heap} {L f S : Addr} {cd v : Value} {m : Str → Option Value} {b arr : Array UInt8} {ex : List (Addr × Obj)}

/-- one turn of the inner loop: the store -/
theorem inner_turn {wd : Int} {i j : Int} {ti tj : Tok} {Q : Flow → Shared → Prop} (F : Fr g L s.heap m) (hl : Loc m v wd S) (hi : m "i" = some (.int i ti)) (hj : m "j" = some (.int j tj))
    (hb : IsBuf s.heap b v) (hz : b.size ≤ 16777216) (h0 : 0 ≤ i + j) (h1 : i + j < (b.size : Int))
    (hset : ∀ t k tk, wpAny (model prog w) A (setItem (.ref S) (.int (i + wd - 1 - j) t) (.int ((b.getD (i + j).toNat 0).toNat : Nat) k)) (fun _ s' => Q .next s') E { s with toks := tk }) :
    wpAny (model prog w) A (execs swInner (swEnv L f cd)) Q E s := by
  obtain ⟨tw, hwd⟩ := hl.width
  refine wpAny_execs_cons ?_
  refine wpAny_Assign_Subscript ?_
  refine Subscript_ ?_
  refine ld F hl.data ?_
  refine wpAny_BinOp (ld F hi (ld F hj (PyProof.Rows.add_int ?_)))
  refine buf_item hb hz h0 h1 ?_
  refine ld F hl.sw ?_
  refine wpAny_BinOp (wpAny_BinOp (wpAny_BinOp (ld F hi (ld F hwd (PyProof.Rows.add_int ?_)))))
  refine wpAny_Constant_int ?_
  refine PyProof.Rows.sub_int' ?_
  refine ld F hj ?_
  refine PyProof.Rows.sub_int' ?_
  refine wpAny_mono (hset _ _ _) (fun _ s' h => wpAny_execs_nil h) fun _ _ e => e
end
end Mine

/- part S3 -/
namespace Mine
/-- the built-in names that the text reads, and the room -/
structure Gl (h : Heap) : Prop where
  lim : h.NoLimit
  ns : ∃ mg mb, h.Ns mainGlobals mg ∧ h.Ns builtinsNs mb ∧
    (mg "bytearray" = none ∧ mg "len" = none ∧ mg "range" = none ∧ mg "bytes" = none ∧ mg "IndexError" = none ∧ mg "ValueError" = none) ∧
    (mb "bytearray" = some (.type "bytearray") ∧ mb "len" = some (.builtin "len") ∧ mb "range" = some (.type "range") ∧ mb "bytes" = some (.type "bytes") ∧ mb "IndexError" = some (.type "IndexError") ∧ mb "ValueError" = some (.type "ValueError"))
theorem Gl.keeps {h h' : Heap} (x : Gl h) (k : ∀ a o, h.get? a = some o → h'.get? a = some o) : Gl h' :=
  let ⟨mg, mb, g, b, r⟩ := x.ns
  ⟨x.lim.keeps k, mg, mb, g.keeps k, b.keeps k, r⟩
section
variable {M : Model} {A : Around} {E : Value → Shared → Prop} {s : Shared} {cn : Str} {cs : Scope} {L a : Addr} {ccd : Value} {cl : List (Str × Addr)} {pos : Pos} {Q : Value → Shared → Prop}
theorem name_blt {x : Str} {v : Value} (G : Gl s.heap) (hf : ∀ mg mb : Str → Option Value,
    (mg "bytearray" = none ∧ mg "len" = none ∧ mg "range" = none ∧ mg "bytes" = none ∧ mg "IndexError" = none ∧ mg "ValueError" = none) →
    (mb "bytearray" = some (.type "bytearray") ∧ mb "len" = some (.builtin "len") ∧ mb "range" = some (.type "range") ∧ mb "bytes" = some (.type "bytes") ∧ mb "IndexError" = some (.type "IndexError") ∧ mb "ValueError" = some (.type "ValueError")) → mg x = none ∧ mb x = some v) (h : Q v s)
    (hk : cs.kind = .function := by rfl) (hx : (envX cn cs L a ccd cl).kindOf x = some .globalImplicit := by rfl) (hd : (x == ("__debug__" : Str)) = false := by decide) :
    wpAny M A (eval (.Name x pos) (envX cn cs L a ccd cl)) Q E s := by
  obtain ⟨mg, mb, hg, hb, h1, h2⟩ := G.ns
  obtain ⟨e1, e2⟩ := hf mg mb h1 h2
  exact Name_function_global hk hx (loadGlobal_builtin (env := envX cn cs L a ccd cl) hg e1 hb e2 h) hd
end

theorem cast_idx {k wd j : Nat} (hj : j < wd) : ((0 : Int) + (k : Int) * (wd : Int) + (wd : Int) - 1 - (0 + (j : Int) * 1)).toNat = k * wd + wd - 1 - j := by
  rw [← Int.natCast_mul]
  generalize k * wd = q
  omega
theorem cast_idx2 {k wd j : Nat} : ((0 : Int) + (k : Int) * (wd : Int) + (0 + (j : Int) * 1)).toNat = k * wd + j := by
  rw [← Int.natCast_mul]
  generalize k * wd = q
  omega
theorem byte_of (c : UInt8) : c.toNat.toUInt8 = c := by simp

section
variable {prog : Program} {w : World} {A : Around} {E : Value → Shared → Prop} {s : Shared} {g : Heap} {L f S : Addr} {cd v : Value} {m : Str → Option Value} {b arr : Array UInt8} {ex : List (Addr × Obj)}

theorem news_set {h h' : Heap} {o o' : Obj} {own : List (Addr × Obj)} (N : News g L h ((S, o) :: own)) (ho : ∀ p ∈ own, p.1 ≠ S) (hS : h'.get? S = some o') (hs : Heap.SameBut S h h') : News g L h' ((S, o') :: own) := by
  intro p hp
  rcases List.mem_cons.mp hp with rfl | hp
  · exact ⟨hS, (N (S, o) (.head _)).2⟩
  · have z := N p (.tail _ hp)
    exact ⟨hs.extBut _ _ (ho p hp) z.1, z.2⟩
theorem fr_set {h h' : Heap} {o : Obj} {own : List (Addr × Obj)} (F : Fr g L h m) (N : News g L h ((S, o) :: own)) (hs : Heap.SameBut S h h') : Fr g L h' m := by
  have z := N (S, o) (.head _)
  exact ⟨F.ns.sameBut hs (Ne.symm z.2.1), fun b o e => hs.extBut b o (fun q => by rw [q, z.2.2] at e; cases e) (F.keep b o e), F.above⟩

theorem inner_loop {k wd : Nat} {ti : Tok} {Q : Flow → Shared → Prop} (hh : A.handled = none) (F : Fr g L s.heap m) (hl : Loc m v (wd : Int) S) (hi : m "i" = some (.int (0 + (k : Int) * (wd : Int)) ti)) (N : News g L s.heap ((S, baObj arr) :: ex)) (hex : ∀ p ∈ ex, p.1 ≠ S)
    (G : Gl g) (hb : IsBuf g b v) (hz : b.size ≤ 16777216) (hin : k * wd + wd ≤ b.size) (harr : arr.size = b.size) (hE : PassesOwn (model prog w) A (swEnv L f cd) E)
    (hq : ∀ h' tk m', Fr g L h' m' → Loc m' v (wd : Int) S → News g L h' ((S, baObj (innerF b wd k arr wd)) :: ex) → Q .next { s with heap := h', toks := tk }) :
    wpAny (model prog w) A (execs swOuter (swEnv L f cd)) Q E s := by
  obtain ⟨tw, hwd⟩ := hl.width
  refine wpAny_execs_cons ?_
  refine For_invV g (by rfl) (by rfl) ?_ (by intro _; rfl) hE
  refine Call_ ?_
  refine name_blt (G.keeps F.keep) (fun mg mb h1 h2 => ⟨h1.2.2.1, h2.2.2.1⟩) ?_
  refine PyProof.Rows.callWith_type1 ?_
  refine args_cons (ld F hwd (args_nil ?_))
  refine call_range_1 ?_
  have hsz : Builtin.Range.rangeSize 0 (wd : Int) 1 = (wd : Int) := by rw [rangeSize_one]; split <;> omega
  have hsm : Builtin.Range.small 0 (wd : Int) 1 = true := small_one (by omega) (by omega) (by omega) (by omega)
  refine range_loop (n := wd) hh (IsRange.new ..) hsm hsz (F.push _) (fun p hp => ⟨Heap.get?_push_of_some _ (N p hp).1, (N p hp).2⟩)
    (fun j m₁ a₁ => Loc m₁ v (wd : Int) S ∧ m₁ "i" = some (.int (0 + (k : Int) * (wd : Int)) ti) ∧ a₁ = innerF b wd k arr j) ⟨hl, hi, rfl⟩ ?_ ?_
  · rintro j m₁ a₁ h tk t own hj ⟨hl₁, hi₁, rfl⟩ F₁ N₁ hown
    have hw := hin
    have hS := (N₁ _ (.head _)).1
    have hoe : ∀ p ∈ own ++ ex, p.1 ≠ S := fun p hp => (List.mem_append.mp hp).elim (hown p) (hex p)
    refine inner_turn (i := 0 + (k : Int) * (wd : Int)) (j := 0 + (j : Int) * 1) F₁ (hl₁.put (by decide) (by decide) (by decide)) (by rw [if_neg (by decide)]; exact hi₁) (by rw [if_pos rfl]) (hb.keeps F₁.keep) hz ?_ ?_ ?_
    · rw [← Int.natCast_mul]; generalize k * wd = q at *; omega
    · rw [← Int.natCast_mul]; generalize k * wd = q at *; omega
    · intro t1 t2 tk'
      have hsz1 : (innerF b wd k arr j).size = b.size := by rw [innerF_size, harr]
      refine ba_setItem (s := { s with heap := h, toks := tk' }) hS (by rw [hsz1]; exact hz) ?_ ?_ (UInt8.toNat_lt _) fun h' hS' hs' => ?_
      · rw [← Int.natCast_mul]; generalize k * wd = q at *; omega
      · rw [hsz1, ← Int.natCast_mul]; generalize k * wd = q at *; omega
      · refine ⟨rfl, h', tk', _, _, rfl, fr_set F₁ N₁ hs', news_set N₁ hoe hS' hs', hl₁.put (by decide) (by decide) (by decide), by rw [if_neg (by decide)]; exact hi₁, ?_⟩
        rw [cast_idx hj, cast_idx2, byte_of]; rfl
  · rintro h' tk m' a₁ ⟨hl', _, rfl⟩ F' N'
    exact wpAny_execs_nil (hq h' tk m' F' hl' N')
end
end Mine

/- part S4 -/
namespace Mine
def swRest : List Stmt := match defBody 1 with | _ :: r => r | _ => []

theorem turns_pos {N wd T : Nat} (hw : 0 < wd) (h1 : N ≤ T * wd) (h2 : T * wd < N + wd) : Builtin.Range.rangeSize 0 (N : Int) (wd : Int) = (T : Int) := by
  unfold Builtin.Range.rangeSize
  rw [if_pos (by omega)]
  by_cases hN : N = 0
  · subst hN
    have : T = 0 := by
      cases T with
      | zero => rfl
      | succ T => rw [Nat.succ_mul] at h2; omega
    subst this
    rfl
  · rw [if_pos (by omega)]
    have hT : 0 < T := by
      cases T with
      | zero => simp at h1; omega
      | succ T => omega
    have e : ((N : Int) - 0 - 1) = ((N - 1 : Nat) : Int) := by omega
    rw [e, ← Int.natCast_ediv]
    have : (N - 1) / wd = T - 1 := by
      refine Nat.div_eq_of_lt_le ?_ ?_
      · rw [Nat.sub_mul, Nat.one_mul]; omega
      · rw [Nat.sub_add_cancel hT]; omega
    rw [this]
    omega
theorem turns_neg {N : Nat} {c : Int} (hc : c < 0) : Builtin.Range.rangeSize 0 (N : Int) c = ((0 : Nat) : Int) := by
  unfold Builtin.Range.rangeSize
  rw [if_neg (by omega), if_neg (by omega)]
  rfl
theorem small_of {N T : Nat} {c : Int} (hN : N ≤ 16777216) (hc : -16777216 ≤ c) (hc' : c ≤ 16777216) (hT : Builtin.Range.rangeSize 0 (N : Int) c = (T : Int)) (hT' : T ≤ 16777216) : Builtin.Range.small 0 (N : Int) c = true := by
  unfold Builtin.Range.small
  rw [hT]
  simp only [Builtin.Range.rangeFitsLong, Bool.and_eq_true, Bool.or_eq_true, decide_eq_true_eq, beq_iff_eq]
  refine ⟨⟨⟨⟨?_, ?_⟩, ?_⟩, ?_⟩, ?_⟩
  · omega
  · omega
  · omega
  · omega
  · refine .inr ?_
    split <;> (simp only [Bool.and_eq_true, decide_eq_true_eq]; omega)

section
variable {prog : Program} {w : World} {A : Around} {E : Value → Shared → Prop} {s : Shared} {g : Heap} {L f S : Addr} {cd v : Value} {m : Str → Option Value} {b : Array UInt8}

/-- the call of range in the outer loop's head -/
theorem outer_head {wd : Int} {x : Str} {body : List Stmt} {px pos p1 p2 p3 p4 p5 p6 p7 : Pos} {k3 : Nat} {Q : Flow → Shared → Prop} (F : Fr g L s.heap m) (hl : Loc m v wd S) (G : Gl g) (hb : IsBuf g b v) (hz : b.size ≤ 16777216) (hE : PassesOwn (model prog w) A (swEnv L f cd) E)
    (hx : (swEnv L f cd).kindOf x = some .local)
    (h : ∀ t0 t1 t2 tk, wpAny (model prog w) A (call (.type "range") [.int 0 t0, .int (b.size : Nat) t1, .int wd t2]) (fun xv s₁ => wpAny (model prog w) A (pyIter xv) (fun it s₂ => LoopAtV prog w A g (swEnv L f cd) x body Q E it s₂) E s₁) E { s with toks := tk }) :
    wpAny (model prog w) A (exec (.For (.Name x px) (.Call (.Name "range" p1) [.Constant (.int 0) k3 p2, .Call (.Name "len" p3) [.Name "data" p4] [] p5, .Name "width" p6] [] p7) body [] pos) (swEnv L f cd)) Q E s := by
  obtain ⟨tw, hwd⟩ := hl.width
  refine For_invV g hx (by rfl) ?_ (by intro _; rfl) hE
  refine Call_ ?_
  refine name_blt (G.keeps F.keep) (fun mg mb h1 h2 => ⟨h1.2.2.1, h2.2.2.1⟩) ?_
  refine PyProof.Rows.callWith_type1 ?_
  refine args_cons (wpAny_Constant_int ?_)
  refine args_cons (Call_ ?_)
  refine name_blt (s := { s with toks := _ }) (G.keeps F.keep) (fun mg mb h1 h2 => ⟨h1.2.1, h2.2.1⟩) ?_
  refine PyProof.Rows.callWith_builtin1 (args_cons (ld (s := { s with toks := _ }) F hl.data (args_nil ?_)))
  refine buf_len (hb.keeps F.keep) hz ?_
  refine args_cons (ld (s := { s with toks := _ }) F hwd (args_nil ?_))
  exact h _ _ _ _

theorem outer_ok {wd T : Nat} {Q : Flow → Shared → Prop} (hh : A.handled = none) (F : Fr g L s.heap m) (hl : Loc m v (wd : Int) S) (N : News g L s.heap [(S, baObj (Array.replicate b.size 0))])
    (G : Gl g) (hb : IsBuf g b v) (hz : b.size ≤ 65536) (hw : 0 < wd) (hw' : wd ≤ 65536) (hT : b.size = T * wd) (hE : PassesOwn (model prog w) A (swEnv L f cd) E)
    (hq : ∀ h' tk, (∀ a o, g.get? a = some o → h'.get? a = some o) → ∀ t, Q (.ret (.bytes (outerF b wd T) t)) { s with heap := h', toks := tk }) :
    wpAny (model prog w) A (execs swRest (swEnv L f cd)) Q E s := by
  have hTs : T ≤ 65536 := by
    rcases Nat.eq_zero_or_pos T with h | h
    · omega
    · have := Nat.le_mul_of_pos_right T hw; omega
  refine wpAny_execs_cons ?_
  refine outer_head (S := S) (b := b) F hl G hb (by omega) hE (by rfl) fun t0 t1 t2 tk => ?_
  refine call_range_3 (by omega) ?_ (Or.inl (PyProof.noPylong_small (by omega)))
  have hsz : Builtin.Range.rangeSize 0 (b.size : Int) (wd : Int) = (T : Int) := turns_pos hw (by omega) (by omega)
  refine range_loop (n := T) hh (IsRange.new ..) (small_of (by omega) (by omega) (by omega) hsz (by omega)) hsz (F.push _) (fun p hp => ⟨Heap.get?_push_of_some _ (N p hp).1, (N p hp).2⟩)
    (fun k m₁ a₁ => Loc m₁ v (wd : Int) S ∧ a₁ = outerF b wd k) ⟨hl, rfl⟩ ?_ ?_
  · rintro k m₁ a₁ h tk t own hk ⟨hl₁, rfl⟩ F₁ N₁ hown
    rw [List.append_nil] at N₁
    have hkw : k * wd + wd ≤ b.size := by
      rw [hT, ← Nat.succ_mul]; exact Nat.mul_le_mul_right _ hk
    refine inner_loop (k := k) (b := b) hh F₁ (hl₁.put (by decide) (by decide) (by decide)) (by rw [if_pos rfl]) N₁ hown G hb (by omega) hkw (outerF_size k) hE fun h' tk' m' F' hl' N' => ?_
    refine ⟨rfl, h', tk', m', _, rfl, F', by rw [List.append_nil]; exact N', hl', rfl⟩
  · rintro h' tk m' a₁ ⟨hl', rfl⟩ F' N'
    refine wpAny_execs_cons (wpAny_Return_some ?_)
    refine Call_ ?_
    refine name_blt (G.keeps F'.keep) (fun mg mb h1 h2 => ⟨h1.2.2.2.1, h2.2.2.2.1⟩) ?_
    refine PyProof.Rows.callWith_type1 (args_cons (ld (s := { s with heap := h', toks := tk }) F' hl'.sw (args_nil ?_)))
    refine bytes_of_ba (s := { s with heap := h', toks := tk }) (N' _ (.head _)).1 (by rw [outerF_size]; omega) fun t k => ?_
    exact hq h' k F'.keep t
theorem outer_neg {c : Int} {Q : Flow → Shared → Prop} (hh : A.handled = none) (F : Fr g L s.heap m) (hl : Loc m v c S) (N : News g L s.heap [(S, baObj (Array.replicate b.size 0))])
    (G : Gl g) (hb : IsBuf g b v) (hz : b.size ≤ 65536) (hc : c < 0) (hc' : -65536 ≤ c) (hE : PassesOwn (model prog w) A (swEnv L f cd) E)
    (hq : ∀ h' tk, (∀ a o, g.get? a = some o → h'.get? a = some o) → ∀ t, Q (.ret (.bytes (Array.replicate b.size 0) t)) { s with heap := h', toks := tk }) :
    wpAny (model prog w) A (execs swRest (swEnv L f cd)) Q E s := by
  refine wpAny_execs_cons ?_
  refine outer_head (S := S) (b := b) F hl G hb (by omega) hE (by rfl) fun t0 t1 t2 tk => ?_
  refine call_range_3 (by omega) ?_ (Or.inl (PyProof.noPylong_small (by omega)))
  have hsz : Builtin.Range.rangeSize 0 (b.size : Int) c = ((0 : Nat) : Int) := turns_neg hc
  refine range_loop (n := 0) hh (IsRange.new ..) (small_of (by omega) (by omega) (by omega) hsz (by omega)) hsz (F.push _) (fun p hp => ⟨Heap.get?_push_of_some _ (N p hp).1, (N p hp).2⟩)
    (fun k m₁ a₁ => Loc m₁ v c S ∧ a₁ = Array.replicate b.size 0) ⟨hl, rfl⟩ ?_ ?_
  · rintro k m₁ a₁ h tk t own hk _ _ _ _
    exact absurd hk (Nat.not_lt_zero _)
  · rintro h' tk m' a₁ ⟨hl', rfl⟩ F' N'
    refine wpAny_execs_cons (wpAny_Return_some ?_)
    refine Call_ ?_
    refine name_blt (G.keeps F'.keep) (fun mg mb h1 h2 => ⟨h1.2.2.2.1, h2.2.2.2.1⟩) ?_
    refine PyProof.Rows.callWith_type1 (args_cons (ld (s := { s with heap := h', toks := tk }) F' hl'.sw (args_nil ?_)))
    refine bytes_of_ba (s := { s with heap := h', toks := tk }) (N' _ (.head _)).1 (by rw [Array.size_replicate]; omega) fun t k => ?_
    exact hq h' k F'.keep t
theorem outer_zero {Q : Flow → Shared → Prop} (hh : A.handled = none) (F : Fr g L s.heap m) (hl : Loc m v 0 S) (G : Gl g) (hb : IsBuf g b v) (hz : b.size ≤ 65536) (hE : PassesOwn (model prog w) A (swEnv L f cd) E)
    (hq : ∀ h' tk e, Heap.NewExc s.heap h' e "ValueError" → E (.ref e) { s with heap := h', toks := tk }) :
    wpAny (model prog w) A (execs swRest (swEnv L f cd)) Q E s := by
  refine wpAny_execs_cons ?_
  refine outer_head (S := S) (b := b) F hl G hb (by omega) hE (by rfl) fun t0 t1 t2 tk => ?_
  exact range_3_zero hh hq
end
end Mine

/- part S5 -/
namespace Mine
section
variable {prog : Program} {w : World} {A : Around} {E : Value → Shared → Prop} {s : Shared} {g : Heap} {L f S : Addr} {cd v : Value} {m : Str → Option Value} {b arr : Array UInt8} {ex : List (Addr × Obj)}

theorem inner_raise {k wd : Nat} {ti : Tok} {Q : Flow → Shared → Prop} (hh : A.handled = none) (F : Fr g L s.heap m) (hl : Loc m v (wd : Int) S) (hi : m "i" = some (.int (0 + (k : Int) * (wd : Int)) ti)) (N : News g L s.heap ((S, baObj arr) :: ex))
    (G : Gl g) (hb : IsBuf g b v) (hz : b.size ≤ 65536) (hw : wd ≤ 65536) (hw0 : 0 < wd) (hin : k * wd < b.size) (hout : b.size < k * wd + wd) (harr : arr.size = b.size) (hE : PassesOwn (model prog w) A (swEnv L f cd) E)
    (hq : ∀ h h' tk e m₁, Fr g L h m₁ → Heap.NewExc h h' e "IndexError" → E (.ref e) { s with heap := h', toks := tk }) :
    wpAny (model prog w) A (execs swOuter (swEnv L f cd)) Q E s := by
  obtain ⟨tw, hwd⟩ := hl.width
  refine wpAny_execs_cons ?_
  refine For_invV g (by rfl) (by rfl) ?_ (by intro _; rfl) hE
  refine Call_ ?_
  refine name_blt (G.keeps F.keep) (fun mg mb h1 h2 => ⟨h1.2.2.1, h2.2.2.1⟩) ?_
  refine PyProof.Rows.callWith_type1 ?_
  refine args_cons (ld F hwd (args_nil ?_))
  refine call_range_1 ?_
  have hsz : Builtin.Range.rangeSize 0 (wd : Int) 1 = (wd : Int) := by rw [rangeSize_one]; split <;> omega
  have hsm : Builtin.Range.small 0 (wd : Int) 1 = true := small_one (by omega) (by omega) (by omega) (by omega)
  refine range_loop (n := wd) hh (IsRange.new ..) hsm hsz (F.push _) (fun p hp => ⟨Heap.get?_push_of_some _ (N p hp).1, (N p hp).2⟩)
    (fun j m₁ a₁ => j = 0 ∧ Loc m₁ v (wd : Int) S ∧ m₁ "i" = some (.int (0 + (k : Int) * (wd : Int)) ti) ∧ a₁ = arr) ⟨rfl, hl, hi, rfl⟩ ?_ ?_
  · rintro j m₁ a₁ h tk t own hj ⟨rfl, hl₁, hi₁, rfl⟩ F₁ N₁ hown
    have hS := (N₁ _ (.head _)).1
    refine inner_turn (i := 0 + (k : Int) * (wd : Int)) (j := 0 + ((0 : Nat) : Int) * 1) F₁ (hl₁.put (by decide) (by decide) (by decide)) (by rw [if_neg (by decide)]; exact hi₁) (by rw [if_pos rfl]) (hb.keeps F₁.keep) (by omega) ?_ ?_ ?_
    · rw [← Int.natCast_mul]; generalize k * wd = q at *; omega
    · rw [← Int.natCast_mul]; generalize k * wd = q at *; omega
    · intro t1 t2 tk'
      refine ba_setItem_out (s := { s with heap := h, toks := tk' }) hh hS ?_ ?_ ?_ (UInt8.toNat_lt _) fun h' tk e hx => hq h h' tk e _ F₁ hx
      · rw [← Int.natCast_mul]; generalize k * wd = q at *; omega
      · rw [harr, ← Int.natCast_mul]; generalize k * wd = q at *; omega
      · rw [← Int.natCast_mul]; generalize k * wd = q at *; omega
  · rintro h' tk m' a₁ ⟨h0, _⟩ F' N'
    omega

theorem outer_raise {wd n : Nat} {Q : Flow → Shared → Prop} (hh : A.handled = none) (F : Fr g L s.heap m) (hl : Loc m v (wd : Int) S) (N : News g L s.heap [(S, baObj (Array.replicate b.size 0))])
    (G : Gl g) (hb : IsBuf g b v) (hz : b.size ≤ 65536) (hw' : wd ≤ 65536) (hlo : n * wd < b.size) (hhi : b.size < n * wd + wd) (hE : PassesOwn (model prog w) A (swEnv L f cd) E)
    (hq : ∀ h h' tk e m₁, Fr g L h m₁ → Heap.NewExc h h' e "IndexError" → E (.ref e) { s with heap := h', toks := tk }) :
    wpAny (model prog w) A (execs swRest (swEnv L f cd)) Q E s := by
  have hw : 0 < wd := by omega
  have hTs : n ≤ 65535 := by
    rcases Nat.eq_zero_or_pos n with h | h
    · omega
    · have := Nat.le_mul_of_pos_right n hw; omega
  refine wpAny_execs_cons ?_
  refine outer_head (S := S) (b := b) F hl G hb (by omega) hE (by rfl) fun t0 t1 t2 tk => ?_
  refine call_range_3 (by omega) ?_ (Or.inl (PyProof.noPylong_small (by omega)))
  have hsz : Builtin.Range.rangeSize 0 (b.size : Int) (wd : Int) = ((n + 1 : Nat) : Int) := turns_pos hw (by rw [Nat.succ_mul]; omega) (by rw [Nat.succ_mul]; omega)
  refine range_loop (n := n + 1) hh (IsRange.new ..) (small_of (by omega) (by omega) (by omega) hsz (by omega)) hsz (F.push _) (fun p hp => ⟨Heap.get?_push_of_some _ (N p hp).1, (N p hp).2⟩)
    (fun k m₁ a₁ => k ≤ n ∧ Loc m₁ v (wd : Int) S ∧ a₁ = outerF b wd k) ⟨Nat.zero_le _, hl, rfl⟩ ?_ ?_
  · rintro k m₁ a₁ h tk t own hk ⟨hkn, hl₁, rfl⟩ F₁ N₁ hown
    rw [List.append_nil] at N₁
    rcases Nat.lt_or_ge k n with hlt | hge
    · have hkw : k * wd + wd ≤ b.size := by
        rw [← Nat.succ_mul]
        exact Nat.le_trans (Nat.mul_le_mul_right _ hlt) (Nat.le_of_lt hlo)
      refine inner_loop (k := k) (b := b) hh F₁ (hl₁.put (by decide) (by decide) (by decide)) (by rw [if_pos rfl]) N₁ hown G hb (by omega) hkw (outerF_size k) hE fun h' tk' m' F' hl' N' => ?_
      refine ⟨rfl, h', tk', m', _, rfl, F', by rw [List.append_nil]; exact N', hlt, hl', rfl⟩
    · obtain rfl : k = n := Nat.le_antisymm hkn hge
      exact inner_raise (k := k) (b := b) hh F₁ (hl₁.put (by decide) (by decide) (by decide)) (by rw [if_pos rfl]) N₁ G hb (by omega) (by omega) hw hlo hhi (outerF_size k) hE fun h h' tk e m₁ F' hx => hq h h' tk e m₁ F' hx
  · rintro h' tk m' a₁ ⟨hk, _⟩ F' N'
    omega
end
section
variable {prog : Program} {w : World} {A : Around} {E : Value → Shared → Prop} {s : Shared} {g : Heap} {L f : Addr} {cd v : Value} {m : Str → Option Value} {b : Array UInt8}
/-- the first statement: the bytearray is made -/
theorem swap_start {wd : Int} {Q : Flow → Shared → Prop} (hG : A.guards = some []) (F : Fr g L s.heap m) (hd : m "data" = some v) (hwd : ∃ t, m "width" = some (.int wd t)) (G : Gl g) (hb : IsBuf g b v) (hz : b.size ≤ 65536)
    (h : ∀ S h' tk m', Fr g L h' m' → Loc m' v wd S → News g L h' [(S, baObj (Array.replicate b.size 0))] → wpAny (model prog w) A (execs swRest (swEnv L f cd)) Q E { s with heap := h', toks := tk }) :
    wpC (model prog w) A (execs (defBody 1) (swEnv L f cd)) Q E s := by
  refine wpC_execs_cons ?_
  refine wpC_Assign_Name ?_
  refine wpC_Call ?_
  refine name_blt (G.keeps F.keep) (fun mg mb h1 h2 => ⟨h1.1, h2.1⟩) ?_
  refine wpC_callWith_type (wpC_args_cons (wpC_of ?_))
  refine Call_ ?_
  refine name_blt (G.keeps F.keep) (fun mg mb h1 h2 => ⟨h1.2.1, h2.2.1⟩) ?_
  refine PyProof.Rows.callWith_builtin1 (args_cons (ld F hd (args_nil ?_)))
  refine buf_len (hb.keeps F.keep) (by omega) (wpC_args_nil ?_)
  refine ba_of_int hG (by omega) (by omega) fun S h' hS hS' hk => ?_
  have F₁ : Fr g L h' m := F.keeps hk
  have hSL : S ≠ L := fun e => by
    obtain ⟨o, _, _, ho, _⟩ := F.ns
    rw [e, ho] at hS; cases hS
  have hSg : g.get? S = none := by
    cases q : g.get? S with
    | none => rfl
    | some o => have := F.keep _ _ q; rw [hS] at this; cases this
  have N₁ : News g L h' [(S, baObj (Array.replicate b.size 0))] := fun p hp => by
    obtain rfl := List.mem_singleton.mp hp
    exact ⟨hS', hSL, hSg⟩
  refine stN (s := { s with heap := h', toks := _ }) F₁ N₁ fun h'' F₂ N₂ => wpC_of ?_
  obtain ⟨t, ht⟩ := hwd
  exact h S h'' _ _ F₂ ⟨by rw [if_neg (by decide)]; exact hd, ⟨t, by rw [if_neg (by decide)]; exact ht⟩, by rw [if_pos rfl]⟩ N₂
end
end Mine

/- part S6 -/
namespace Mine
/-- the n-th statement's def stands at f -/
def FnAt (h : Heap) (n : Nat) (nm : Str) (f : Addr) (cdv : Value) : Prop :=
  ∃ o doc pm an ct, h.get? f = some o ∧ o.data = .func (fnOf nm nm (defParams n) (defBody n) (defScope n) .none .none doc pm an cdv ct) ∧ h.CodeRec cdv nm
theorem FnAt.keeps {h h' : Heap} {n : Nat} {nm : Str} {f : Addr} {cdv : Value} (x : FnAt h n nm f cdv) (k : ∀ a o, h.get? a = some o → h'.get? a = some o) : FnAt h' n nm f cdv :=
  let ⟨o, doc, pm, an, ct, e, r, c⟩ := x
  ⟨o, doc, pm, an, ct, k _ _ e, r, c.keeps k⟩
theorem sw_nocell : ∀ x ∈ (defScope 1).names, x.2 ≠ .cell := by decide
theorem sw_binds {v u : Value} : ∀ x ∈ [((("data" : Str)), v), (("width" : Str), u)], (defScope 1).names.lookup x.1 = some .local := locs rfl
abbrev frs (l : List Env) : List Addr := l.filterMap (·.frame)
section
variable {prog : Program} {w : World} {A : Around} {E : Value → Shared → Prop} {s : Shared} {f : Addr} {cdv v : Value} {b : Array UInt8}

/-- into the def -/
theorem swap_enter {wd : Int} {t : Tok} {Q : Value → Shared → Prop} (hG : A.guards = some []) (hroom : A.depth < recursionLimit) (G : Gl s.heap) (X : FnAt s.heap 1 "_byteswap" f cdv) (hb : IsBuf s.heap b v) (hz : b.size ≤ 65536)
    (h : ∀ L S h' tk m', L = s.heap.objs.size → Fr s.heap L h' m' → Loc m' v wd S → News s.heap L h' [(S, baObj (Array.replicate b.size 0))] →
      wpAny (model prog w) (A.deeper (swEnv L f cdv)) (execs swRest (swEnv L f cdv)) (fun fl s' => Q (match fl with | .ret v => v | _ => .none) s')
        (fun e s' => wpAny (model prog w) (A.deeper (swEnv L f cdv)) (leaving (swEnv L f cdv) e) (fun _ s'' => E e s'') (fun e' s'' => E e' s'') s') { s with heap := h', toks := tk }) :
    wpC (model prog w) A (call (.ref f) [v, .int wd t]) Q E s := by
  obtain ⟨o, doc, pm, an, ct, ho, hd, hcd⟩ := X
  refine wpC_call (codeC_call_def hroom ho hd G.lim hcd rfl (binds := [("data", v), ("width", .int wd t)]) (BindsTo.of_eq rfl) sw_nocell sw_binds fun h₁ hns hk => ?_)
  have F : Fr s.heap s.heap.objs.size h₁ _ := ⟨hns, hk, Nat.le_refl _⟩
  exact swap_start (s := { s with heap := h₁, toks := _ }) hG F (by rfl) ⟨t, by rfl⟩ G hb hz fun S h' tk m' F' hl N' => h _ S h' tk m' rfl F' hl N'

theorem swap_ok {wd T : Nat} {t : Tok} {Q : Value → Shared → Prop} (hG : A.guards = some []) (hh : A.handled = none) (hroom : A.depth < recursionLimit) (G : Gl s.heap) (X : FnAt s.heap 1 "_byteswap" f cdv) (hb : IsBuf s.heap b v) (hz : b.size ≤ 65536)
    (hw : 0 < wd) (hw' : wd ≤ 65536) (hT : b.size = T * wd)
    (hq : ∀ h' tk t, (∀ a o, s.heap.get? a = some o → h'.get? a = some o) → Q (.bytes (outerF b wd T) t) { s with heap := h', toks := tk }) :
    wpC (model prog w) A (call (.ref f) [v, .int (wd : Int) t]) Q E s :=
  swap_enter hG hroom G X hb hz fun _ _ h' tk _ _ F' hl N' =>
    outer_ok (s := { s with heap := h', toks := tk }) (b := b) hh F' hl N' G hb hz hw hw' hT PassesOwn.leaving fun h'' tk' hk t => hq h'' tk' t hk
theorem swap_neg {c : Int} {t : Tok} {Q : Value → Shared → Prop} (hG : A.guards = some []) (hh : A.handled = none) (hroom : A.depth < recursionLimit) (G : Gl s.heap) (X : FnAt s.heap 1 "_byteswap" f cdv) (hb : IsBuf s.heap b v) (hz : b.size ≤ 65536)
    (hc : c < 0) (hc' : -65536 ≤ c)
    (hq : ∀ h' tk t, (∀ a o, s.heap.get? a = some o → h'.get? a = some o) → Q (.bytes (Array.replicate b.size 0) t) { s with heap := h', toks := tk }) :
    wpC (model prog w) A (call (.ref f) [v, .int c t]) Q E s :=
  swap_enter hG hroom G X hb hz fun _ _ h' tk _ _ F' hl N' =>
    outer_neg (s := { s with heap := h', toks := tk }) (b := b) hh F' hl N' G hb hz hc hc' PassesOwn.leaving fun h'' tk' hk t => hq h'' tk' t hk
theorem swap_zero {t : Tok} {outer : List Env} {Q : Value → Shared → Prop} (hG : A.guards = some []) (hh : A.handled = none) (hroom : A.depth < recursionLimit) (hfr : A.frames = some outer) (hff : s.heap.FunFrames (hideAll s.heap (frs outer)) outer)
    (G : Gl s.heap) (X : FnAt s.heap 1 "_byteswap" f cdv) (hb : IsBuf s.heap b v) (hz : b.size ≤ 65536)
    (hE : ∀ e h' tk, RaisedN (hideAll s.heap (frs outer)) outer e (.type "ValueError") [] h' → s.heap.UpToSlots h' → E (.ref e) { s with heap := h', toks := tk }) :
    wpC (model prog w) A (call (.ref f) [v, .int 0 t]) Q E s := by
  have K : Below A (hideAll s.heap (frs outer)) outer s.heap := ⟨hfr, fun b o e => of_hideAll _ e, hff⟩
  exact swap_enter hG hroom G X hb hz fun _ _ h' tk _ _ F' hl N' =>
    outer_zero (s := { s with heap := h', toks := tk }) (b := b) hh F' hl G hb hz PassesOwn.leaving fun h'' tk' e hx =>
      leave_newK (s' := { s with heap := h'', toks := tk' }) K hx F' News.nil fun h₃ R U => hE e h₃ tk' R U
theorem swap_loose {wd n : Nat} {t : Tok} {outer : List Env} {Q : Value → Shared → Prop} (hG : A.guards = some []) (hh : A.handled = none) (hroom : A.depth < recursionLimit) (hfr : A.frames = some outer) (hff : s.heap.FunFrames (hideAll s.heap (frs outer)) outer)
    (G : Gl s.heap) (X : FnAt s.heap 1 "_byteswap" f cdv) (hb : IsBuf s.heap b v) (hz : b.size ≤ 65536) (hw' : wd ≤ 65536) (hlo : n * wd < b.size) (hhi : b.size < n * wd + wd)
    (hE : ∀ e h' tk, RaisedN (hideAll s.heap (frs outer)) outer e (.type "IndexError") [] h' → s.heap.UpToSlots h' → E (.ref e) { s with heap := h', toks := tk }) :
    wpC (model prog w) A (call (.ref f) [v, .int (wd : Int) t]) Q E s := by
  have K : Below A (hideAll s.heap (frs outer)) outer s.heap := ⟨hfr, fun b o e => of_hideAll _ e, hff⟩
  exact swap_enter hG hroom G X hb hz fun _ _ h' tk _ _ F' hl N' =>
    outer_raise (s := { s with heap := h', toks := tk }) (b := b) hh F' hl N' G hb hz hw' hlo hhi PassesOwn.leaving fun h₂ h'' tk' e m₁ F₂ hx =>
      leave_newK (s' := { s with heap := h'', toks := tk' }) K hx F₂ News.nil fun h₃ R U => hE e h₃ tk' R U
end
end Mine

/- part T1 -/
namespace Mine
/-- a global name -/
def GAt (h : Heap) (x : Str) (v : Value) : Prop := ∃ mg, h.Ns mainGlobals mg ∧ mg x = some v
theorem GAt.keeps {h h' : Heap} {x : Str} {v : Value} (y : GAt h x v) (k : ∀ a o, h.get? a = some o → h'.get? a = some o) : GAt h' x v :=
  let ⟨mg, g, e⟩ := y
  ⟨mg, g.keeps k, e⟩
section
variable {M : Model} {A : Around} {E : Value → Shared → Prop} {s : Shared} {cn : Str} {cs : Scope} {L a : Addr} {ccd : Value} {cl : List (Str × Addr)} {pos : Pos}
theorem name_glob {x : Str} {v : Value} {Q : Value → Shared → Prop} (G : GAt s.heap x v) (h : Q v s)
    (hk : cs.kind = .function := by rfl) (hx : (envX cn cs L a ccd cl).kindOf x = some .globalImplicit := by rfl) (hd : (x == ("__debug__" : Str)) = false := by decide) :
    wpAny M A (eval (.Name x pos) (envX cn cs L a ccd cl)) Q E s := by
  obtain ⟨mg, hg, e⟩ := G
  exact Name_function_global hk hx (loadGlobal_global (env := envX cn cs L a ccd cl) hg e h) hd
theorem fn_keeper {n : Nat} {nm : Str} {f : Addr} {cdv : Value} (h : Heap) (X : FnAt h n nm f cdv) : ∃ k, (k = Keeper.frame ∨ k = Keeper.machine) ∧ Looks M h (keeperOf (.ref f)) k := by
  obtain ⟨⟨c, d, dt, sl⟩, doc, pm, an, ct, ho, hd, _⟩ := X
  obtain rfl : dt = _ := hd
  exact ⟨.frame, .inl rfl, (Looks.ld (part := none) ho).andThen .now⟩
theorem wpC_callWith_fn {n : Nat} {nm : Str} {f : Addr} {cdv : Value} {env : Env} {e : Expr} {rest : List Expr} {Q : Value → Shared → Prop}
    (h : wpC M A (spliced (backTo pos (starEach (e :: rest) env))) (fun vs s₁ => FnAt s₁.heap n nm f cdv ∧ wpC M A (call (.ref f) vs) Q E s₁) E s)
    (he : starEach (e :: rest) env = (false, eval e env) :: starEach rest env := by rfl) (hplain : (backTo pos (starEach rest env)).any (·.1) = false := by rfl) :
    wpC M A (callWith pos (.ref f) [] (backTo pos (starEach (e :: rest) env)) []) Q E s := by
  rw [he] at h ⊢
  exact wpC_callWith_of (P := fun h => FnAt h n nm f cdv) (by show (false || (backTo pos (starEach rest env)).any (·.1)) = false; rw [hplain]; rfl) (fun h X => fn_keeper h X) (wpC_evalArgs h)
theorem wpC_Try {env : Env} {body orelse : List Stmt} {h₀ : ExceptHandler} {hs : List ExceptHandler} {Q : Flow → Shared → Prop}
    (h : wpC M A (execs body env) (fun f s₁ => match f with | .next => wpC M A (execs orelse env) Q E s₁ | f => Q f s₁)
      (fun e s₁ => wpAny M A (noteFrame e env) (fun _ s₂ => wpAny M A (setFlight e none) (fun _ s₃ => wpAny M A (handleBy e env (h₀ :: hs)) Q E s₃) E s₂) E s₁) s) :
    wpC M A (exec (.Try body (h₀ :: hs) orelse [] pos) env) Q E s := by
  rw [arm_exec_Try]
  refine wpC_standAt ?_
  unfold tryStmt
  simp only [List.isEmpty_nil, if_true, List.isEmpty_cons, Bool.false_and, Bool.false_eq_true, if_false]
  refine wpC_bind (wpC_attempt (wpC_mono h (fun f s₁ h₁ => ?_) fun e s₁ h₁ => ?_))
  · cases f <;> first | exact h₁ | exact wpC_pure h₁
  · exact wpC_of (wpAny_bind (wpAny_mono h₁ (fun _ _ h₂ => wpAny_bind h₂) fun _ _ x => x))
end

def tnHandlers : List ExceptHandler := match defBody 5 with | [.Try _ hs _ _ _] => hs | _ => []
abbrev tnEnv (L f : Addr) (cd : Value) : Env := envOf "_law_turn" (defScope 5) L f cd
namespace X
theorem exc_Index : isSubtype (.type "IndexError") (.type "BaseException") = pure true := by rw [isSubtype_type]; kernel_rfl
theorem exc_Value : isSubtype (.type "ValueError") (.type "BaseException") = pure true := by rw [isSubtype_type]; kernel_rfl
theorem nt_Index : isSubtype (.type ((Manifest.find? "IndexError").elim "type" fun x => x.metatype)) (.type "tuple") = pure false := by
  rw [show ((Manifest.find? "IndexError").elim "type" fun x => x.metatype) = "type" from by kernel_rfl, isSubtype_type]; kernel_rfl
theorem nt_Value : isSubtype (.type ((Manifest.find? "ValueError").elim "type" fun x => x.metatype)) (.type "tuple") = pure false := by
  rw [show ((Manifest.find? "ValueError").elim "type" fun x => x.metatype) = "type" from by kernel_rfl, isSubtype_type]; kernel_rfl
theorem sub_II : isSubtype (.type "IndexError") (.type "IndexError") = pure true := by rw [isSubtype_type]; kernel_rfl
theorem sub_VV : isSubtype (.type "ValueError") (.type "ValueError") = pure true := by rw [isSubtype_type]; kernel_rfl
theorem sub_VI : isSubtype (.type "ValueError") (.type "IndexError") = pure false := by rw [isSubtype_type]; kernel_rfl
end X
section
variable {prog : Program} {w : World} {A₀ : Around} {E : Value → Shared → Prop} {s' : Shared} {base : Heap} {outer : List Env} {L a e : Addr} {cd : Value} {np np2 hp hp2 : Pos} {b₀ b₁ : Stmt} {suite suite1 : List Stmt} {rest : List ExceptHandler} {Q : Flow → Shared → Prop}
theorem caught_1 (hfr : A₀.frames = some outer) (R : RaisedN base (tnEnv L a cd :: outer) e (.type "IndexError") [] s'.heap) (G : Gl base)
    (k : ∀ h', base.StaysIn h' → s'.heap.UpToSlots h' → wpAny (model prog w) ((A₀.deeper (tnEnv L a cd)).mark (some (.ref e))) (execs (b₀ :: suite) (tnEnv L a cd)) Q E { s' with heap := h' })
    (hE : PassesOwnAt (model prog w) ((A₀.deeper (tnEnv L a cd)).mark (some (.ref e))) (A₀.deeper (tnEnv L a cd)) (tnEnv L a cd) E) :
    wpAny (model prog w) (A₀.deeper (tnEnv L a cd)) (noteFrame (.ref e) (tnEnv L a cd))
      (fun _ s₂ => wpAny (model prog w) (A₀.deeper (tnEnv L a cd)) (setFlight (.ref e) none) (fun _ s₃ =>
        wpAny (model prog w) (A₀.deeper (tnEnv L a cd)) (handleBy (.ref e) (tnEnv L a cd) (.ExceptHandler (some (.Name "IndexError" np)) none (b₀ :: suite) hp :: rest)) Q E s₃) E s₂) E s' := by
  obtain ⟨B, a0, hB, hl, hfl⟩ := R
  refine wpAny_looks_onW (Around.frames_deeper hfr) rfl hfl fun h₄ hheld₄ hsm₄ => ?_
  refine wpAny_landsW hheld₄ fun h₅ hheld hsm₅' => ?_
  have hsm₅ := hsm₄.trans hsm₅'
  have hheld' := flyingW_base hB hheld
  obtain ⟨ob, hob, hobc⟩ := hheld'.there
  refine wpAny_handleBy_builtin (X := "IndexError") (T := "IndexError") (b := true) X.exc_Index X.nt_Index X.sub_II (name_blt (G.keeps hheld'.1) (fun mg mb h1 h2 => ⟨h1.2.2.2.2.1, h2.2.2.2.2.1⟩) ⟨rfl, ⟨ob, hob, hobc⟩, ?_⟩)
  refine lands_againW hheld fun h₆ hfl₆ hsm₆ => ?_
  exact wpAny_passesOwnAt hE (k h₆ (flyingW_base hB hfl₆).1 (hsm₅.trans hsm₆))
theorem caught_2 (hfr : A₀.frames = some outer) (R : RaisedN base (tnEnv L a cd :: outer) e (.type "ValueError") [] s'.heap) (G : Gl base)
    (k : ∀ h', base.StaysIn h' → s'.heap.UpToSlots h' → wpAny (model prog w) ((A₀.deeper (tnEnv L a cd)).mark (some (.ref e))) (execs (b₁ :: suite1) (tnEnv L a cd)) Q E { s' with heap := h' })
    (hE : PassesOwnAt (model prog w) ((A₀.deeper (tnEnv L a cd)).mark (some (.ref e))) (A₀.deeper (tnEnv L a cd)) (tnEnv L a cd) E) :
    wpAny (model prog w) (A₀.deeper (tnEnv L a cd)) (noteFrame (.ref e) (tnEnv L a cd))
      (fun _ s₂ => wpAny (model prog w) (A₀.deeper (tnEnv L a cd)) (setFlight (.ref e) none) (fun _ s₃ =>
        wpAny (model prog w) (A₀.deeper (tnEnv L a cd)) (handleBy (.ref e) (tnEnv L a cd) (.ExceptHandler (some (.Name "IndexError" np)) none (b₀ :: suite) hp :: .ExceptHandler (some (.Name "ValueError" np2)) none (b₁ :: suite1) hp2 :: rest)) Q E s₃) E s₂) E s' := by
  obtain ⟨B, a0, hB, hl, hfl⟩ := R
  refine wpAny_looks_onW (Around.frames_deeper hfr) rfl hfl fun h₄ hheld₄ hsm₄ => ?_
  refine wpAny_landsW hheld₄ fun h₅ hheld hsm₅' => ?_
  have hsm₅ := hsm₄.trans hsm₅'
  have hheld' := flyingW_base hB hheld
  obtain ⟨ob, hob, hobc⟩ := hheld'.there
  refine wpAny_handleBy_builtin (X := "ValueError") (T := "IndexError") (b := false) X.exc_Index X.nt_Index X.sub_VI (name_blt (G.keeps hheld'.1) (fun mg mb h1 h2 => ⟨h1.2.2.2.2.1, h2.2.2.2.2.1⟩) ⟨rfl, ⟨ob, hob, hobc⟩, ?_⟩)
  refine wpAny_handleBy_builtin (X := "ValueError") (T := "ValueError") (b := true) X.exc_Value X.nt_Value X.sub_VV (name_blt (G.keeps hheld'.1) (fun mg mb h1 h2 => ⟨h1.2.2.2.2.2, h2.2.2.2.2.2⟩) ⟨rfl, ⟨ob, hob, hobc⟩, ?_⟩)
  refine lands_againW hheld fun h₆ hfl₆ hsm₆ => ?_
  exact wpAny_passesOwnAt hE (k h₆ (flyingW_base hB hfl₆).1 (hsm₅.trans hsm₆))
end
theorem tn_nocell : ∀ x ∈ (defScope 5).names, x.2 ≠ .cell := by decide
theorem tn_binds {v u : Value} : ∀ x ∈ [((("data" : Str)), v), (("width" : Str), u)], (defScope 5).names.lookup x.1 = some .local := locs rfl
theorem hide_get {h : Heap} {l : List Addr} {a : Addr} {o : Obj} (e : h.get? a = some o) (n : a ∉ l) : (hideAll h l).get? a = some o := hideAll_get _ e n
section
variable {prog : Program} {w : World} {A : Around} {E : Value → Shared → Prop} {s : Shared} {f fs L : Addr} {cdv cds v : Value} {b : Array UInt8} {env : Env} {mL : Str → Option Value}

/-- into _law_turn, up to its call -/
theorem turn_enter {c : Int} {t : Tok} {Q : Value → Shared → Prop} (hroom : A.depth < recursionLimit) (hlim : s.heap.NoLimit) (X : FnAt s.heap 5 "_law_turn" f cdv) (Xs : FnAt s.heap 1 "_byteswap" fs cds) (Gs : GAt s.heap "_byteswap" (.ref fs))
    (h : ∀ Lt h₁ tk t' m, Lt = s.heap.objs.size → Fr s.heap Lt h₁ m →
      wpC (model prog w) (A.deeper (tnEnv Lt f cdv)) (call (.ref fs) [v, .int c t']) (fun r s' => Q r s')
        (fun e s₁ => wpAny (model prog w) (A.deeper (tnEnv Lt f cdv)) (noteFrame e (tnEnv Lt f cdv)) (fun _ s₂ => wpAny (model prog w) (A.deeper (tnEnv Lt f cdv)) (setFlight e none) (fun _ s₃ =>
          wpAny (model prog w) (A.deeper (tnEnv Lt f cdv)) (handleBy e (tnEnv Lt f cdv) tnHandlers) (fun fl s' => Q (match fl with | .ret v => v | _ => .none) s')
            (fun e s' => wpAny (model prog w) (A.deeper (tnEnv Lt f cdv)) (leaving (tnEnv Lt f cdv) e) (fun _ s'' => E e s'') (fun e' s'' => E e' s'') s') s₃)
            (fun e s' => wpAny (model prog w) (A.deeper (tnEnv Lt f cdv)) (leaving (tnEnv Lt f cdv) e) (fun _ s'' => E e s'') (fun e' s'' => E e' s'') s') s₂)
            (fun e s' => wpAny (model prog w) (A.deeper (tnEnv Lt f cdv)) (leaving (tnEnv Lt f cdv) e) (fun _ s'' => E e s'') (fun e' s'' => E e' s'') s') s₁) { s with heap := h₁, toks := tk }) :
    wpC (model prog w) A (call (.ref f) [v, .int c t]) Q E s := by
  obtain ⟨o, doc, pm, an, ct, ho, hd, hcd⟩ := X
  refine wpC_call (codeC_call_def hroom ho hd hlim hcd rfl (binds := [("data", v), ("width", .int c t)]) (BindsTo.of_eq rfl) tn_nocell tn_binds fun h₁ hns hk => ?_)
  have F : Fr s.heap s.heap.objs.size h₁ _ := ⟨hns, hk, Nat.le_refl _⟩
  refine wpC_execs_cons ?_
  refine wpC_Try ?_
  refine wpC_execs_cons (wpC_Return (wpC_Call ?_))
  refine name_glob (Gs.keeps hk) ?_
  refine wpC_callWith_fn (n := 1) (nm := "_byteswap") (cdv := cds) ?_
  refine wpC_args_cons (wpC_of (ld (s := { s with heap := h₁, toks := _ }) F (by rfl) ?_))
  refine wpC_args_cons (wpC_of (ld (s := { s with heap := h₁, toks := _ }) F (by rfl) (wpC_args_nil ⟨Xs.keeps hk, ?_⟩)))
  refine wpC_mono (h _ h₁ _ _ _ rfl F) (fun r s' hr => hr) fun e s₁ he => ?_
  refine wpAny_mono he (fun _ s₂ h₂ => wpAny_mono h₂ (fun _ s₃ h₃ => ?_) fun _ _ x => x) fun _ _ x => x
  exact wpAny_mono h₃ (fun fl s' hf => by cases fl <;> first | exact wpC_execs_nil hf | exact hf) fun _ _ x => x

theorem frames_two {g h : Heap} {Lt : Addr} {m : Str → Option Value} {cs : Scope} (F : Fr g Lt h m) (hck : env.scope.kind = .function) (hcf : env.frame = some L) (hL : g.Ns L mL) :
    h.FunFrames (hideAll h (frs [tnEnv Lt f cdv, env])) [tnEnv Lt f cdv, env] := by
  have e : frs [tnEnv Lt f cdv, env] = [Lt, L] := by simp [frs, hcf, envOf]
  rw [e]
  exact .cons (by show (defScope 5).kind ≠ .module; decide) rfl F.ns (hideAll_none _ (.head _)) (.cons (by rw [hck]; decide) hcf (hL.keeps F.keep) (hideAll_none _ (.tail _ (.head _))) trivial)

/-- what is left of the caller's heap: all but its own names' slots -/
structure Left (L : Addr) (h h' : Heap) : Prop where
  keep : ∀ a o, a ≠ L → h.get? a = some o → h'.get? a = some o
  up : h.UpToSlots h'
theorem left_of {g h h' h'' : Heap} {Lt : Addr} {m : Str → Option Value} (hcf : env.frame = some L) (hLt : Lt = g.objs.size) (F : Fr g Lt h m) (st : (hideAll h (frs [tnEnv Lt f cdv, env])).StaysIn h'') (u1 : h.UpToSlots h') (u2 : h'.UpToSlots h'') : Left L g h'' := by
  refine ⟨fun a o ha e => st a o (hideAll_get _ (F.keep a o e) fun hm => ?_), ((Heap.UpToSlots.of_keeps F.keep).trans u1).trans u2⟩
  have e2 : frs [tnEnv Lt f cdv, env] = [Lt, L] := by simp [frs, hcf, envOf]
  rw [e2] at hm
  rcases List.mem_cons.mp hm with q | q
  · exact absurd (Heap.lt_size e) (by rw [q, hLt]; exact Nat.lt_irrefl _)
  · exact ha (List.mem_singleton.mp q)

theorem turn_neg {c : Int} {t : Tok} {Q : Value → Shared → Prop} (hG : A.guards = some []) (hh : A.handled = none) (hroom : A.depth + 1 < recursionLimit) (G : Gl s.heap) (X : FnAt s.heap 5 "_law_turn" f cdv) (Xs : FnAt s.heap 1 "_byteswap" fs cds) (Gs : GAt s.heap "_byteswap" (.ref fs))
    (hb : IsBuf s.heap b v) (hz : b.size ≤ 65536) (hc : c < 0) (hc' : -65536 ≤ c)
    (hq : ∀ h' tk t, (∀ a o, s.heap.get? a = some o → h'.get? a = some o) → Q (.bytes (Array.replicate b.size 0) t) { s with heap := h', toks := tk }) :
    wpC (model prog w) A (call (.ref f) [v, .int c t]) Q E s := by
  refine turn_enter (Nat.lt_of_succ_lt hroom) G.lim X Xs Gs fun Lt h₁ tk t' m hLt F => ?_
  exact swap_neg (s := { s with heap := h₁, toks := tk }) hG hh hroom (G.keeps F.keep) (Xs.keeps F.keep) (hb.keeps F.keep) hz hc hc' fun h' tk t hk => hq h' tk t fun a o e => hk a o (F.keep a o e)

theorem turn_zero {t : Tok} {Q : Value → Shared → Prop} (hG : A.guards = some []) (hh : A.handled = none) (hroom : A.depth + 1 < recursionLimit) (hfr : A.frames = some [env]) (hck : env.scope.kind = .function) (hcf : env.frame = some L) (hL : s.heap.Ns L mL)
    (G : Gl s.heap) (hGL : ∀ h', (∀ a o, a ≠ L → s.heap.get? a = some o → h'.get? a = some o) → Gl h') (X : FnAt s.heap 5 "_law_turn" f cdv) (Xs : FnAt s.heap 1 "_byteswap" fs cds) (Gs : GAt s.heap "_byteswap" (.ref fs))
    (hb : IsBuf s.heap b v) (hz : b.size ≤ 65536)
    (hq : ∀ h' tk t, Left L s.heap h' → Q (.str "no width" t) { s with heap := h', toks := tk }) :
    wpC (model prog w) A (call (.ref f) [v, .int 0 t]) Q E s := by
  refine turn_enter (Nat.lt_of_succ_lt hroom) G.lim X Xs Gs fun Lt h₁ tk t' m hLt F => ?_
  have hfr2 : (A.deeper (tnEnv Lt f cdv)).frames = some [tnEnv Lt f cdv, env] := Around.frames_deeper hfr
  have e2 : frs [tnEnv Lt f cdv, env] = [Lt, L] := by simp [frs, hcf, envOf]
  refine swap_zero (s := { s with heap := h₁, toks := tk }) hG hh hroom hfr2 (frames_two (mL := mL) (cs := defScope 5) F hck hcf hL) (G.keeps F.keep) (Xs.keeps F.keep) (hb.keeps F.keep) hz fun e h' tk' R U => ?_
  refine caught_2 (s' := { s with heap := h', toks := tk' }) hfr R (hGL _ fun a o ha e => hideAll_get _ (F.keep a o e) fun hm => ?_) (fun h'' st U' => ?_) PassesOwnAt.leaving
  · rw [e2] at hm
    rcases List.mem_cons.mp hm with q | q
    · exact absurd (Heap.lt_size e) (by rw [q, hLt]; exact Nat.lt_irrefl _)
    · exact ha (List.mem_singleton.mp q)
  · exact wpAny_execs_cons (wpAny_Return_some (Calls.Constant_str (hq h'' _ _ (left_of hcf hLt F st U U'))))
theorem turn_loose {wd n : Nat} {t : Tok} {Q : Value → Shared → Prop} (hG : A.guards = some []) (hh : A.handled = none) (hroom : A.depth + 1 < recursionLimit) (hfr : A.frames = some [env]) (hck : env.scope.kind = .function) (hcf : env.frame = some L) (hL : s.heap.Ns L mL)
    (G : Gl s.heap) (hGL : ∀ h', (∀ a o, a ≠ L → s.heap.get? a = some o → h'.get? a = some o) → Gl h') (X : FnAt s.heap 5 "_law_turn" f cdv) (Xs : FnAt s.heap 1 "_byteswap" fs cds) (Gs : GAt s.heap "_byteswap" (.ref fs))
    (hb : IsBuf s.heap b v) (hz : b.size ≤ 65536) (hw' : wd ≤ 65536) (hlo : n * wd < b.size) (hhi : b.size < n * wd + wd)
    (hq : ∀ h' tk t, Left L s.heap h' → Q (.str "a loose tail" t) { s with heap := h', toks := tk }) :
    wpC (model prog w) A (call (.ref f) [v, .int (wd : Int) t]) Q E s := by
  refine turn_enter (Nat.lt_of_succ_lt hroom) G.lim X Xs Gs fun Lt h₁ tk t' m hLt F => ?_
  have hfr2 : (A.deeper (tnEnv Lt f cdv)).frames = some [tnEnv Lt f cdv, env] := Around.frames_deeper hfr
  have e2 : frs [tnEnv Lt f cdv, env] = [Lt, L] := by simp [frs, hcf, envOf]
  refine swap_loose (s := { s with heap := h₁, toks := tk }) hG hh hroom hfr2 (frames_two (mL := mL) (cs := defScope 5) F hck hcf hL) (G.keeps F.keep) (Xs.keeps F.keep) (hb.keeps F.keep) hz hw' hlo hhi fun e h' tk' R U => ?_
  refine caught_1 (s' := { s with heap := h', toks := tk' }) hfr R (hGL _ fun a o ha e => hideAll_get _ (F.keep a o e) fun hm => ?_) (fun h'' st U' => ?_) PassesOwnAt.leaving
  · rw [e2] at hm
    rcases List.mem_cons.mp hm with q | q
    · exact absurd (Heap.lt_size e) (by rw [q, hLt]; exact Nat.lt_irrefl _)
    · exact ha (List.mem_singleton.mp q)
  · exact wpAny_execs_cons (wpAny_Return_some (Calls.Constant_str (hq h'' _ _ (left_of hcf hLt F st U U'))))
end
end Mine

/- part N1 -/
namespace Mine
open PyProof.Rows.LCg (lst lst_snoc)
section
variable {prog : Program} {w : World} {A : Around} {E : Value → Shared → Prop} {R : Result → Shared → Prop} {s : Shared} {env : Env} {elt i1 i2 : Expr} {x1 x2 : Str} {p1 p2 pos : Pos} {scope : Scope}

abbrev comp2 (elt : Expr) (x1 : Str) (p1 : Pos) (i1 : Expr) (x2 : Str) (p2 : Pos) (i2 : Expr) (scope : Scope) (pos : Pos) : Expr := .ListComp elt [⟨.Name x1 p1, i1, [], 0⟩, ⟨.Name x2 p2, i2, [], 0⟩] scope pos

theorem turn_outer (it acc : Value) (env : Env) : compTurn (comp2 elt x1 p1 i1 x2 p2 i2 scope pos) 0 it acc env = (standAt i1.pos >>= fun _ => pyNext it >>= fun r => match r with
      | none => pure (.done .next)
      | some v => letOwnedTupleGo (.Name x1 p1) it v >>= fun _ => assign (.Name x1 p1) env v >>= fun _ => eval i2 env >>= fun x => standAt i2.pos >>= fun _ => foldedSetIterable i2 env x >>= fun x =>
        holding [x] (pyIter x) >>= fun it2 => runOwn (.compStart (comp2 elt x1 p1 i1 x2 p2 i2 scope pos) 1 it2 acc env) env >>= fun _ => again (.compLoop (comp2 elt x1 p1 i1 x2 p2 i2 scope pos) 0 it acc env)) := by rfl
theorem turn_inner (it acc : Value) (env : Env) : compTurn (comp2 elt x1 p1 i1 x2 p2 i2 scope pos) 1 it acc env = (standAt i2.pos >>= fun _ => pyNext it >>= fun r => match r with
      | none => pure (.done .next)
      | some v => letOwnedTupleGo (.Name x2 p2) it v >>= fun _ => assign (.Name x2 p2) env v >>= fun _ => (eval elt env >>= fun x => call (.builtin "list.append") [acc, x] >>= fun _ => pure ()) >>= fun _ =>
        again (.compLoop (comp2 elt x1 p1 i1 x2 p2 i2 scope pos) 1 it acc env)) := by rfl

theorem start_inner {it acc : Value}
    (h0 : codeAny (model prog w) A (.compLoop (comp2 elt x1 p1 i1 x2 p2 i2 scope pos) 1 it acc env) R s)
    (h : wpAny (model prog w) A (pyIter it) (fun it' s' => codeAny (model prog w) A (.compLoop (comp2 elt x1 p1 i1 x2 p2 i2 scope pos) 1 it' acc env) R s')
      (notedBy (model prog w) A env fun x s' => R (.error x) s') s) :
    codeAny (model prog w) A (.compStart (comp2 elt x1 p1 i1 x2 p2 i2 scope pos) 1 it acc env) R s := by
  refine codeAny_of_tree ?_
  show wpAny _ _ ((compStart (comp2 elt x1 p1 i1 x2 p2 i2 scope pos) 1 it acc env).onRaise (fun x => do noteFrame x env; standAt theWindowsPlace)) _ _ s
  refine wpAny_notedAt ?_
  unfold compStart
  show wpAny _ _ (ask >>= _) _ _ s
  refine wpAny_bind (wpAny_askSetting (wpAny_ite ?_))
  split
  · first
      | exact wpAny_bind (wpAny_pure (wpAny_pure (And.intro rfl h0)))
      | exact wpAny_pure (And.intro rfl h0)
  · first
      | exact wpAny_bind (wpAny_rule (wpAny_bind (wpAny_standAt (wpAny_bind (wpAny_mono h (fun it' s' h' => wpAny_pure (And.intro rfl h')) fun _ _ x => x)))))
      | (refine wpAny_bind (wpAny_rule ?_); show wpAny _ _ (standAt i2.pos >>= _) _ _ s; exact wpAny_bind (wpAny_standAt (wpAny_bind (wpAny_mono h (fun it' s' h' => wpAny_pure (And.intro rfl h')) fun _ _ x => x))))

theorem loop_outer {it acc : Value} (I : Nat → Shared → Prop)
    (turn : ∀ n s, I n s → wpAny (model prog w) A (pyNext it) (fun r s₁ => match r with
      | none => R (.ok .next) s₁
      | some v => wpAny (model prog w) A (assign (.Name x1 p1) env v) (fun _ s₂ => wpAny (model prog w) A (eval i2 env) (fun x s₃ => wpAny (model prog w) A (pyIter x) (fun it2 s₄ =>
          codeAny (model prog w) A (.compStart (comp2 elt x1 p1 i1 x2 p2 i2 scope pos) 1 it2 acc env) (fun r s₅ => r = .ok .next ∧ ∃ m, m < n ∧ I m s₅) s₄) (fun _ _ => False) s₃) (fun _ _ => False) s₂) (fun _ _ => False) s₁) (fun _ _ => False) s)
    (n : Nat) (h : I n s) (hs : ∀ x, foldedSetIterable i2 env x = pure x) :
    codeAny (model prog w) A (.compLoop (comp2 elt x1 p1 i1 x2 p2 i2 scope pos) 0 it acc env) R s := by
  refine codeAny_loop rfl I (fun n s hI => ?_) n h
  show wpAny _ _ ((compTurn (comp2 elt x1 p1 i1 x2 p2 i2 scope pos) 0 it acc env).onRaise (fun x => do noteFrame x env; theTreesLotGoes x)) _ _ s
  refine wpAny_noted ?_
  rw [turn_outer]
  refine wpAny_noRaise ?_
  refine wpAny_bind (wpAny_standAt (wpAny_bind (wpAny_mono (turn n s hI) (fun r s₁ h₁ => ?_) fun _ _ h' => h')))
  cases r with
  | none => exact wpAny_pure h₁
  | some v =>
    refine wpAny_bind (wpAny_of_eq (a := ()) rfl ?_)
    refine wpAny_bind (wpAny_mono h₁ (fun _ s₂ h₂ => wpAny_bind (wpAny_mono h₂ (fun x s₃ h₃ => wpAny_bind (wpAny_standAt (wpAny_bind (wpAny_of_eq (hs x) (wpAny_bind (wpAny_holding (wpAny_mono h₃ (fun it2 s₄ h₄ => ?_) fun _ _ h' => h'))))))) fun _ _ h' => h')) fun _ _ h' => h')
    refine wpAny_bind (wpAny_runOwn (codeAny_mono h₄ fun r s₅ hr => ?_))
    obtain ⟨rfl, hr⟩ := hr
    exact wpAny_pure ⟨rfl, hr⟩
theorem loop_inner {it acc : Value} (I : Nat → Shared → Prop)
    (turn : ∀ n s, I n s → wpAny (model prog w) A (pyNext it) (fun r s₁ => match r with
      | none => R (.ok .next) s₁
      | some v => wpAny (model prog w) A (assign (.Name x2 p2) env v) (fun _ s₂ => wpAny (model prog w) A (eval elt env) (fun x s₃ =>
          wpAny (model prog w) A (call (.builtin "list.append") [acc, x]) (fun _ s₄ => ∃ m, m < n ∧ I m s₄) (fun _ _ => False) s₃) (fun _ _ => False) s₂) (fun _ _ => False) s₁) (fun _ _ => False) s)
    (n : Nat) (h : I n s) :
    codeAny (model prog w) A (.compLoop (comp2 elt x1 p1 i1 x2 p2 i2 scope pos) 1 it acc env) R s := by
  refine codeAny_loop rfl I (fun n s hI => ?_) n h
  show wpAny _ _ ((compTurn (comp2 elt x1 p1 i1 x2 p2 i2 scope pos) 1 it acc env).onRaise (fun x => do noteFrame x env; theTreesLotGoes x)) _ _ s
  refine wpAny_noted ?_
  rw [turn_inner]
  refine wpAny_noRaise ?_
  refine wpAny_bind (wpAny_standAt (wpAny_bind (wpAny_mono (turn n s hI) (fun r s₁ h₁ => ?_) fun _ _ h' => h')))
  cases r with
  | none => exact wpAny_pure h₁
  | some v =>
    refine wpAny_bind (wpAny_of_eq (a := ()) rfl ?_)
    exact wpAny_bind (wpAny_mono h₁ (fun _ s₂ h₂ => wpAny_bind (wpAny_bind (wpAny_mono h₂ (fun x s₃ h₃ => wpAny_bind (wpAny_mono h₃
      (fun _ s₄ h₄ => wpAny_pure (wpAny_pure ⟨rfl, h₄⟩)) fun _ _ h' => h')) fun _ _ h' => h'))) fun _ _ h' => h')
end
end Mine

/- part N2 -/
namespace Mine
open PyProof.Rows.LCg (lst lst_snoc)
section
variable {prog : Program} {w : World} {A : Around} {R : Result → Shared → Prop} {s : Shared} {env : Env} {elt i1 i2 : Expr} {x1 x2 : Str} {p1 p2 pos : Pos} {scope : Scope} {cl : List (Str × Addr)}

/-- the inner clause: one word -/
theorem comp_inner {C D I : Addr} {wd : Nat} {n : Int} {t1 : Tok} {m : Str → Option Value} {ys : List Value} {fn : Int → Nat → Int} (hh : A.handled = none) (hx2 : scope.names.lookup x2 = some .local) (hkind : scope.kind = .function) (h12 : x1 ≠ x2)
    (hIC : I ≠ C) (hID : I ≠ D) (hCD : C ≠ D) (hit : IsRangeIter s.heap I 0 (wd : Int) 1) (hn : s.heap.Ns C m) (hm : m x1 = some (.int n t1)) (hD : s.heap.get? D = some (lst ys)) (hsz : ys.length + wd ≤ 65536)
    (helt : ∀ h tk m' (k : Nat) t2, (∀ b o, b ≠ I → b ≠ C → b ≠ D → s.heap.get? b = some o → h.get? b = some o) → h.Ns C m' → m' x1 = some (.int n t1) → m' x2 = some (.int (k : Int) t2) → k < wd →
      wpAny (model prog w) A (eval elt (compEnvC scope cl C env)) (fun y s' => ∃ tk t, y = .int (fn n k) t ∧ s' = { s with heap := h, toks := tk }) (fun _ _ => False) { s with heap := h, toks := tk })
    (hR : ∀ h tk m' zs, (∀ b o, b ≠ I → b ≠ C → b ≠ D → s.heap.get? b = some o → h.get? b = some o) → h.Ns C m' → h.get? D = some (lst (ys ++ zs)) → IntsAre zs ((List.range wd).map fun k => fn n k) → R (.ok .next) { s with heap := h, toks := tk }) :
    codeAny (model prog w) A (.compStart (comp2 elt x1 p1 i1 x2 p2 i2 scope pos) 1 (.ref I) (.ref D) (compEnvC scope cl C env)) R s := by
  have W : Walks prog w A I [I] [I] wd (fun i v => ∃ t, v = .int (0 + i * 1) t) (fun i h => IsRangeIter h I (0 + (i : Nat) * 1) ((wd : Int) - (i : Nat)) 1) := Walks.range hh I 0 1 wd
  have hst0 : IsRangeIter s.heap I (0 + ((0 : Nat) : Int) * 1) ((wd : Int) - ((0 : Nat) : Int)) 1 := by simpa using hit
  have loop : codeAny (model prog w) A (.compLoop (comp2 elt x1 p1 i1 x2 p2 i2 scope pos) 1 (.ref I) (.ref D) (compEnvC scope cl C env)) R s := by
    refine loop_inner (fun k s' => ∃ h tk m' zs i, s' = { s with heap := h, toks := tk } ∧ i ≤ wd ∧ k = wd + 1 - i ∧ IsRangeIter h I (0 + (i : Nat) * 1) ((wd : Int) - (i : Nat)) 1 ∧ h.Ns C m' ∧ m' x1 = some (.int n t1) ∧ h.get? D = some (lst (ys ++ zs)) ∧
      IntsAre zs ((List.range i).map fun k => fn n k) ∧ (∀ b o, b ≠ I → b ≠ C → b ≠ D → s.heap.get? b = some o → h.get? b = some o)) ?_ (wd + 1)
      ⟨s.heap, s.toks, m, [], 0, rfl, Nat.zero_le _, rfl, hst0, hn, hm, by rw [List.append_nil]; exact hD, .nil, fun _ _ _ _ _ e => e⟩
    rintro k s' ⟨h, tk, m', zs, i, rfl, hi, rfl, hst, hn', hm', hD', hz, hk⟩
    by_cases hlt : i < wd
    · refine W.item i _ _ _ hlt hst fun v h₂ tk₂ hPv hst₂ hk₂ => ?_
      obtain ⟨t2, rfl⟩ := hPv
      refine wpAny_assign_Name (wpAny_storeName_local (env := compEnvC scope cl C env) (lookup_relabel_local hx2) (hn'.at' fun o e => hk₂ _ o (by simpa using Ne.symm hIC) e) (fun h₃ hn₃ hs₃ => ?_) (by simp [compEnvC, relabel, hkind]))
      have hs₃' : Heap.SameBut C h₂ h₃ := hs₃
      have k₃ : ∀ b o, b ≠ I → b ≠ C → b ≠ D → s.heap.get? b = some o → h₃.get? b = some o := fun b o b1 b2 b3 e => hs₃'.extBut b o b2 (hk₂ b o (by simpa using b1) (hk b o b1 b2 b3 e))
      have e0 : ((0 : Int) + (i : Int) * 1) = (i : Int) := by omega
      refine wpAny_mono (helt h₃ _ _ i t2 k₃ hn₃ (by rw [if_neg h12]; exact hm') (by rw [if_pos rfl, e0]) hlt) (fun y s₄ hy => ?_) fun _ _ e => e.elim
      obtain ⟨tk₄, t4, rfl, rfl⟩ := hy
      have hD₃ : h₃.get? D = some (lst (ys ++ zs)) := hs₃'.extBut _ _ (Ne.symm hCD) (hk₂ _ _ (by simpa using Ne.symm hID) hD')
      have hzl : zs.length = i := by rw [hz.length]; simp
      refine append_at (s := { s with heap := h₃, toks := tk₄ }) hD₃ (fun h₅ hs₅ hD₅ => ?_) (by rw [List.size_toArray, List.length_append, hzl, sizeLine_eq]; omega)
      refine ⟨wd + 1 - (i + 1), by omega, h₅, tk₄, _, zs ++ [.int (fn n i) t4], i + 1, rfl, hlt, rfl, ?_, hn₃.sameBut hs₅ hCD, by rw [if_neg h12]; exact hm', ?_, ?_, fun b o b1 b2 b3 e => hs₅.extBut b o b3 (k₃ b o b1 b2 b3 e)⟩
      · refine W.frame _ _ _ hst₂ fun b hb o e => ?_
        rw [List.mem_singleton.mp hb] at e ⊢
        exact hs₅.extBut _ _ hID (hs₃'.extBut _ _ hIC e)
      · rw [hD₅]
        exact congrArg some ((lst_snoc (ys ++ zs) _).trans (by rw [List.append_assoc]))
      · rw [List.range_succ, List.map_append]
        exact hz.append (.cons _ _ .nil)
    · obtain rfl : i = wd := by omega
      refine W.done _ _ _ hst fun h₁ tk₁ hk₁ => ?_
      exact hR h₁ tk₁ m' zs (fun b o b1 b2 b3 e => hk₁ b o (by simpa using b1) (hk b o b1 b2 b3 e)) (hn'.at' fun o e => hk₁ _ o (by simpa using Ne.symm hIC) e) (hk₁ _ _ (by simpa using Ne.symm hID) hD') hz
  exact start_inner loop (W.self 0 _ _ _ hst0 loop)
end
section
variable {prog : Program} {w : World} {A : Around} {E : Value → Shared → Prop} {s : Shared} {env : Env} {elt i1 i2 : Expr} {x1 x2 : Str} {p1 p2 pos : Pos} {scope : Scope} {cl : List (Str × Addr)}

theorem comp_two {lw : Addr} {vs : List Value} {ns : List Int} {wd : Nat} {fn : Int → Nat → Int} {Q : Value → Shared → Prop} (hh : A.handled = none) (hclos : closureFor scope env = pure cl) (hcell : ∀ y ∈ scope.names, y.2 ≠ .cell) (hkind : scope.kind = .function)
    (hnames : ∀ y ∈ scope.names, y.2 = .local → scope.names.lookup y.1 = some .local) (hx1 : scope.names.lookup x1 = some .local) (hx2 : scope.names.lookup x2 = some .local) (h12 : x1 ≠ x2)
    (hl : s.heap.IsList lw vs.toArray) (hi : IntsAre vs ns) (hsz : ns.length * wd + wd ≤ 65536)
    (he1 : ∀ (Q₁ : Value → Shared → Prop), Q₁ (.ref lw) s → wpAny (model prog w) A (eval i1 env) Q₁ E s)
    (he2 : ∀ C h tk (Q₁ : Value → Shared → Prop), (∀ b o, s.heap.get? b = some o → h.get? b = some o) → (∀ r h' tk' t u v, IsRange h' r 0 (wd : Int) 1 t u v → (∀ b o, h.get? b = some o → h'.get? b = some o) → h.get? r = none → Q₁ (.ref r) { s with heap := h', toks := tk' }) →
      wpAny (model prog w) A (eval i2 (compEnvC scope cl C env)) Q₁ (fun _ _ => False) { s with heap := h, toks := tk })
    (helt : ∀ C h tk m' n (k : Nat) t1 t2 (Q₁ : Value → Shared → Prop), (∀ b o, s.heap.get? b = some o → h.get? b = some o) → h.Ns C m' → m' x1 = some (.int n t1) → m' x2 = some (.int (k : Int) t2) → n ∈ ns → k < wd →
      (∀ tk t, Q₁ (.int (fn n k) t) { s with heap := h, toks := tk }) → wpAny (model prog w) A (eval elt (compEnvC scope cl C env)) Q₁ (fun _ _ => False) { s with heap := h, toks := tk })
    (hQ : ∀ D h tk zs, (∀ b o, s.heap.get? b = some o → h.get? b = some o) → h.IsList D zs.toArray → IntsAre zs (ns.flatMap fun n => (List.range wd).map fun k => fn n k) → Q (.ref D) { s with heap := h, toks := tk })
    (hs1 : ∀ x, foldedSetIterable i1 env x = pure x := by intro _; rfl) (hs2 : ∀ e x, foldedSetIterable i2 e x = pure x := by intro _ _; rfl) :
    wpAny (model prog w) A (eval (comp2 elt x1 p1 i1 x2 p2 i2 scope pos) env) Q E s := by
  rw [eval_ListComp]
  refine wpAny_comprehension_free (use := none) rfl hs1 hclos hkind hnames ?_
  refine he1 _ ?_
  refine wpAny_pyIter_list hl ?_
  refine wpAny_newObj_type ?_
  refine wpAny_newFunctionEnv hcell (by intro y hy; simp at hy) (fun h₁ hns₁ hsb₁ => ?_) hkind
  dsimp only at hns₁ hsb₁ ⊢
  generalize hH1 : s.heap.push { cls := .type "list_iterator", data := .fields #[.ref lw, .int 0 0] } = H1 at hns₁ hsb₁ ⊢
  generalize hH2 : H1.push { cls := .type "list", data := .seq #[] } = H2 at hns₁ hsb₁ ⊢
  have z1 : H1.objs.size = s.heap.objs.size + 1 := by rw [← hH1, Heap.size_push]
  have z2 : H2.objs.size = s.heap.objs.size + 2 := by rw [← hH2, Heap.size_push, z1]
  generalize hI : s.heap.objs.size = I at *
  generalize hDd : H1.objs.size = D at *
  generalize hCc : H2.objs.size = C at *
  have hID : I ≠ D := by omega
  have hIC : I ≠ C := by omega
  have hCD : C ≠ D := by omega
  have low : ∀ b o, s.heap.get? b = some o → b < I := fun b o e => hI ▸ Heap.lt_size e
  have apart : ∀ b o, s.heap.get? b = some o → b ≠ I ∧ b ≠ D ∧ b ≠ C := fun b o e => by
    have h : @LT.lt Nat _ b I := low b o e
    exact ⟨Nat.ne_of_lt h, Nat.ne_of_lt (by omega), Nat.ne_of_lt (by omega)⟩
  have old : ∀ b o, s.heap.get? b = some o → h₁.get? b = some o := fun b o e => by
    refine hsb₁.extBut b o (apart b o e).2.2 (Heap.get?_push_of_some _ ?_)
    rw [← hH2]
    refine Heap.get?_push_of_some _ ?_
    rw [← hH1]
    exact Heap.get?_push_of_some _ e
  have hD₁ : h₁.get? D = some (lst []) := by
    refine hsb₁.extBut D _ (Ne.symm hCD) (Heap.get?_push_of_some _ ?_)
    rw [← hH2, ← hDd]
    exact Heap.get?_push_size _ rfl
  have hI₁ : h₁.IsListIter I lw 0 := by
    have e : H1.get? I = some { cls := .type "list_iterator", data := .fields #[.ref lw, .int 0 0] } := by
      rw [← hH1, ← hI]
      exact Heap.get?_push_size _ rfl
    have e2 : H2.get? I = some { cls := .type "list_iterator", data := .fields #[.ref lw, .int 0 0] } := by
      rw [← hH2]
      exact Heap.get?_push_of_some _ e
    exact ⟨_, hsb₁.extBut I _ hIC (Heap.get?_push_of_some _ e2), rfl, rfl⟩
  have hlw : lw ≠ I := by
    obtain ⟨o, ho, _⟩ := id hl
    have := low _ _ ho
    exact Nat.ne_of_lt this
  have W := Walks.list (prog := prog) (w := w) (A := A) hh I lw hlw vs.toArray
  have hlen : vs.toArray.size = ns.length := by simp [hi.length]
  rw [hlen] at W
  have fresh : ∀ a, I ≤ a → s.heap.get? a = none := fun a ha => by
    cases e : s.heap.get? a with
    | none => rfl
    | some o' => exact absurd (low a o' e) (Nat.not_lt.mpr ha)
  have hst0 : h₁.IsListIter I lw 0 ∧ h₁.IsList lw vs.toArray := ⟨hI₁, hl.at fun o e => old _ o e⟩
  have loop : codeAny (model prog w) A (.compLoop (comp2 elt x1 p1 i1 x2 p2 i2 scope pos) 0 (.ref I) (.ref D) (compEnvC scope cl C env)) (compPost (model prog w) A E none Q (.ref D) C) { s with heap := h₁, toks := s.toks + ([] : List (Str × Value)).length } := by
    refine loop_outer (fun k s' => ∃ h tk m' ys i, s' = { s with heap := h, toks := tk } ∧ i ≤ ns.length ∧ k = ns.length + 1 - i ∧ (h.IsListIter I lw i ∧ h.IsList lw vs.toArray) ∧ h.Ns C m' ∧ h.get? D = some (lst ys) ∧
      IntsAre ys ((ns.take i).flatMap fun n => (List.range wd).map fun k => fn n k) ∧ (∀ b o, s.heap.get? b = some o → h.get? b = some o)) ?_ (ns.length + 1)
      ⟨h₁, _, _, [], 0, rfl, Nat.zero_le _, rfl, hst0, hns₁, hD₁, .nil, old⟩ (hs2 _)
    rintro k s' ⟨h, tk, m', ys, i, rfl, hile, rfl, hst, hn', hD', hz, hk⟩
    by_cases hlt : i < ns.length
    · refine W.item i _ _ _ hlt hst fun v h₂ tk₂ hPv hst₂ hk₂ => ?_
      obtain ⟨n, t1, rfl, hn⟩ := hi.at i v (by simpa using hPv)
      refine wpAny_assign_Name (wpAny_storeName_local (env := compEnvC scope cl C env) (lookup_relabel_local hx1) (hn'.at' fun o e => hk₂ _ o (by simpa using Ne.symm hIC) e) (fun h₃ hn₃ hs₃ => ?_) (by simp [compEnvC, relabel, hkind]))
      have hs₃' : Heap.SameBut C h₂ h₃ := hs₃
      have k₃ : ∀ b o, s.heap.get? b = some o → h₃.get? b = some o := fun b o e => by
        exact hs₃'.extBut b o (apart b o e).2.2 (hk₂ b o (by simpa using (apart b o e).1) (hk b o e))
      have hD₃ : h₃.get? D = some (lst ys) := hs₃'.extBut _ _ (Ne.symm hCD) (hk₂ _ _ (by simpa using Ne.symm hID) hD')
      have hst₃ : h₃.IsListIter I lw (i + 1) ∧ h₃.IsList lw vs.toArray := W.frame _ _ _ hst₂ fun b hb o e => by
        refine hs₃'.extBut _ _ ?_ e
        simp only [List.mem_cons, List.not_mem_nil, or_false] at hb
        rcases hb with rfl | rfl
        · exact hIC
        · obtain ⟨o, ho, _⟩ := id hl
          exact (apart _ _ ho).2.2
      refine he2 C h₃ _ _ k₃ fun r h₄ tk₄ a b c hr hk₄ hrn => ?_
      have hsm : Builtin.Range.small 0 (wd : Int) 1 = true := small_one (by omega) (by omega) (by omega) (by omega)
      have hrs : Builtin.Range.rangeSize 0 (wd : Int) 1 = (wd : Int) := by rw [rangeSize_one]; split <;> omega
      refine wpAny_pyIter_range (s := { s with heap := h₄, toks := tk₄ }) hr hsm ?_
      rw [hrs]
      have hCl : C < h₄.objs.size := by
        obtain ⟨o, _, _, ho, _⟩ := hn₃
        exact Heap.lt_size (hk₄ _ _ ho)
      have hDl : D < h₄.objs.size := Heap.lt_size (hk₄ _ _ hD₃)
      have hIl : I < h₄.objs.size := by
        obtain ⟨o, ho, _⟩ := hst₃.1
        exact Heap.lt_size (hk₄ _ _ ho)
      have hyl : ys.length = i * wd := by
        rw [hz.length, List.length_flatMap]
        simp only [List.length_map, List.length_range]
        rw [List.map_const', List.sum_replicate_nat, List.length_take, Nat.min_eq_left hile]
      have hysz : ys.length + wd ≤ 65536 := by
        have := Nat.mul_le_mul_right wd hile
        omega
      refine comp_inner (s := { s with heap := h₄.push { cls := .type "range_iterator", data := .fields #[rawInt 0, rawInt (wd : Int), rawInt 1] }, toks := tk₄ }) (n := n) (t1 := t1) (ys := ys) (fn := fn) hh hx2 hkind h12 (Nat.ne_of_gt hCl) (Nat.ne_of_gt hDl) hCD
        (Heap.get?_push_size _ rfl) (hn₃.keeps fun b o e => Heap.get?_push_of_some _ (hk₄ b o e)) (by rw [if_pos rfl]) (Heap.get?_push_of_some _ (hk₄ _ _ hD₃)) hysz ?_ ?_
      · intro h₅ tk₅ m₅ k t2 hk₅ hn₅ e1 e2 hklt
        refine helt C h₅ tk₅ m₅ n k t1 t2 _ (fun b o e => ?_) hn₅ e1 e2 (List.mem_of_getElem? hn) hklt fun tk t => ⟨tk, t, rfl, rfl⟩
        have h4 := hk₄ _ _ (k₃ b o e)
        exact hk₅ b o (Nat.ne_of_lt (Heap.lt_size h4)) (apart b o e).2.2 (apart b o e).2.1 (Heap.get?_push_of_some _ h4)
      · intro h₅ tk₅ m₅ zs hk₅ hn₅ hD₅ hz₅
        have keep₅ : ∀ b o, b ≠ C → b ≠ D → h₃.get? b = some o → h₅.get? b = some o := fun b o b1 b2 e => by
          have h4 := hk₄ _ _ e
          exact hk₅ b o (Nat.ne_of_lt (Heap.lt_size h4)) b1 b2 (Heap.get?_push_of_some _ h4)
        refine ⟨rfl, ns.length + 1 - (i + 1), by omega, h₅, tk₅, m₅, ys ++ zs, i + 1, rfl, hlt, rfl, ?_, hn₅, hD₅, ?_, fun b o e => ?_⟩
        · refine W.frame _ _ _ hst₃ fun b hb o e => ?_
          simp only [List.mem_cons, List.not_mem_nil, or_false] at hb
          rcases hb with rfl | rfl
          · exact keep₅ _ _ hIC hID e
          · obtain ⟨o', ho', _⟩ := id hl
            exact keep₅ _ _ (apart _ _ ho').2.2 (apart _ _ ho').2.1 e
        · rw [List.take_add_one, hn, List.flatMap_append]
          refine hz.append ?_
          simpa using hz₅
        · exact keep₅ b o (apart b o e).2.2 (apart b o e).2.1 (k₃ b o e)
    · obtain rfl : i = ns.length := by omega
      refine W.done _ _ _ hst fun h₁ tk₁ hk₁ => ?_
      have hk₁' : ∀ b o, b ≠ I → h.get? b = some o → h₁.get? b = some o := fun b o hb e => hk₁ b o (by simpa using hb) e
      refine ⟨m', hn'.at' fun o e => hk₁' _ o (Ne.symm hIC) e, fun h' hs' => ?_⟩
      rw [List.take_length] at hz
      refine hQ D h' tk₁ ys (fun b o e => ?_) ⟨_, hs'.extBut _ _ (Ne.symm hCD) (hk₁' _ _ (Ne.symm hID) hD'), rfl, _, rfl⟩ hz
      exact hs'.extBut b o (apart b o e).2.2 (hk₁' b o (apart b o e).1 (hk b o e))
  exact codeAny_compStart_list loop (W.self 0 _ _ _ hst0 loop)
end
end Mine

/- part N3 -/
namespace Mine
def lowB (n : Int) (k : Nat) : Int := (n.fdiv (256 ^ k)).fmod 256
def highB (wd : Nat) (n : Int) (k : Nat) : Int := (n.fdiv (256 ^ (wd - 1 - k))).fmod 256
def lowL (ns : List Int) (wd : Nat) : List Int := ns.flatMap fun n => (List.range wd).map fun k => lowB n k
def highL (ns : List Int) (wd : Nat) : List Int := ns.flatMap fun n => (List.range wd).map fun k => highB wd n k
theorem byte_range {a : Int} : 0 ≤ a.fmod 256 ∧ a.fmod 256 < 256 := ⟨Int.fmod_nonneg_of_pos _ (by decide), Int.fmod_lt_of_pos _ (by decide)⟩
theorem lowL_in {ns : List Int} {wd : Nat} : ∀ n ∈ lowL ns wd, 0 ≤ n ∧ n < 256 := by
  intro n hn
  simp only [lowL, List.mem_flatMap, List.mem_map] at hn
  obtain ⟨_, _, k, _, rfl⟩ := hn
  exact byte_range
theorem highL_in {ns : List Int} {wd : Nat} : ∀ n ∈ highL ns wd, 0 ≤ n ∧ n < 256 := by
  intro n hn
  simp only [highL, List.mem_flatMap, List.mem_map] at hn
  obtain ⟨_, _, k, _, rfl⟩ := hn
  exact byte_range
theorem lowL_length {ns : List Int} {wd : Nat} : (lowL ns wd).length = ns.length * wd := by
  rw [lowL, List.length_flatMap]
  simp only [List.length_map, List.length_range]
  rw [List.map_const', List.sum_replicate_nat]
theorem highL_length {ns : List Int} {wd : Nat} : (highL ns wd).length = ns.length * wd := by
  rw [highL, List.length_flatMap]
  simp only [List.length_map, List.length_range]
  rw [List.map_const', List.sum_replicate_nat]
theorem log_small {k : Nat} (h : k ≤ 16) : ((256 : Int) ^ k).natAbs.log2 < 9000 := by
  have : ((256 : Int) ^ k).natAbs = 2 ^ (8 * k) := by
    rw [Int.natAbs_pow]
    show 256 ^ k = _
    rw [Nat.pow_mul]
  rw [this, Nat.log2_two_pow]
  omega
theorem pow_ne {k : Nat} : ((256 : Int) ^ k) ≠ 0 := Int.pow_ne_zero (by decide)

section
variable {M : Model} {A : Around} {E : Value → Shared → Prop} {s : Shared} {env : Env} {pos : Pos} {Q : Value → Shared → Prop}
theorem name_range (G : Gl s.heap) (h : Q (.type "range") s) (hk : env.scope.kind = .function) (hx : env.kindOf "range" = some .globalImplicit) (hg : env.globals = mainGlobals) (hb : env.builtins = builtinsNs) :
    wpAny M A (eval (.Name "range" pos) env) Q E s := by
  obtain ⟨mg, mb, g, b, h1, h2⟩ := G.ns
  exact Name_function_global hk hx (loadGlobal_builtin (by rw [hg]; exact g) h1.2.2.1 (by rw [hb]; exact b) h2.2.2.1 h) (by decide)
end
section
variable {prog : Program} {w : World} {A : Around} {E : Value → Shared → Prop} {s : Shared} {f lw : Addr} {cdv : Value} {vs : List Value} {ns : List Int}

theorem low_call {wd : Nat} {t : Tok} {Q : Value → Shared → Prop} (hh : A.handled = none) (hroom : A.depth < recursionLimit) (G : Gl s.heap) (X : FnAt s.heap 3 "_law_low_first" f cdv) (hl : s.heap.IsList lw vs.toArray) (hi : IntsAre vs ns)
    (hw : wd ≤ 16) (hsz : ns.length ≤ 64)
    (hq : ∀ h' tk t, (∀ a o, s.heap.get? a = some o → h'.get? a = some o) → Q (.bytes (byteArr (lowL ns wd)) t) { s with heap := h', toks := tk }) :
    wpAny (model prog w) A (call (.ref f) [.ref lw, .int (wd : Int) t]) Q E s := by
  obtain ⟨o, doc, pm, an, ct, ho, hd, hcd⟩ := X
  refine wpAny_call (codeAny_call_cells (binds := [("words", .ref lw), ("width", .int (wd : Int) t)]) hroom ho hd G.lim hcd rfl (by rfl) rfl ?_ fun s₁ x => ?_)
  · intro y hy
    simp only [List.mem_cons, List.not_mem_nil, or_false] at hy
    rcases hy with rfl | rfl
    · exact .inl (by rfl)
    · exact .inr ⟨by rfl, by rfl⟩
  · obtain ⟨h₁, tk, rfl, hk⟩ := x.done
    have hns := x.toInCall.ns
    have hcell := x.cell "width" (s.heap.objs.size + 1) (by rfl)
    generalize hL : s.heap.objs.size = L at *
    have hc' : h₁.IsCell (L + 1) (some (.int (wd : Int) t)) := hcell
    have G₁ : Gl h₁ := G.keeps hk
    have hmul : ns.length * wd ≤ 64 * 16 := Nat.mul_le_mul hsz hw
    refine wpAny_execs_cons (wpAny_Return_some (Call_ ?_))
    refine name_blt (s := { s with heap := h₁, toks := tk }) G₁ (fun mg mb h1 h2 => ⟨h1.2.2.2.1, h2.2.2.2.1⟩) ?_
    refine PyProof.Rows.callWith_type1 (args_cons ?_)
    refine comp_two (s := { s with heap := h₁, toks := tk }) (cl := [("width", L + 1)]) (vs := vs) (ns := ns) (wd := wd) (fn := lowB) hh (by rfl) (by decide) rfl (by decide) (by rfl) (by rfl) (by decide) (hl.at fun o e => hk _ o e) hi (by omega) ?_ ?_ ?_ ?_
    · intro Q₁ h
      exact wpAny_Name (wpAny_loadName_local rfl (by rfl) hns (by rfl) h) (by decide)
    · intro C h tk' Q₁ hk' hq'
      refine Call_ ?_
      refine name_range (s := { s with heap := h, toks := tk' }) (G₁.keeps hk') ?_ rfl (by rfl) rfl rfl
      refine PyProof.Rows.callWith_type1 (args_cons (wpAny_Name (wpAny_loadName_cell (s := { s with heap := h, toks := tk' }) rfl (by rfl) (by rfl) (hc'.keeps hk') (args_nil ?_)) (by decide)))
      refine call_range_1 ?_
      refine hq' _ _ _ _ _ _ (IsRange.new ..) (fun b o e => Heap.get?_push_of_some _ e) ?_
      cases e : h.get? h.objs.size with
      | none => rfl
      | some o => exact absurd (Heap.lt_size e) (Nat.lt_irrefl _)
    · intro C h tk' m' n k t1 t2 Q₁ hk' hn e1 e2 hmem hlt hq'
      refine wpAny_BinOp (wpAny_BinOp ?_)
      refine wpAny_Name (wpAny_loadName_local (s := { s with heap := h, toks := tk' }) rfl (by rfl) hn e1 ?_) (by decide)
      refine wpAny_BinOp (wpAny_Constant_int ?_)
      refine wpAny_Name (wpAny_loadName_local (s := { s with heap := h, toks := _ }) rfl (by rfl) hn e2 ?_) (by decide)
      refine pow_int_small (by omega) (by omega) (by decide) ?_
      rw [Int.toNat_natCast]
      refine floordiv_int pow_ne ?_ (Or.inl (PyProof.noPylong_of_log2 (log_small (by omega))))
      refine wpAny_Constant_int ?_
      exact mod_int' (by decide) (hq' _ _)
    · intro D h tk' zs hk' hD hz
      refine args_nil ?_
      refine call_bytes_ints (s := { s with heap := h, toks := tk' }) hD hz lowL_in (by rw [hz.length]; show (lowL ns wd).length ≤ _; rw [lowL_length, sizeLine_eq]; omega) hh fun h' t' k' hk'' => ?_
      exact hq h' k' t' fun a o e => hk'' a o (hk' a o (hk a o e))
theorem high_call {wd : Nat} {t : Tok} {Q : Value → Shared → Prop} (hh : A.handled = none) (hroom : A.depth < recursionLimit) (G : Gl s.heap) (X : FnAt s.heap 4 "_law_high_first" f cdv) (hl : s.heap.IsList lw vs.toArray) (hi : IntsAre vs ns)
    (hw : wd ≤ 16) (hsz : ns.length ≤ 64)
    (hq : ∀ h' tk t, (∀ a o, s.heap.get? a = some o → h'.get? a = some o) → Q (.bytes (byteArr (highL ns wd)) t) { s with heap := h', toks := tk }) :
    wpAny (model prog w) A (call (.ref f) [.ref lw, .int (wd : Int) t]) Q E s := by
  obtain ⟨o, doc, pm, an, ct, ho, hd, hcd⟩ := X
  refine wpAny_call (codeAny_call_cells (binds := [("words", .ref lw), ("width", .int (wd : Int) t)]) hroom ho hd G.lim hcd rfl (by rfl) rfl ?_ fun s₁ x => ?_)
  · intro y hy
    simp only [List.mem_cons, List.not_mem_nil, or_false] at hy
    rcases hy with rfl | rfl
    · exact .inl (by rfl)
    · exact .inr ⟨by rfl, by rfl⟩
  · obtain ⟨h₁, tk, rfl, hk⟩ := x.done
    have hns := x.toInCall.ns
    have hcell := x.cell "width" (s.heap.objs.size + 1) (by rfl)
    generalize hL : s.heap.objs.size = L at *
    have hc' : h₁.IsCell (L + 1) (some (.int (wd : Int) t)) := hcell
    have G₁ : Gl h₁ := G.keeps hk
    have hmul : ns.length * wd ≤ 64 * 16 := Nat.mul_le_mul hsz hw
    refine wpAny_execs_cons (wpAny_Return_some (Call_ ?_))
    refine name_blt (s := { s with heap := h₁, toks := tk }) G₁ (fun mg mb h1 h2 => ⟨h1.2.2.2.1, h2.2.2.2.1⟩) ?_
    refine PyProof.Rows.callWith_type1 (args_cons ?_)
    refine comp_two (s := { s with heap := h₁, toks := tk }) (cl := [("width", L + 1)]) (vs := vs) (ns := ns) (wd := wd) (fn := highB wd) hh (by rfl) (by decide) rfl (by decide) (by rfl) (by rfl) (by decide) (hl.at fun o e => hk _ o e) hi (by omega) ?_ ?_ ?_ ?_
    · intro Q₁ h
      exact wpAny_Name (wpAny_loadName_local rfl (by rfl) hns (by rfl) h) (by decide)
    · intro C h tk' Q₁ hk' hq'
      refine Call_ ?_
      refine name_range (s := { s with heap := h, toks := tk' }) (G₁.keeps hk') ?_ rfl (by rfl) rfl rfl
      refine PyProof.Rows.callWith_type1 (args_cons (wpAny_Name (wpAny_loadName_cell (s := { s with heap := h, toks := tk' }) rfl (by rfl) (by rfl) (hc'.keeps hk') (args_nil ?_)) (by decide)))
      refine call_range_1 ?_
      refine hq' _ _ _ _ _ _ (IsRange.new ..) (fun b o e => Heap.get?_push_of_some _ e) ?_
      cases e : h.get? h.objs.size with
      | none => rfl
      | some o => exact absurd (Heap.lt_size e) (Nat.lt_irrefl _)
    · intro C h tk' m' n k t1 t2 Q₁ hk' hn e1 e2 hmem hlt hq'
      refine wpAny_BinOp (wpAny_BinOp ?_)
      refine wpAny_Name (wpAny_loadName_local (s := { s with heap := h, toks := tk' }) rfl (by rfl) hn e1 ?_) (by decide)
      refine wpAny_BinOp (wpAny_Constant_int ?_)
      refine wpAny_BinOp (wpAny_BinOp ?_)
      refine wpAny_Name (wpAny_loadName_cell (s := { s with heap := h, toks := _ }) rfl (by rfl) (by rfl) (hc'.keeps hk') ?_) (by decide)
      refine wpAny_Constant_int ?_
      refine sub_int' ?_
      refine wpAny_Name (wpAny_loadName_local (s := { s with heap := h, toks := _ }) rfl (by rfl) hn e2 ?_) (by decide)
      refine sub_int' ?_
      refine pow_int_small (by omega) (by omega) (by decide) ?_
      rw [show ((wd : Int) - 1 - (k : Int)).toNat = wd - 1 - k by omega]
      refine floordiv_int pow_ne ?_ (Or.inl (PyProof.noPylong_of_log2 (log_small (by omega))))
      refine wpAny_Constant_int ?_
      exact mod_int' (by decide) (hq' _ _)
    · intro D h tk' zs hk' hD hz
      refine args_nil ?_
      refine call_bytes_ints (s := { s with heap := h, toks := tk' }) hD hz highL_in (by rw [hz.length]; show (highL ns wd).length ≤ _; rw [highL_length, sizeLine_eq]; omega) hh fun h' t' k' hk'' => ?_
      exact hq h' k' t' fun a o e => hk'' a o (hk' a o (hk a o e))
end
end Mine

/- part E1 -/
namespace Mine
theorem innerF_get {b arr : Array UInt8} {wd k : Nat} (hs : k * wd + wd ≤ arr.size) : ∀ j, j ≤ wd → ∀ p, (innerF b wd k arr j)[p]? = if k * wd + wd - j ≤ p ∧ p < k * wd + wd then some (b.getD (k * wd + (k * wd + wd - 1 - p)) 0) else arr[p]?
  | 0, _, p => by
    rw [if_neg (by omega)]; rfl
  | j + 1, hj, p => by
    rw [innerF, Array.getElem?_setIfInBounds, innerF_size, innerF_get hs j (by omega) p]
    by_cases h : k * wd + wd - 1 - j = p
    · rw [if_pos h, if_pos (by omega), if_pos (by omega)]
      congr 2
      omega
    · rw [if_neg h]
      by_cases h2 : k * wd + wd - j ≤ p ∧ p < k * wd + wd
      · rw [if_pos h2, if_pos (by omega)]
      · rw [if_neg h2, if_neg (by omega)]
theorem outerF_get {b : Array UInt8} {wd : Nat} (hw : 0 < wd) : ∀ k, k * wd ≤ b.size → ∀ p, (outerF b wd k)[p]? = if p < k * wd then some (b.getD (p / wd * wd + (wd - 1 - p % wd)) 0) else if p < b.size then some 0 else none
  | 0, _, p => by
    rw [Nat.zero_mul, if_neg (Nat.not_lt_zero _), outerF]
    by_cases h : p < b.size
    · rw [if_pos h, Array.getElem?_replicate, if_pos h]
    · rw [if_neg h, Array.getElem?_replicate, if_neg h]
  | k + 1, hk, p => by
    rw [Nat.succ_mul] at hk
    rw [outerF, innerF_get (by rw [outerF_size]; exact hk) wd (Nat.le_refl _) p, outerF_get hw k (by omega) p, Nat.succ_mul]
    by_cases h : k * wd + wd - wd ≤ p ∧ p < k * wd + wd
    · rw [if_pos h, if_pos h.2]
      have hd : p / wd = k := Nat.div_eq_of_lt_le (by omega) (by rw [Nat.succ_mul]; exact h.2)
      have hm : p = wd * (p / wd) + p % wd := (Nat.div_add_mod p wd).symm
      have hl : p % wd < wd := Nat.mod_lt _ hw
      rw [hd] at hm ⊢
      rw [Nat.mul_comm] at hm
      congr 2
      omega
    · rw [if_neg h]
      by_cases h2 : p < k * wd
      · rw [if_pos h2, if_pos (by omega)]
      · rw [if_neg h2]
        have h3 : ¬ p < k * wd + wd := by omega
        rw [if_neg h3]

def flat (g : Int → Nat → Int) (ns : List Int) (wd : Nat) : List Int := ns.flatMap fun n => (List.range wd).map fun k => g n k
theorem flat_get {g : Int → Nat → Int} {wd : Nat} (hw : 0 < wd) : ∀ (ns : List Int) (p : Nat), p < ns.length * wd → (flat g ns wd)[p]? = some (g (ns.getD (p / wd) 0) (p % wd))
  | [], p, h => by simp at h
  | n :: r, p, h => by
    rw [List.length_cons, Nat.succ_mul] at h
    show (((List.range wd).map fun k => g n k) ++ flat g r wd)[p]? = _
    by_cases hp : p < wd
    · rw [List.getElem?_append_left (by simpa using hp), Nat.div_eq_of_lt hp, Nat.mod_eq_of_lt hp]
      simp [hp]
    · rw [List.getElem?_append_right (by simpa using hp)]
      simp only [List.length_map, List.length_range]
      rw [flat_get hw r (p - wd) (by omega)]
      have h1 : p / wd = (p - wd) / wd + 1 := by rw [Nat.div_eq_sub_div hw (by omega)]
      have h2 : p % wd = (p - wd) % wd := Nat.mod_eq_sub_mod (by omega)
      rw [h1, h2]; rfl
theorem flat_length {g : Int → Nat → Int} {ns : List Int} {wd : Nat} : (flat g ns wd).length = ns.length * wd := by
  rw [flat, List.length_flatMap]
  simp only [List.length_map, List.length_range]
  rw [List.map_const', List.sum_replicate_nat]
theorem byteArr_get (l : List Int) (p : Nat) : (byteArr l)[p]? = l[p]?.map fun n => n.toNat.toUInt8 := by
  simp [byteArr]
/-- a turn of a laying is the laying with the places turned about -/
theorem swap_flat {g g' : Int → Nat → Int} {ns : List Int} {wd : Nat} (hw : 0 < wd) (hg : ∀ n k, k < wd → g' n k = g n (wd - 1 - k)) : outerF (byteArr (flat g ns wd)) wd ns.length = byteArr (flat g' ns wd) := by
  have hs : (byteArr (flat g ns wd)).size = ns.length * wd := by rw [byteArr_size, flat_length]
  refine Array.ext_getElem? fun p => ?_
  rw [outerF_get hw ns.length (by rw [hs]; exact Nat.le_refl _) p, byteArr_get]
  by_cases hp : p < ns.length * wd
  · rw [if_pos hp, flat_get hw ns p hp]
    have hm : p % wd < wd := Nat.mod_lt _ hw
    have hd : p / wd < ns.length := Nat.div_lt_of_lt_mul (by rw [Nat.mul_comm]; exact hp)
    have hq : p / wd * wd + (wd - 1 - p % wd) < ns.length * wd := by
      have := Nat.mul_le_mul_right wd hd
      rw [Nat.succ_mul] at this
      omega
    have hr : wd - 1 - p % wd < wd := by omega
    have e1 : (p / wd * wd + (wd - 1 - p % wd)) / wd = p / wd := by
      generalize p / wd = q
      generalize wd - 1 - p % wd = r at hr
      rw [Nat.mul_comm, Nat.mul_add_div hw, Nat.div_eq_of_lt hr, Nat.add_zero]
    have e2 : (p / wd * wd + (wd - 1 - p % wd)) % wd = wd - 1 - p % wd := by
      generalize p / wd = q
      generalize wd - 1 - p % wd = r at hr
      rw [Nat.mul_comm, Nat.mul_add_mod, Nat.mod_eq_of_lt hr]
    rw [Array.getD_eq_getD_getElem?, byteArr_get, flat_get hw ns _ hq, e1, e2, hg _ _ hm]
    rfl
  · rw [if_neg hp, hs, if_neg hp, List.getElem?_eq_none (by rw [flat_length]; omega)]
    rfl
theorem low_high {ns : List Int} {wd : Nat} (hw : 0 < wd) : outerF (byteArr (lowL ns wd)) wd ns.length = byteArr (highL ns wd) :=
  swap_flat (g := lowB) (g' := highB wd) hw fun _ _ _ => rfl
theorem high_low {ns : List Int} {wd : Nat} (hw : 0 < wd) : outerF (byteArr (highL ns wd)) wd ns.length = byteArr (lowL ns wd) :=
  swap_flat (g := highB wd) (g' := lowB) hw fun n k hk => by
    show lowB n k = (n.fdiv (256 ^ (wd - 1 - (wd - 1 - k)))).fmod 256
    rw [show wd - 1 - (wd - 1 - k) = k by omega]; rfl
theorem row_reverse {n : Int} {wd : Nat} : ((List.range wd).map fun k => highB wd n k).reverse = (List.range wd).map fun k => lowB n k := by
  refine List.ext_getElem? fun p => ?_
  by_cases hp : p < wd
  · rw [List.getElem?_reverse (by simpa using hp)]
    simp only [List.length_map, List.length_range]
    rw [List.getElem?_map, List.getElem?_map, List.getElem?_range (by omega), List.getElem?_range hp]
    show some (highB wd n (wd - 1 - p)) = some (lowB n p)
    rw [highB, lowB, show wd - 1 - (wd - 1 - p) = p by omega]
  · rw [List.getElem?_eq_none (by simpa using hp), List.getElem?_eq_none (by simpa using hp)]
theorem high_reverse {ns : List Int} {wd : Nat} : (highL ns wd).reverse = lowL ns.reverse wd := by
  rw [highL, lowL, List.reverse_flatMap]
  congr 1
  funext n
  exact row_reverse
/-- one single word: end for end -/
theorem whole_reverse {ns : List Int} {wd : Nat} (hw : 0 < ns.length * wd) : outerF (byteArr (highL ns wd)) (byteArr (highL ns wd)).size 1 = byteArr (lowL ns.reverse wd) := by
  have hs : (byteArr (highL ns wd)).size = ns.length * wd := by rw [byteArr_size, highL_length]
  refine Array.ext_getElem? fun p => ?_
  rw [hs, outerF_get hw 1 (by rw [hs, Nat.one_mul]; exact Nat.le_refl _) p, byteArr_get, Nat.one_mul, ← high_reverse]
  by_cases hp : p < ns.length * wd
  · rw [if_pos hp, Nat.div_eq_of_lt hp, Nat.mod_eq_of_lt hp, Nat.zero_mul, Nat.zero_add, List.getElem?_reverse (by rw [highL_length]; exact hp), highL_length, Array.getD_eq_getD_getElem?, byteArr_get]
    have : ns.length * wd - 1 - p < (highL ns wd).length := by rw [highL_length]; omega
    rw [List.getElem?_eq_getElem this]
    rfl
  · rw [if_neg hp, hs, if_neg hp, List.getElem?_eq_none (by rw [List.length_reverse, highL_length]; omega)]
    rfl
end Mine

/- part G1 -/
namespace Mine
/-- the built-in name type -/
def GlT (h : Heap) : Prop := ∃ mg mb, h.Ns mainGlobals mg ∧ h.Ns builtinsNs mb ∧ mg "type" = none ∧ mb "type" = some (.type "type")
theorem GlT.keeps {h h' : Heap} (x : GlT h) (k : ∀ a o, h.get? a = some o → h'.get? a = some o) : GlT h' :=
  let ⟨mg, mb, g, b, r⟩ := x
  ⟨mg, mb, g.keeps k, b.keeps k, r⟩
theorem is_nocell : ∀ x ∈ (defScope 6).names, x.2 ≠ .cell := by decide
theorem is_binds {v u : Value} : ∀ x ∈ [((("got" : Str)), v), (("wanted" : Str), u)], (defScope 6).names.lookup x.1 = some .local := locs rfl
section
variable {prog : Program} {w : World} {A : Around} {E : Value → Shared → Prop} {s : Shared} {f : Addr} {cdv : Value} {b c : Array UInt8}
/-- _law_is of two equal bytes -/
theorem is_call {t u : Tok} {Q : Value → Shared → Prop} (hroom : A.depth < recursionLimit) (G : Gl s.heap) (GT : GlT s.heap) (X : FnAt s.heap 6 "_law_is" f cdv) (hbc : b = c)
    (hq : ∀ h' tk, (∀ a o, s.heap.get? a = some o → h'.get? a = some o) → Q (.bool true) { s with heap := h', toks := tk }) :
    wpAny (model prog w) A (call (.ref f) [.bytes b t, .bytes c u]) Q E s := by
  obtain ⟨o, doc, pm, an, ct, ho, hd, hcd⟩ := X
  refine wpAny_call (codeAny_call_def hroom ho hd G.lim hcd rfl (binds := [("got", .bytes b t), ("wanted", .bytes c u)]) (BindsTo.of_eq rfl) is_nocell is_binds fun h₁ hns hk => ?_)
  have F : Fr s.heap s.heap.objs.size h₁ _ := ⟨hns, hk, Nat.le_refl _⟩
  obtain ⟨mg, mb, hg, hb, e1, e2⟩ := GT.keeps hk
  refine wpAny_execs_cons (wpAny_Return_some ?_)
  refine wpAny_And2 ?_
  refine wpAny_Compare1 (Call_ ?_)
  refine Name_function_global rfl (by rfl) (loadGlobal_builtin hg e1 hb e2 ?_) (by decide)
  refine PyProof.Rows.callWith_type1 (args_cons (ld (name := "_law_is") (scope := defScope 6) (s := { s with heap := h₁, toks := _ }) F (by rfl) (args_nil ?_)))
  refine call_type_of (typeIs_bytes _ _ _) (by decide) ?_
  refine name_blt (cn := "_law_is") (cs := defScope 6) (s := { s with heap := h₁, toks := _ }) (G.keeps hk) (fun mg mb h1 h2 => ⟨h1.2.2.2.1, h2.2.2.2.1⟩) ?_
  refine wpAny_is_self (by rfl) ?_
  refine wpAny_truthy_bool ?_
  rw [if_pos rfl]
  refine wpAny_Compare1 (ld (name := "_law_is") (scope := defScope 6) (s := { s with heap := h₁, toks := _ }) F (by rfl) ?_)
  refine ld (name := "_law_is") (scope := defScope 6) (s := { s with heap := h₁, toks := _ }) F (by rfl) ?_
  refine eq_bytes ?_
  rw [hbc, beq_self_eq_true]
  exact hq h₁ _ hk
end
end Mine

/- part G2 -/
namespace Mine
abbrev lwEnv (L f : Addr) (cd : Value) : Env := envOfC "law" (defScope 7) L f cd
def lawStmt (n : Nat) : Stmt := ((defBody 7)[n]?).getD (.Pass ⟨0, 0, 0, 0⟩)

structure AOk (A : Around) (env : Env) : Prop where
  guards : A.guards = some []
  handled : A.handled = none
  room : A.depth + 2 < recursionLimit
  frames : A.frames = some [env]

/-- what the top has left -/
structure Base (h₀ : Heap) (fs fl fh ft fi : Addr) (cs cl ch ct ci : Value) : Prop where
  G : Gl h₀
  GT : GlT h₀
  s : FnAt h₀ 1 "_byteswap" fs cs
  l : FnAt h₀ 3 "_law_low_first" fl cl
  h : FnAt h₀ 4 "_law_high_first" fh ch
  t : FnAt h₀ 5 "_law_turn" ft ct
  i : FnAt h₀ 6 "_law_is" fi ci
  gs : GAt h₀ "_byteswap" (.ref fs)
  gl : GAt h₀ "_law_low_first" (.ref fl)
  gh : GAt h₀ "_law_high_first" (.ref fh)
  gt : GAt h₀ "_law_turn" (.ref ft)
  gi : GAt h₀ "_law_is" (.ref fi)

structure Now (h₀ h₁ : Heap) (L : Addr) (h : Heap) (m : Str → Option Value) : Prop where
  F : Fr h₀ L h m
  K : ∀ a o, a ≠ L → h₁.get? a = some o → h.get? a = some o
section
variable {h₀ h₁ h h' : Heap} {L : Addr} {m : Str → Option Value}
theorem Now.ext (x : Now h₀ h₁ L h m) (k : ∀ a o, h.get? a = some o → h'.get? a = some o) : Now h₀ h₁ L h' m := ⟨x.F.keeps k, fun a o n e => k a o (x.K a o n e)⟩
theorem below_L (F : Fr h₀ L h m) {a : Addr} {o : Obj} (e : h₀.get? a = some o) : a ≠ L := Nat.ne_of_lt (Nat.lt_of_lt_of_le (Heap.lt_size e) F.above)
theorem Now.left (x : Now h₀ h₁ L h m) (l : Left L h h') : Now h₀ h₁ L h' m :=
  ⟨x.F.of_stays (fun a o e => l.keep a o (below_L x.F e) (x.F.keep a o e)) l.up, fun a o n e => l.keep a o n (x.K a o n e)⟩
theorem Now.self (F : Fr h₀ L h m) : Now h₀ h L h m := ⟨F, fun _ _ _ e => e⟩
end
/-- the names that stay -/
structure Vars (m : Str → Option Value) (lw gv : Addr) (low high : Array UInt8) (hd : Int) : Prop where
  words : m "words" = some (.ref lw)
  low : ∃ t, m "low" = some (.bytes low t)
  high : ∃ t, m "high" = some (.bytes high t)
  given : m "given" = some (.ref gv)
  head : ∃ t, m "head" = some (.int hd t)
theorem Vars.put {m : Str → Option Value} {lw gv : Addr} {low high : Array UInt8} {hd : Int} {x : Str} {v : Value} (h : Vars m lw gv low high hd) (h1 : x ≠ "words") (h2 : x ≠ "low") (h3 : x ≠ "high") (h4 : x ≠ "given") (h5 : x ≠ "head") :
    Vars (fun y => if y = x then some v else m y) lw gv low high hd :=
  ⟨by rw [if_neg (Ne.symm h1)]; exact h.words, by rw [if_neg (Ne.symm h2)]; exact h.low, by rw [if_neg (Ne.symm h3)]; exact h.high, by rw [if_neg (Ne.symm h4)]; exact h.given, by rw [if_neg (Ne.symm h5)]; exact h.head⟩
/-- the objects that stay -/
structure Sit (h₁ : Heap) (L lw : Addr) (ys : List Value) (ns : List Int) (wd : Nat) : Prop where
  list : h₁.IsList lw ys.toArray
  nums : IntsAre ys ns
  cell : ∃ t, h₁.IsCell (L + 1) (some (.int (wd : Int) t))
  off : lw ≠ L
  len : ns.length ≤ 16
  wd1 : 1 ≤ wd
  wd9 : wd ≤ 9
section
variable {h₀ h₁ h : Heap} {L lw : Addr} {m : Str → Option Value} {ys : List Value} {ns : List Int} {wd : Nat}
theorem Sit.listAt (S : Sit h₁ L lw ys ns wd) (N : Now h₀ h₁ L h m) : h.IsList lw ys.toArray := S.list.at fun o e => N.K _ o S.off e
theorem Sit.cellAt (S : Sit h₁ L lw ys ns wd) (N : Now h₀ h₁ L h m) : ∃ t, h.IsCell (L + 1) (some (.int (wd : Int) t)) := by
  obtain ⟨t, o, e, hd⟩ := S.cell
  exact ⟨t, o, N.K _ o (Nat.ne_of_gt (Nat.lt_succ_self L)) e, hd⟩
theorem Sit.next (S : Sit h₁ L lw ys ns wd) (N : Now h₀ h₁ L h m) : Sit h L lw ys ns wd := ⟨S.listAt N, S.nums, S.cellAt N, S.off, S.len, S.wd1, S.wd9⟩
end
section
variable {prog : Program} {w : World} {A : Around} {E : Value → Shared → Prop} {s : Shared} {h₀ h₁ : Heap} {L f lw gv : Addr} {cd : Value} {m : Str → Option Value} {ys : List Value} {ns : List Int} {wd : Nat}
  {fs fl fh ft fi : Addr} {cs cl ch ct ci : Value} {pos : Pos}

theorem ev_width {Q : Value → Shared → Prop} (S : Sit h₁ L lw ys ns wd) (N : Now h₀ h₁ L s.heap m) (h : ∀ t, Q (.int (wd : Int) t) s) : wpAny (model prog w) A (eval (.Name "width" pos) (lwEnv L f cd)) Q E s := by
  obtain ⟨t, ht⟩ := S.cellAt N
  exact wpAny_Name (wpAny_loadName_cell rfl (by rfl) (by rfl) ht (h t)) (by decide)
theorem ev_loc {x : Str} {v : Value} {Q : Value → Shared → Prop} (N : Now h₀ h₁ L s.heap m) (hv : m x = some v) (h : Q v s) (hx : (lwEnv L f cd).kindOf x = some .local) (hd : (x == ("__debug__" : Str)) = false) : wpAny (model prog w) A (eval (.Name x pos) (lwEnv L f cd)) Q E s :=
  wpAny_Name (wpAny_loadName_local rfl hx N.F.ns hv h) hd
theorem st_loc {x : Str} {v : Value} {Q : Unit → Shared → Prop} (N : Now h₀ h₁ L s.heap m) (h : ∀ h' tk, Now h₀ h₁ L h' (fun y => if y = x then some v else m y) → (∀ a o, a ≠ L → s.heap.get? a = some o → h'.get? a = some o) → Q () { s with heap := h', toks := tk })
    (hx : (lwEnv L f cd).kindOf x = some .local) : wpAny (model prog w) A (storeName (lwEnv L f cd) x v) Q E s :=
  wpAny_storeName_local hx N.F.ns (fun h' hn hs => h h' _ ⟨N.F.set hn hs, fun a o n e => hs.extBut a o n (N.K a o n e)⟩ fun a o n e => hs.extBut a o n e) (by rfl)
theorem callWith_fn {n : Nat} {nm : Str} {g : Addr} {cdv : Value} {env : Env} {e : Expr} {rest : List Expr} {Q : Value → Shared → Prop} (X : FnAt h₀ n nm g cdv)
    (h : wpAny (model prog w) A (spliced (backTo pos (starEach (e :: rest) env))) (fun vs s₁ => (∀ a o, h₀.get? a = some o → s₁.heap.get? a = some o) ∧ wpAny (model prog w) A (call (.ref g) vs) Q E s₁) E s)
    (he : starEach (e :: rest) env = (false, eval e env) :: starEach rest env := by rfl) :
    wpAny (model prog w) A (callWith pos (.ref g) [] (backTo pos (starEach (e :: rest) env)) []) Q E s := by
  obtain ⟨o, doc, pm, an, ct, ho, hd, _⟩ := X
  refine PyProof.Rows.callWith_def hd (wpAny_mono h (fun vs s₁ h₁ => ⟨h₁.1 _ _ ho, h₁.2⟩) fun _ _ x => x) he

/-- _law_is of a turn -/
theorem is_swap {x : Str} {v : Value} {b c : Array UInt8} {wv T : Nat} {e2 e3 : Expr} {p1 p2 p3 p4 p5 : Pos} {Q : Value → Shared → Prop} (hA : AOk A (lwEnv L f cd)) (B : Base h₀ fs fl fh ft fi cs cl ch ct ci) (N : Now h₀ h₁ L s.heap m)
    (hx : m x = some v) (hxk : (lwEnv L f cd).kindOf x = some .local) (hxd : (x == ("__debug__" : Str)) = false) (hb : IsBuf s.heap b v) (hz : b.size ≤ 65536) (hw0 : 0 < wv) (hw' : wv ≤ 65536) (hT : b.size = T * wv) (hc : outerF b wv T = c)
    (he2 : ∀ (Q₁ : Value → Shared → Prop), (∀ tk t, Q₁ (.int (wv : Int) t) { s with toks := tk }) → wpAny (model prog w) A (eval e2 (lwEnv L f cd)) Q₁ E s)
    (he3 : ∀ h tk (Q₁ : Value → Shared → Prop), Now h₀ h₁ L h m → (∀ h' tk t, Now h₀ h₁ L h' m → Q₁ (.bytes c t) { s with heap := h', toks := tk }) → wpAny (model prog w) A (eval e3 (lwEnv L f cd)) Q₁ E { s with heap := h, toks := tk })
    (hq : ∀ h' tk, Now h₀ h₁ L h' m → Q (.bool true) { s with heap := h', toks := tk })
    (hs2 : starEach [e2] (lwEnv L f cd) = (false, eval e2 (lwEnv L f cd)) :: starEach [] (lwEnv L f cd) := by rfl) (hs3 : starEach [e3] (lwEnv L f cd) = (false, eval e3 (lwEnv L f cd)) :: starEach [] (lwEnv L f cd) := by rfl) :
    wpC (model prog w) A (eval (.Call (.Name "_law_is" p1) [.Call (.Name "_byteswap" p2) [.Name x p3, e2] [] p4, e3] [] p5) (lwEnv L f cd)) Q E s := by
  refine wpC_Call ?_
  refine name_glob (B.gi.keeps N.F.keep) ?_
  refine wpC_callWith_fn (n := 6) (nm := "_law_is") (cdv := ci) (wpC_args_cons ?_) (by rfl) (by rw [hs3]; rfl)
  refine wpC_Call ?_
  refine name_glob (B.gs.keeps N.F.keep) ?_
  refine wpC_callWith_fn (n := 1) (nm := "_byteswap") (cdv := cs) (wpC_args_cons ?_) (by rfl) (by rw [hs2]; rfl)
  refine wpC_of (ev_loc N hx ?_ hxk hxd)
  refine wpC_args_cons (wpC_of (he2 _ fun tk t => wpC_args_nil ⟨B.s.keeps N.F.keep, ?_⟩)) hs2
  refine swap_ok (s := { s with toks := tk }) hA.guards hA.handled (by have := hA.room; omega) (B.G.keeps N.F.keep) (B.s.keeps N.F.keep) hb hz hw0 hw' hT fun h' tk' t' hk => ?_
  refine wpC_args_cons (wpC_of (he3 h' tk' _ (N.ext hk) fun h'' tk'' t'' N'' => wpC_args_nil ⟨B.i.keeps N''.F.keep, wpC_of ?_⟩)) hs3
  refine is_call (s := { s with heap := h'', toks := tk'' }) (by have := hA.room; omega) (B.G.keeps N''.F.keep) (B.GT.keeps N''.F.keep) (B.i.keeps N''.F.keep) hc fun h3 tk3 hk3 => ?_
  exact hq h3 tk3 (N''.ext hk3)
end
end Mine

/- part G3 -/
namespace Mine
abbrev lowA (ns : List Int) (wd : Nat) : Array UInt8 := byteArr (lowL ns wd)
abbrev highA (ns : List Int) (wd : Nat) : Array UInt8 := byteArr (highL ns wd)
theorem lowA_size {ns : List Int} {wd : Nat} : (lowA ns wd).size = ns.length * wd := by rw [byteArr_size, lowL_length]
theorem highA_size {ns : List Int} {wd : Nat} : (highA ns wd).size = ns.length * wd := by rw [byteArr_size, highL_length]
section
variable {prog : Program} {w : World} {A : Around} {E : Value → Shared → Prop} {s : Shared} {h₀ h₁ : Heap} {L f lw gv : Addr} {cd : Value} {m : Str → Option Value} {ys : List Value} {ns : List Int} {wd : Nat} {hd : Int}
  {fs fl fh ft fi : Addr} {cs cl ch ct ci : Value} {pos : Pos}
theorem Sit.mul (S : Sit h₁ L lw ys ns wd) : ns.length * wd ≤ 144 := Nat.le_trans (Nat.mul_le_mul S.len S.wd9) (by decide)

theorem st_low {Q : Flow → Shared → Prop} (hA : AOk A (lwEnv L f cd)) (B : Base h₀ fs fl fh ft fi cs cl ch ct ci) (S : Sit h₁ L lw ys ns wd) (N : Now h₀ h₁ L s.heap m) (hw : m "words" = some (.ref lw))
    (hq : ∀ h' tk t, Now h₀ h₁ L h' (fun y => if y = "low" then some (.bytes (lowA ns wd) t) else m y) → Q .next { s with heap := h', toks := tk }) : wpAny (model prog w) A (exec (lawStmt 4) (lwEnv L f cd)) Q E s := by
  refine wpAny_Assign_Name (Call_ ?_)
  refine name_glob (B.gl.keeps N.F.keep) ?_
  refine callWith_fn B.l (args_cons (ev_loc N hw ?_ (by rfl) (by decide)))
  refine args_cons (ev_width S N fun t => args_nil ⟨N.F.keep, ?_⟩)
  refine low_call hA.handled (by have := hA.room; omega) (B.G.keeps N.F.keep) (B.l.keeps N.F.keep) (S.listAt N) S.nums (by have := S.wd9; omega) (by have := S.len; omega) fun h' tk t hk => ?_
  exact st_loc (s := { s with heap := h', toks := tk }) (N.ext hk) (fun h'' tk'' N'' _ => hq h'' tk'' t N'') (by rfl)
theorem st_high {Q : Flow → Shared → Prop} (hA : AOk A (lwEnv L f cd)) (B : Base h₀ fs fl fh ft fi cs cl ch ct ci) (S : Sit h₁ L lw ys ns wd) (N : Now h₀ h₁ L s.heap m) (hw : m "words" = some (.ref lw))
    (hq : ∀ h' tk t, Now h₀ h₁ L h' (fun y => if y = "high" then some (.bytes (highA ns wd) t) else m y) → Q .next { s with heap := h', toks := tk }) : wpAny (model prog w) A (exec (lawStmt 5) (lwEnv L f cd)) Q E s := by
  refine wpAny_Assign_Name (Call_ ?_)
  refine name_glob (B.gh.keeps N.F.keep) ?_
  refine callWith_fn B.h (args_cons (ev_loc N hw ?_ (by rfl) (by decide)))
  refine args_cons (ev_width S N fun t => args_nil ⟨N.F.keep, ?_⟩)
  refine high_call hA.handled (by have := hA.room; omega) (B.G.keeps N.F.keep) (B.h.keeps N.F.keep) (S.listAt N) S.nums (by have := S.wd9; omega) (by have := S.len; omega) fun h' tk t hk => ?_
  exact st_loc (s := { s with heap := h', toks := tk }) (N.ext hk) (fun h'' tk'' N'' _ => hq h'' tk'' t N'') (by rfl)
theorem st_given {b : Array UInt8} {t : Tok} {Q : Flow → Shared → Prop} (hA : AOk A (lwEnv L f cd)) (B : Base h₀ fs fl fh ft fi cs cl ch ct ci) (N : Now h₀ h₁ L s.heap m) (hl : m "low" = some (.bytes b t)) (hz : b.size ≤ 65536)
    (hq : ∀ gv h' tk, gv ≠ L → h'.get? gv = some (baObj b) → Now h₀ h₁ L h' (fun y => if y = "given" then some (.ref gv) else m y) → Q .next { s with heap := h', toks := tk }) : wpC (model prog w) A (exec (lawStmt 6) (lwEnv L f cd)) Q E s := by
  refine wpC_Assign_Name (wpC_Call ?_)
  refine name_blt (B.G.keeps N.F.keep) (fun mg mb h1 h2 => ⟨h1.1, h2.1⟩) ?_
  refine wpC_callWith_type (wpC_args_cons (wpC_of (ev_loc N hl (wpC_args_nil ?_) (by rfl) (by decide))))
  refine ba_of_bytes hA.guards (by omega) fun gv h' hn hv hk => ?_
  have hgL : gv ≠ L := fun e => by
    obtain ⟨o, _, _, ho, _⟩ := N.F.ns
    rw [e, ho] at hn; cases hn
  exact st_loc (s := { s with heap := h', toks := _ }) (N.ext hk) (fun h'' tk'' N'' hk'' => hq gv h'' tk'' hgL (hk'' _ _ hgL hv) N'') (by rfl)

theorem st_good1 {Q : Flow → Shared → Prop} (hA : AOk A (lwEnv L f cd)) (B : Base h₀ fs fl fh ft fi cs cl ch ct ci) (S : Sit h₁ L lw ys ns wd) (N : Now h₀ h₁ L s.heap m) (V : Vars m lw gv (lowA ns wd) (highA ns wd) hd)
    (hq : ∀ h' tk, Now h₀ h₁ L h' (fun y => if y = "good" then some (.bool true) else m y) → Q .next { s with heap := h', toks := tk }) : wpC (model prog w) A (exec (lawStmt 7) (lwEnv L f cd)) Q E s := by
  have hm := S.mul
  obtain ⟨tl, hl⟩ := V.low
  obtain ⟨th, hh⟩ := V.high
  refine wpC_Assign_Name (wpC_and_more ?_)
  refine is_swap (wv := wd) (T := ns.length) (c := highA ns wd) hA B N hl (by rfl) (by decide) (.bytes tl) (by rw [lowA_size]; omega) S.wd1 (by have := S.wd9; omega) lowA_size (low_high S.wd1)
    (fun Q₁ h => ev_width S N fun t => h _ t) (fun h tk Q₁ N' h' => ev_loc (s := { s with heap := h, toks := tk }) N' hh (h' _ _ _ N') (by rfl) (by decide)) fun h' tk N' => ?_
  refine wpAny_truthy_bool ?_
  rw [if_pos rfl]
  refine wpC_and_one ?_
  refine is_swap (s := { s with heap := h', toks := tk }) (wv := wd) (T := ns.length) (c := lowA ns wd) hA B N' hh (by rfl) (by decide) (.bytes th) (by rw [highA_size]; omega) S.wd1 (by have := S.wd9; omega) highA_size (high_low S.wd1)
    (fun Q₁ h => ev_width S N' fun t => h _ t) (fun h tk Q₁ N' h' => ev_loc (s := { s with heap := h, toks := tk }) N' hl (h' _ _ _ N') (by rfl) (by decide)) fun h'' tk'' N'' => ?_
  exact st_loc (s := { s with heap := h'', toks := tk'' }) N'' (fun h3 tk3 N3 _ => hq h3 tk3 N3) (by rfl)

theorem st_good2 {Q : Flow → Shared → Prop} (hA : AOk A (lwEnv L f cd)) (B : Base h₀ fs fl fh ft fi cs cl ch ct ci) (S : Sit h₁ L lw ys ns wd) (N : Now h₀ h₁ L s.heap m) (V : Vars m lw gv (lowA ns wd) (highA ns wd) hd) (hg : m "good" = some (.bool true))
    (hgv : h₁.get? gv = some (baObj (lowA ns wd))) (hgL : gv ≠ L)
    (hq : ∀ h' tk, Now h₀ h₁ L h' (fun y => if y = "good" then some (.bool true) else m y) → Q .next { s with heap := h', toks := tk }) : wpC (model prog w) A (exec (lawStmt 8) (lwEnv L f cd)) Q E s := by
  have hm := S.mul
  obtain ⟨tl, hl⟩ := V.low
  obtain ⟨th, hh⟩ := V.high
  refine wpC_Assign_Name (wpC_and_more (wpC_of (ev_loc N hg (wpAny_truthy_bool ?_) (by rfl) (by decide))))
  rw [if_pos rfl]
  refine wpC_and_more ?_
  refine is_swap (wv := wd) (T := ns.length) (c := highA ns wd) hA B N V.given (by rfl) (by decide) (.ba gv (N.K _ _ hgL hgv)) (by rw [lowA_size]; omega) S.wd1 (by have := S.wd9; omega) lowA_size (low_high S.wd1)
    (fun Q₁ h => ev_width S N fun t => h _ t) (fun h tk Q₁ N' h' => ev_loc (s := { s with heap := h, toks := tk }) N' hh (h' _ _ _ N') (by rfl) (by decide)) fun h' tk N' => ?_
  refine wpAny_truthy_bool ?_
  rw [if_pos rfl]
  refine wpC_and_one (wpC_of ?_)
  refine wpAny_Compare1 (Call_ ?_)
  refine name_blt (s := { s with heap := h', toks := tk }) (B.G.keeps N'.F.keep) (fun mg mb h1 h2 => ⟨h1.2.2.2.1, h2.2.2.2.1⟩) ?_
  refine PyProof.Rows.callWith_type1 (args_cons (ev_loc (s := { s with heap := h', toks := tk }) N' V.given (args_nil ?_) (by rfl) (by decide)))
  refine bytes_of_ba (s := { s with heap := h', toks := tk }) (N'.K _ _ hgL hgv) (by rw [lowA_size]; omega) fun t k => ?_
  refine ev_loc (s := { s with heap := h', toks := k }) N' hl ?_ (by rfl) (by decide)
  refine eq_bytes ?_
  rw [beq_self_eq_true]
  exact st_loc (s := { s with heap := h', toks := k }) N' (fun h3 tk3 N3 _ => hq h3 tk3 N3) (by rfl)
end
end Mine

/- part G4 -/
namespace Mine
section
variable {prog : Program} {w : World} {A : Around} {E : Value → Shared → Prop} {s : Shared} {h₀ h₁ : Heap} {L f lw gv : Addr} {cd : Value} {m : Str → Option Value} {ys : List Value} {ns : List Int} {wd : Nat} {hd : Int}
  {fs fl fh ft fi : Addr} {cs cl ch ct ci : Value} {pos : Pos}
theorem gl_left (B : Base h₀ fs fl fh ft fi cs cl ch ct ci) (N : Now h₀ h₁ L s.heap m) : ∀ h', (∀ a o, a ≠ L → s.heap.get? a = some o → h'.get? a = some o) → Gl h' :=
  fun _ hk => B.G.keeps fun a o e => hk a o (below_L N.F e) (N.F.keep a o e)

theorem st_good3 {Q : Flow → Shared → Prop} (hA : AOk A (lwEnv L f cd)) (B : Base h₀ fs fl fh ft fi cs cl ch ct ci) (S : Sit h₁ L lw ys ns wd) (N : Now h₀ h₁ L s.heap m) (V : Vars m lw gv (lowA ns wd) (highA ns wd) hd) (hg : m "good" = some (.bool true))
    (hq : ∀ h' tk, Now h₀ h₁ L h' (fun y => if y = "good" then some (.bool true) else m y) → Q .next { s with heap := h', toks := tk }) : wpC (model prog w) A (exec (lawStmt 9) (lwEnv L f cd)) Q E s := by
  have hm := S.mul
  have hr := hA.room
  obtain ⟨tl, hl⟩ := V.low
  refine wpC_Assign_Name (wpC_and_more (wpC_of (ev_loc N hg (wpAny_truthy_bool ?_) (by rfl) (by decide))))
  rw [if_pos rfl]
  refine wpC_and_more (wpC_Compare1 (wpC_Call ?_))
  refine name_glob (B.gt.keeps N.F.keep) ?_
  refine wpC_callWith_fn (n := 5) (nm := "_law_turn") (cdv := ct) (wpC_args_cons (wpC_of (ev_loc N hl ?_ (by rfl) (by decide))))
  refine wpC_args_cons (wpC_of (wpAny_Constant_int (wpC_args_nil ⟨B.t.keeps N.F.keep, ?_⟩)))
  refine turn_zero (s := { s with toks := _ }) (b := lowA ns wd) hA.guards hA.handled (by omega) hA.frames rfl rfl N.F.ns (B.G.keeps N.F.keep) (gl_left B N) (B.t.keeps N.F.keep) (B.s.keeps N.F.keep) (B.gs.keeps N.F.keep) (.bytes tl) (by rw [lowA_size]; omega) fun h' tk t Lf => ?_
  have N' := N.left Lf
  refine Calls.Constant_str ?_
  refine eq_str ?_
  rw [beq_self_eq_true]
  refine wpAny_truthy_bool ?_
  rw [if_pos rfl]
  refine wpC_and_one (wpC_Call ?_)
  refine name_glob (s := { s with heap := h', toks := _ }) (B.gi.keeps N'.F.keep) ?_
  refine wpC_callWith_fn (n := 6) (nm := "_law_is") (cdv := ci) (wpC_args_cons (wpC_Call ?_))
  refine name_glob (s := { s with heap := h', toks := _ }) (B.gt.keeps N'.F.keep) ?_
  refine wpC_callWith_fn (n := 5) (nm := "_law_turn") (cdv := ct) (wpC_args_cons (wpC_of (ev_loc (s := { s with heap := h', toks := _ }) N' hl ?_ (by rfl) (by decide))))
  refine wpC_args_cons (wpC_of (wpAny_UnaryOp (ev_width (s := { s with heap := h', toks := _ }) S N' fun t => P.neg_int (wpC_args_nil ⟨B.t.keeps N'.F.keep, ?_⟩))))
  have hw9 := S.wd9
  have hw1 := S.wd1
  refine turn_neg (s := { s with heap := h', toks := _ }) (b := lowA ns wd) hA.guards hA.handled (by omega) (B.G.keeps N'.F.keep) (B.t.keeps N'.F.keep) (B.s.keeps N'.F.keep) (B.gs.keeps N'.F.keep) (.bytes tl) (by rw [lowA_size]; omega) (by omega) (by omega) fun h2 tk2 t2 hk2 => ?_
  have N2 := N'.ext hk2
  refine wpC_args_cons (wpC_of (Call_ ?_))
  refine name_blt (s := { s with heap := h2, toks := tk2 }) (B.G.keeps N2.F.keep) (fun mg mb h1 h2 => ⟨h1.2.2.2.1, h2.2.2.2.1⟩) ?_
  refine PyProof.Rows.callWith_type1 (args_cons (Call_ ?_))
  refine name_blt (s := { s with heap := h2, toks := tk2 }) (B.G.keeps N2.F.keep) (fun mg mb h1 h2 => ⟨h1.2.1, h2.2.1⟩) ?_
  refine PyProof.Rows.callWith_builtin1 (args_cons (ev_loc (s := { s with heap := h2, toks := tk2 }) N2 hl (args_nil ?_) (by rfl) (by decide)))
  refine len_bytes (by rw [lowA_size]; omega) (args_nil ?_)
  refine bytes_of_int (by omega) (by rw [lowA_size]; omega) fun t3 tk3 => wpC_args_nil ⟨B.i.keeps N2.F.keep, wpC_of ?_⟩
  refine is_call (s := { s with heap := h2, toks := tk3 }) (by omega) (B.G.keeps N2.F.keep) (B.GT.keeps N2.F.keep) (B.i.keeps N2.F.keep) (by rw [Int.toNat_natCast]) fun h4 tk4 hk4 => ?_
  exact st_loc (s := { s with heap := h4, toks := tk4 }) (N2.ext hk4) (fun h3 tk3 N3 _ => hq h3 tk3 N3) (by rfl)

theorem rev_list (ys : List Value) (h : Heap) : (h.push { cls := .type "list", data := .seq (slicePick ys.toArray none none (some (-1))) }).IsList h.objs.size ys.reverse.toArray := by
  rw [krv_pick]
  exact ⟨_, Heap.get?_push_size _ rfl, rfl, _, rfl⟩
theorem ev_rev {p1 p2 p3 p4 p5 : Pos} {k0 : Nat} {Q : Value → Shared → Prop} (S : Sit h₁ L lw ys ns wd) (N : Now h₀ h₁ L s.heap m) (hw : m "words" = some (.ref lw))
    (hq : ∀ D zs h' tk, (∀ a o, s.heap.get? a = some o → h'.get? a = some o) → h'.IsList D zs.toArray → IntsAre zs ns.reverse → Q (.ref D) { s with heap := h', toks := tk }) :
    wpAny (model prog w) A (eval (.Subscript (.Name "words" p1) (.Slice none none (some (.UnaryOp .USub (.Constant (.int 1) k0 p2) p3)) p4) p5) (lwEnv L f cd)) Q E s := by
  have hlen := S.len
  have hyl : ys.length = ns.length := S.nums.length
  refine Subscript_ (ev_loc N hw ?_ (by rfl) (by decide))
  show wpAny _ _ (pure Value.none >>= fun l => holding [l] (pure Value.none) >>= fun u => holding [l, u] (eval (.UnaryOp .USub (.Constant (.int 1) k0 p2) p3) (lwEnv L f cd)) >>= fun st => newFields "slice" [l, u, st]) _ _ _
  refine wpAny_bind (wpAny_pure (wpAny_bind (wpAny_holding (wpAny_pure (wpAny_bind (wpAny_holding ?_))))))
  refine wpAny_UnaryOp (wpAny_Constant_int (P.neg_int ?_))
  unfold newFields
  refine wpAny_newObj_type ?_
  refine tail_any (Heap.IsList.typeIs (s := { s with heap := _, toks := _ }) ((S.listAt N).push _)) slot_list_getitem.lookup (wpAny_getItem_list_slice (s := { s with heap := _, toks := _ }) ((S.listAt N).push _) (Heap.IsSliceOf.new ..) .none .none (IsPart.int _ _) (by decide) ?_ (by rw [List.size_toArray, sizeLine_eq]; omega)) (by with_unfolding_all rfl)
  exact hq _ ys.reverse _ _ (fun a o e => Heap.get?_push_of_some _ (Heap.get?_push_of_some _ e)) (rev_list ys _) S.nums.reverse

theorem st_if1 {Q : Flow → Shared → Prop} (hA : AOk A (lwEnv L f cd)) (B : Base h₀ fs fl fh ft fi cs cl ch ct ci) (S : Sit h₁ L lw ys ns wd) (N : Now h₀ h₁ L s.heap m) (V : Vars m lw gv (lowA ns wd) (highA ns wd) hd) (hg : m "good" = some (.bool true))
    (hq : ∀ h' tk m', Now h₀ h₁ L h' m' → Vars m' lw gv (lowA ns wd) (highA ns wd) hd → m' "good" = some (.bool true) → Q .next { s with heap := h', toks := tk }) : wpC (model prog w) A (exec (lawStmt 10) (lwEnv L f cd)) Q E s := by
  have hm := S.mul
  have hr := hA.room
  have hlen := S.len
  have hw9 := S.wd9
  have hw1 := S.wd1
  have hyl : ys.length = ns.length := S.nums.length
  obtain ⟨th, hh⟩ := V.high
  refine wpC_If (isTrue_plain (ev_loc N V.words ?_ (by rfl) (by decide)))
  refine wpAny_truthy_list (S.listAt N) (by rw [List.size_toArray]; omega) ?_
  cases hys : ys.toArray.isEmpty with
  | true =>
    rw [if_neg (by decide)]
    exact wpC_execs_nil (hq s.heap _ m N V hg)
  | false =>
    rw [if_pos (by decide)]
    have hpos : 0 < ns.length := by
      rcases Nat.eq_zero_or_pos ns.length with h | h
      · rw [h] at hyl
        rw [List.eq_nil_of_length_eq_zero hyl] at hys
        cases hys
      · exact h
    have hmul : 0 < ns.length * wd := Nat.mul_pos hpos hw1
    refine wpC_execs_cons (wpC_Assign_Name (wpC_and_more (wpC_of (ev_loc (s := { s with toks := _ }) N hg (wpAny_truthy_bool ?_) (by rfl) (by decide)))))
    rw [if_pos rfl]
    refine wpC_and_one ?_
    refine is_swap (s := { s with toks := _ }) (wv := (highA ns wd).size) (T := 1) (c := lowA ns.reverse wd) hA B N hh (by rfl) (by decide) (.bytes th) (by rw [highA_size]; omega) (by rw [highA_size]; exact hmul) (by rw [highA_size]; omega) (by rw [Nat.one_mul]) (whole_reverse hmul)
      (fun Q₁ h => ?_) (fun h tk Q₁ N' h' => ?_) fun h' tk N' => ?_
    · refine Call_ ?_
      refine name_blt (s := { s with toks := _ }) (B.G.keeps N.F.keep) (fun mg mb h1 h2 => ⟨h1.2.1, h2.2.1⟩) ?_
      refine PyProof.Rows.callWith_builtin1 (args_cons (ev_loc (s := { s with toks := _ }) N hh (args_nil ?_) (by rfl) (by decide)))
      exact len_bytes (by rw [highA_size]; omega) (h _ _)
    · refine Call_ ?_
      refine name_glob (s := { s with heap := h, toks := tk }) (B.gl.keeps N'.F.keep) ?_
      refine callWith_fn (s := { s with heap := h, toks := tk }) B.l (args_cons (ev_rev (s := { s with heap := h, toks := tk }) S N' V.words fun D zs h2 tk2 hk2 hD hz => ?_))
      have N2 := N'.ext hk2
      refine args_cons (ev_width (s := { s with heap := h2, toks := tk2 }) S N2 fun t => args_nil ⟨N2.F.keep, ?_⟩)
      refine low_call (s := { s with heap := h2, toks := tk2 }) hA.handled (by omega) (B.G.keeps N2.F.keep) (B.l.keeps N2.F.keep) hD hz (by omega) (by rw [List.length_reverse]; omega) fun h3 tk3 t3 hk3 => ?_
      exact h' h3 tk3 t3 (N2.ext hk3)
    · exact st_loc (s := { s with heap := h', toks := tk }) N' (fun h3 tk3 N3 _ => wpC_execs_nil (hq h3 tk3 _ N3 (V.put (by decide) (by decide) (by decide) (by decide) (by decide)) (by rw [if_pos rfl]))) (by rfl)

theorem st_if2 {Q : Flow → Shared → Prop} (hA : AOk A (lwEnv L f cd)) (B : Base h₀ fs fl fh ft fi cs cl ch ct ci) (S : Sit h₁ L lw ys ns wd) (N : Now h₀ h₁ L s.heap m) (V : Vars m lw gv (lowA ns wd) (highA ns wd) hd) (hg : m "good" = some (.bool true))
    (hq : ∀ h' tk m', Now h₀ h₁ L h' m' → m' "good" = some (.bool true) → Q .next { s with heap := h', toks := tk }) : wpC (model prog w) A (exec (lawStmt 11) (lwEnv L f cd)) Q E s := by
  have hm := S.mul
  have hr := hA.room
  have hw9 := S.wd9
  have hw1 := S.wd1
  obtain ⟨tl, hl⟩ := V.low
  obtain ⟨thd, hhd⟩ := V.head
  refine wpC_If (wpAny_isTrue_Compare1 (ev_width S N fun t => wpAny_Constant_int ?_))
  refine P.gt_int ?_
  refine wpAny_truthy_bool ?_
  by_cases hw : wd ≤ 1
  · rw [if_neg (by simp; omega)]
    exact wpC_execs_nil (hq s.heap _ m N hg)
  · rw [if_pos (by simp; omega)]
    have hwz : ((wd : Int) - 1) ≠ 0 := by omega
    have hf1 : 0 ≤ (hd.fdiv 9).fmod ((wd : Int) - 1) := Int.fmod_nonneg_of_pos _ (by omega)
    have hf2 : (hd.fdiv 9).fmod ((wd : Int) - 1) < (wd : Int) - 1 := Int.fmod_lt_of_pos _ (by omega)
    refine wpC_execs_cons (wpC_of (wpAny_Assign_Name (Call_ ?_)))
    refine name_blt (s := { s with toks := _ }) (B.G.keeps N.F.keep) (fun mg mb h1 h2 => ⟨h1.2.2.2.1, h2.2.2.2.1⟩) ?_
    refine PyProof.Rows.callWith_type1 (args_cons (wpAny_BinOp (wpAny_BinOp (wpAny_BinOp (ev_loc (s := { s with toks := _ }) N hhd (wpAny_Constant_int ?_) (by rfl) (by decide))))))
    refine floordiv_int (by decide) ?_ (Or.inl (PyProof.noPylong_small (by decide)))
    refine wpAny_BinOp (ev_width (s := { s with toks := _ }) S N fun t => wpAny_Constant_int (PyProof.Rows.sub_int' ?_))
    refine PyProof.Rows.mod_int' hwz (wpAny_Constant_int (PyProof.Rows.add_int (args_nil ?_)))
    refine bytes_of_int (by omega) (by omega) fun t3 tk3 => ?_
    refine st_loc (s := { s with toks := tk3 }) N (fun h' tk N' _ => ?_) (by rfl)
    refine wpC_execs_cons (wpC_Assign_Name (wpC_and_more (wpC_of (ev_loc (s := { s with heap := h', toks := tk }) N' (by rw [if_neg (by decide)]; exact hg) (wpAny_truthy_bool ?_) (by rfl) (by decide)))))
    rw [if_pos rfl]
    refine wpC_and_one (wpC_Compare1 (wpC_Call ?_))
    refine name_glob (s := { s with heap := h', toks := _ }) (B.gt.keeps N'.F.keep) ?_
    refine wpC_callWith_fn (n := 5) (nm := "_law_turn") (cdv := ct) (wpC_args_cons (wpC_of (wpAny_BinOp (ev_loc (s := { s with heap := h', toks := _ }) N' (by rw [if_neg (by decide)]; exact hl) ?_ (by rfl) (by decide)))))
    refine ev_loc (s := { s with heap := h', toks := _ }) N' (by rw [if_pos rfl]) ?_ (by rfl) (by decide)
    refine KBy.add_bytes (s := { s with heap := h', toks := _ }) (by rw [lowA_size, Array.size_replicate]; omega) fun t5 tk5 => ?_
    refine wpC_args_cons (wpC_of (ev_width (s := { s with heap := h', toks := tk5 }) S N' fun t => wpC_args_nil ⟨B.t.keeps N'.F.keep, ?_⟩))
    refine turn_loose (s := { s with heap := h', toks := tk5 }) (n := ns.length) hA.guards hA.handled (by omega) hA.frames rfl rfl N'.F.ns (B.G.keeps N'.F.keep) (gl_left (s := { s with heap := h', toks := tk5 }) B N') (B.t.keeps N'.F.keep) (B.s.keeps N'.F.keep) (B.gs.keeps N'.F.keep) (.bytes t5) (by rw [Array.size_append, lowA_size, Array.size_replicate]; omega) (by omega) (by rw [Array.size_append, lowA_size, Array.size_replicate]; omega) (by rw [Array.size_append, lowA_size, Array.size_replicate]; omega) fun h2 tk2 t2 Lf => ?_
    have N2 := N'.left Lf
    refine Calls.Constant_str ?_
    refine eq_str ?_
    rw [beq_self_eq_true]
    exact st_loc (s := { s with heap := h2, toks := _ }) N2 (fun h3 tk3 N3 _ => wpC_execs_nil (hq h3 tk3 _ N3 (by rw [if_pos rfl]))) (by rfl)
end
end Mine

/- part G5 -/
namespace Mine
section
variable {prog : Program} {w : World} {A : Around} {E : Value → Shared → Prop} {s : Shared} {h₀ h₁ : Heap} {L f lw : Addr} {cd : Value} {m : Str → Option Value} {ys : List Value} {ns : List Int} {wd : Nat} {hd : Int}
  {fs fl fh ft fi : Addr} {cs cl ch ct ci : Value}
theorem drop4 : (defBody 7).drop 4 = [lawStmt 4, lawStmt 5, lawStmt 6, lawStmt 7, lawStmt 8, lawStmt 9, lawStmt 10, lawStmt 11, lawStmt 12] := by rfl
theorem law_tail {Q : Flow → Shared → Prop} (hA : AOk A (lwEnv L f cd)) (B : Base h₀ fs fl fh ft fi cs cl ch ct ci) (S : Sit s.heap L lw ys ns wd) (F : Fr h₀ L s.heap m)
    (hw : m "words" = some (.ref lw)) (hhd : ∃ t, m "head" = some (.int hd t))
    (hq : ∀ h' tk m', Fr h₀ L h' m' → Q (.ret (.bool true)) { s with heap := h', toks := tk }) : wpC (model prog w) A (execs ((defBody 7).drop 4) (lwEnv L f cd)) Q E s := by
  have hm := S.mul
  rw [drop4]
  refine wpC_execs_cons (wpC_of (st_low hA B S (Now.self F) hw fun h4 tk4 t4 N4 => ?_))
  refine wpC_execs_cons (wpC_of (st_high (s := { s with heap := h4, toks := tk4 }) hA B S N4 (by rw [if_neg (by decide)]; exact hw) fun h5 tk5 t5 N5 => ?_))
  refine wpC_execs_cons (st_given (s := { s with heap := h5, toks := tk5 }) (b := lowA ns wd) (t := t4) hA B N5 (by rw [if_neg (by decide), if_pos rfl]) (by rw [lowA_size]; omega) fun gv h6 tk6 hgL hgv N6 => ?_)
  have S6 := S.next N6
  have V6 : Vars (fun y => if y = ("given" : Str) then some (Value.ref gv) else if y = ("high" : Str) then some (Value.bytes (highA ns wd) t5) else if y = ("low" : Str) then some (Value.bytes (lowA ns wd) t4) else m y) lw gv (lowA ns wd) (highA ns wd) hd := by
    obtain ⟨thd, hhd⟩ := hhd
    refine ⟨?_, ⟨t4, ?_⟩, ⟨t5, ?_⟩, if_pos rfl, ⟨thd, ?_⟩⟩
    · rw [if_neg (by decide), if_neg (by decide), if_neg (by decide)]; exact hw
    · rw [if_neg (by decide), if_neg (by decide), if_pos rfl]
    · rw [if_neg (by decide), if_pos rfl]
    · rw [if_neg (by decide), if_neg (by decide), if_neg (by decide)]; exact hhd
  have N6' := Now.self N6.F
  refine wpC_execs_cons (st_good1 (s := { s with heap := h6, toks := tk6 }) hA B S6 N6' V6 fun h7 tk7 N7 => ?_)
  have V7 := V6.put (x := "good") (v := .bool true) (by decide) (by decide) (by decide) (by decide) (by decide)
  refine wpC_execs_cons (st_good2 (s := { s with heap := h7, toks := tk7 }) hA B S6 N7 V7 (by rw [if_pos rfl]) hgv hgL fun h8 tk8 N8 => ?_)
  have V8 := V7.put (x := "good") (v := .bool true) (by decide) (by decide) (by decide) (by decide) (by decide)
  refine wpC_execs_cons (st_good3 (s := { s with heap := h8, toks := tk8 }) hA B S6 N8 V8 (by rw [if_pos rfl]) fun h9 tk9 N9 => ?_)
  have V9 := V8.put (x := "good") (v := .bool true) (by decide) (by decide) (by decide) (by decide) (by decide)
  refine wpC_execs_cons (st_if1 (s := { s with heap := h9, toks := tk9 }) hA B S6 N9 V9 (by rw [if_pos rfl]) fun h10 tk10 m10 N10 V10 g10 => ?_)
  refine wpC_execs_cons (st_if2 (s := { s with heap := h10, toks := tk10 }) hA B S6 N10 V10 g10 fun h11 tk11 m11 N11 g11 => ?_)
  refine wpC_execs_cons (wpC_Return (wpC_of (ev_loc (s := { s with heap := h11, toks := tk11 }) N11 g11 ?_ (by rfl) (by decide))))
  exact hq h11 tk11 m11 N11.F
end
end Mine

/- part C1h -/
namespace Mine
open PySem.Sem (wp)

theorem clean_caller : Clean ⟨.builtin "claim.caller" {}, none, none, [], none⟩ :=
  ⟨ok_builtin (by decide +kernel), fun x hx => nomatch hx⟩

theorem ends_C {prog : Program} {w : World} {t : Sem Fin} {s : Shared} {R : Result → Shared → Prop} (hreg : s.asleep)
    (h : wpC (model prog w) callerA t (fun fin s' => ∃ f, fin = .done f ∧ (R (.ok f) s' ∧ leftWithCleanup s'.gens = false)) (fun e s' => R (.error e) s' ∧ leftWithCleanup s'.gens = false) s) :
    ∃ n r s' s'', runN (denote table) prog w n s ⟨t, .builtin "claim.caller" {}, default, []⟩ = .halted (outcomeOf r) s' ∧
      schedN (denote table) prog w n (.single s ⟨t, .builtin "claim.caller" {}, default, []⟩) = .halted (outcomeOf r) s' ∧ s'.forget = s''.forget ∧ R r s'' := by
  have h1 : wp (model prog w) ⟨.builtin "claim.caller" {}, none, none, [], none⟩ t
      (Sem.finPost (model prog w) ⟨.builtin "claim.caller" {}, none, none, [], none⟩ fun r s' => R r s' ∧ leftWithCleanup s'.gens = false) (fun e _ s' => R (.error e) s' ∧ leftWithCleanup s'.gens = false) default s := by
    refine Sem.wp_mono _ _ t (fun fin p' s' h' => ?_) (fun _ _ _ h' => h') default s (h _ default caller_in clean_caller)
    obtain ⟨f, rfl, hf⟩ := h'
    exact hf
  obtain ⟨n, r, s₁, s₂, hs, hn, hfo, hR⟩ := wp_halts_full (M := model prog w) (R := R) hreg h1
  exact ⟨n, r, s₂, s₁, hn, hs, hfo, hR⟩

theorem callFrom_C {c : ClaimW} {tree : List Value → Sem Fin} {w : World} {s : Shared} {free : Addr → Prop} {gens : Prop} {kept : Heap → Prop} (hz : s.asleep) (hgens : s.gens = #[])
    (hspec : ∀ args, c.pre args = true → WData.layableAll args = true →
      ∀ ord : List DictEntry → List DictEntry, (∀ l, (ord l).Perm l) →
      ∃ vs s₁, layAllW c.records (classAt s.heap) w.params ord args s = some (vs, s₁) ∧
        wpC (model c.prog w) callerA (tree vs) (fun fin s' => ∃ f, fin = .done f ∧ (c.Ends s args vs s₁ (.ok f) s' ∧ s'.os = s.os ∧ AllBare s'.gens ∧ kept s'.heap))
          (fun e s' => c.Ends s args vs s₁ (.error e) s' ∧ s'.os = s.os ∧ AllBare s'.gens ∧ kept s'.heap) s₁) :
    c.CallFrom (fun vs => ⟨tree vs, .builtin "claim.caller" {}, default, []⟩) w free gens kept s := by
  intro args hpre hlay ord hord
  obtain ⟨vs, s₁, hlaid, hcode⟩ := hspec args hpre hlay ord hord
  have hal := layAllW_rest _ _ _ hlaid
  obtain ⟨k, r, s', s'', hrun, hsched, hfo, hcase, hos, hkp⟩ := ends_C (prog := c.prog) (w := w) (t := tree vs) (s := s₁)
    (R := fun r s' => c.Ends s args vs s₁ r s' ∧ s'.os = s.os ∧ kept s'.heap)
    (Shared.asleep_of_life hal.2.2.2 hz)
    (wpC_mono hcode (by
      rintro fin s' ⟨f, e, h1, h2, h3, h4⟩
      exact ⟨f, e, ⟨h1, h2, h4⟩, leftWithCleanup_false_of_bare h3⟩) (by
      rintro e s' ⟨h1, h2, h3, h4⟩
      exact ⟨⟨h1, h2, h4⟩, leftWithCleanup_false_of_bare h3⟩))
  obtain ⟨eh, _, _, eo, _⟩ := Shared.forget_eq hfo
  have hcase := hcase.congr eh
  have hkp : kept s'.heap := by rw [eh]; exact hkp
  rw [← eo] at hos
  have hlife : s'.heap.life = s.heap.life := (runN_life _ _ _ hrun).trans hal.2.2.2
  refine ⟨vs, s₁, hlaid, k, _, s', hsched, ?_, (fun _ i x hx => by rw [hgens] at hx; simp at hx), hkp, by rw [hlife], Shared.rest_eq hos⟩
  rcases hcase with ⟨v, rfl, d1, d2, d3, d4, d5⟩ | ⟨e, ob, cls, rfl, d1, d2, d3, d4, d5⟩
  · exact .inl ⟨v, rfl, d1, d2, d3, fun b o y _ => d4 b o y, d5⟩
  · exact .inr ⟨e, ob, cls, rfl, d1, d2, d3, d4, fun b o y _ => d5 b o y⟩

theorem any_C {r : RowW} {tree : List Value → Sem Fin} {q : Program} {loose defs kps : List Str} {writes : Bool} {Xt : Shared → Bool} {XP : (Str → Option Value) → Heap → Prop} {α : Type} {Yf : Shared → α} {Ya : World → α} {YP : World → Heap → Prop} {N : Nat}
    (left : LeftO r.prog q loose Xt Yf Ya N) (hY : ∀ w s, Yf s = Ya w → YP w s.heap) (hYk : ∀ w h h', YP w h → (∀ b o, h.get? b = some o → h'.get? b = some o) → YP w h') (hX : ∀ s, Xt s = true → XP (s.heap.nsMap mainGlobals) s.heap) (hXk : ∀ mg h h', XP mg h → (∀ b o, h.get? b = some o → h'.get? b = some o) → XP mg h')
    (hRf : ∀ s, Xt s = true → RecFacts r.records s.heap) (hwr : (!writes || r.records.isEmpty) = true) (ok : (chainsOk q && opensWell r.prog && (frees r && r.within.isEmpty)) = true) (hb : r.prog.bare) (hw : r.promised)
    (ht : ∀ vs (w : World) (s : Shared) mg f (Q : Fin → Shared → Prop) (E : Value → Shared → Prop), s.heap.Ns mainGlobals mg → mg r.name = some f → wpC (model r.prog w) callerA (PySem.call f vs) (fun v s' => Q (.done (.ret v)) s') E s → wpC (model r.prog w) callerA (tree vs) Q E s)
    (pin : ∀ w s, s.heap.isNs mainGlobals = true → Ground q loose [] XP w s (s.heap.nsMap mainGlobals) (s.heap.nsMap builtinsNs) s.heap → ∀ n ∈ defs, isTheDefsW r.prog s.heap n)
    (call : ∀ (w : World) (s₀ s₁ : Shared) (mg mb : Str → Option Value), Ground q loose r.records XP w s₀ mg mb s₁.heap → YP w s₁.heap → ∀ (args : List WData) (vs : List Value) (as : List Addr),
      r.claim.pre args = true → WData.layableAll args = true → Laid r.records w s₀ s₁ args vs as → sysModules < s₀.heap.objs.size → ∃ f, mg r.name = some f ∧
        wpC (model r.prog w) callerA (PySem.call f vs) (fun v s' => GoodWG r.claim (classAt s₀.heap) (ExcName.means s₀.heap) args s₁ (.ok (.ret v)) s')
          (fun e s' => GoodWG r.claim (classAt s₀.heap) (ExcName.means s₀.heap) args s₁ (.error e) s') s₁) : r.claim.HoldsOpenBy (fun vs => ⟨tree vs, .builtin "claim.caller" {}, default, []⟩) defs kps writes := by
  obtain ⟨ok, k5⟩ := Bool.and_eq_true_iff.mp ok
  obtain ⟨hch, o1⟩ := Bool.and_eq_true_iff.mp ok
  obtain ⟨k5, k6⟩ := Bool.and_eq_true_iff.mp k5
  obtain ⟨hsame, hu, ha, hap, hm⟩ := frees_parts k5
  refine ⟨⟨hb, o1, by show r.makers.map _ = []; rw [hm]; rfl⟩, hw.witness, fun w => ⟨(left.behind hX hch w).1, fun s' hs' => ?_⟩⟩
  obtain ⟨s₀, hf, hg0, s, hT, hz, hgens, hg, G00, y⟩ := (left.behind (XP := fun mg h => XP mg h ∧ RecFacts r.records h) (fun s hs => ⟨hX s hs, hRf s hs⟩) hch w).2 s' hs'
  have G0 : Ground q loose [] XP w s (s.heap.nsMap mainGlobals) (s.heap.nsMap builtinsNs) s.heap := ⟨G00.T, G00.B, G00.D, G00.TE, G00.TD, G00.W, G00.X.1, G00.cls, G00.has, G00.apart, G00.once, G00.K⟩
  have RF := G00.X.2
  refine ⟨s₀, hf, hg0, s, hT, pin w s hg G0, RF.1, RF.2.1, ?_⟩
  have hgens : s.gens = #[] := Array.eq_empty_of_size_eq_zero (beq_iff_eq.mp hgens)
  have G : Ground q loose r.records XP w s _ _ s.heap := RF.ground G0
  refine callFrom_C (c := r.claim) hz hgens fun args hpre hlay ord hord => ?_
  obtain ⟨⟨vs, s₁⟩, hlaid⟩ := Option.isSome_iff_exists.mp (layAllW_isSome (P := w.params) (ord := ord) G.has args r.args s (pre_splitW hpre).1)
  have keeps := layAllW_keeps _ _ _ hlaid
  have hal := layAllW_rest _ _ _ hlaid
  obtain ⟨as, hrd, hin, hold⟩ := reads_layAllW hord _ _ _ hlaid hlay s₁.heap (fun _ _ e => e)
  have L : Laid r.records w s s₁ args vs as := ⟨⟨ord, hord, hlaid⟩, hrd, hin, hold, keeps, hal.1.trans hgens, hal.2.2.1⟩
  have G₁ := G.keeps hXk keeps
  obtain ⟨f, hf, h⟩ := call w s s₁ _ _ G₁ (hYk _ _ _ (hY w s y) keeps) args vs as hpre hlay L G.low
  have hi := ident_freeW hu ha hap
  have hwi : r.claim.within = [] := List.isEmpty_iff.mp k6
  refine ⟨vs, s₁, hlaid, ht vs w s₁ _ f _ _ G₁.T.g hf (wpC_mono h (fun v s' g => ⟨_, rfl, ?_⟩) fun e s' g => ?_)⟩
  · have z := g.laid (c := r.claim) hsame hwi hi L
    exact ⟨z.1, z.2.1, z.2.2, fun q => ⟨namesKept_of hT hg kps keeps g.2.1.old, noTable hwr q⟩⟩
  · have z := g.laid (c := r.claim) hsame hwi hi L
    exact ⟨z.1, z.2.1, z.2.2, fun q => ⟨namesKept_of hT hg kps keeps g.2.1.old, noTable hwr q⟩⟩

/-- the walk that the head asks for, over clean contexts alone -/
abbrev WalkC (q : Program) (loose : List Str) (XP : (Str → Option Value) → Heap → Prop) (YP : World → Heap → Prop) (r : RowW) (d : DefRec) (kwd : List (Str × Expr)) : Prop :=
  ∀ (w : World) (s₀ s₁ : Shared) (mg mb : Str → Option Value), Ground q loose r.records XP w s₀ mg mb s₁.heap → YP w s₁.heap → ∀ (a : Addr) (o : Obj) (pm cd doc dV kV : Value), s₁.heap.get? a = some o →
    o.data = .func { docDef d.name d.params d.body d.scope pm cd doc with defaults := dV, kwdefaults := kV } → s₁.heap.CodeRec cd d.name → Dflts mg s₁.heap d.params kwd dV kV → mg d.name = some (.ref a) → s₁.gens = #[] →
    ∀ (args : List WData) (vals : List Value) (as : List Addr), r.claim.pre args = true → WData.layableAll args = true → ReadsAllW r.records (classAt s₀.heap) s₁.heap vals args as → WellAll w.params s₁.heap vals args → (∀ a ∈ as, (a == sysModules) = false) →
      wpC (model r.prog w) callerA (PySem.call (.ref a) vals) (fun v s' => GoodWG r.claim (classAt s₀.heap) (ExcName.means s₀.heap) args s₁ (.ok (.ret v)) s')
        (fun e s' => GoodWG r.claim (classAt s₀.heap) (ExcName.means s₀.heap) args s₁ (.error e) s') s₁
end Mine

namespace Mine.PySem.W
open _root_.PySem _root_.PySem.W _root_.PySem.Calls PyProof.Rows Mine
theorem holds_open {r : OpenRow} {q : Program} {loose : List Str} {Xt : Shared → Bool} {XP : (Str → Option Value) → Heap → Prop} {α : Type} {Yf : Shared → α} {Ya : World → α} {YP : World → Heap → Prop} {d : DefRec} {kwd : List (Str × Expr)} {N : Nat}
    (left : LeftO r.prog q loose Xt Yf Ya N) (hY : ∀ w s, Yf s = Ya w → YP w s.heap) (hYk : ∀ w h h', YP w h → (∀ b o, h.get? b = some o → h'.get? b = some o) → YP w h')
    (hX : ∀ s, Xt s = true → XP (s.heap.nsMap mainGlobals) s.heap) (hXk : ∀ mg h h', XP mg h → (∀ b o, h.get? b = some o → h'.get? b = some o) → XP mg h')
    (hdef : defOf q r.name = some (d, kwd)) (hp : r.prog.theDef r.name = some (d.params, d.body, d.scope)) (hk : kwWritten? d.params.kwonlyargs d.params.kw_defaults = some kwd) (hRf : ∀ s, Xt s = true → RecFacts r.records s.heap) (hwr : (!r.writes || r.records.isEmpty) = true)
    (k1 : r.wellSaid = true) (ok : (chainsOk q && opensWell r.prog && (frees r.toRowW && r.within.isEmpty)) = true) (hb : r.prog.bare) (hw : r.toRowW.promised)
    (call : WalkC q loose XP YP r.toRowW d kwd) : r.Holds := by
  refine ⟨k1, hw, any_C (r := r.toRowW) (tree := fun vs => do match ← nsGet mainNs r.name with
      | some f => do ret (← _root_.PySem.call f vs)
      | none => unsupported "claim.caller:no-such-global") left hY hYk hX hXk hRf hwr ok hb hw
    (fun vs w s mg f Q E hg hf h => wpC_bindA (wpAny_nsGet hg (by rw [hf]; exact wpC_bind (wpC_mono h (fun _ _ x => wpC_pure x) fun _ _ x => x))))
    (fun w s hg G n hn => ?_) fun w s₀ s₁ mg mb G Y args vs as hpre hlay L low => ?_⟩
  · obtain rfl : n = r.name := by split at hn <;> simp_all
    exact pinned_of_view hg G hdef hp hk
  · obtain ⟨a, o, pm, cd, doc, dV, kV, h1, h2, h3, h4, h5⟩ := G.fn hdef
    exact ⟨.ref a, h1, call w s₀ s₁ mg mb G Y a o pm cd doc dV kV h2 h3 h4 h5 (defOf_name hdef ▸ h1) L.gens args vs as hpre hlay L.reads L.well (L.low low)⟩
end Mine.PySem.W

/- part F1 -/
namespace Mine
theorem call_cellsC {prog : Program} {w : World} {A : Around} {R : Result → Shared → Prop} {s : Shared} {name : Str} {params : Arguments} {body : List Stmt} {scope : Scope}
    {pm cd doc : Value} {a : Addr} {o : Obj} {args : List Value} {binds : List (Str × Value)}
    (hroom : A.depth < recursionLimit) (ho : s.heap.get? a = some o) (hdata : o.data = .func (Calls.docDef name params body scope pm cd doc)) (hlim : s.heap.NoLimit) (hcd : s.heap.CodeRec cd name)
    (hbind : bindArgs (Calls.docDef name params body scope pm cd doc) ⟨args, []⟩ = pure binds)
    (hkind : ∀ x ∈ binds, scope.names.lookup x.1 = some .local ∨ (scope.names.lookup x.1 = some .cell ∧ ((cellsFrom (s.heap.objs.size + 1) scope.names []).lookup x.1).isSome = true))
    (hnd : ((cellsFrom 0 scope.names []).map (·.1)).Nodup)
    (h : ∀ h₁ tk cells, Fr s.heap s.heap.objs.size h₁ (bindL (envOfC name scope s.heap.objs.size a cd).kindOf binds fun _ => none) → News s.heap s.heap.objs.size h₁ cells →
      CellsAre (bindC (envOfC name scope s.heap.objs.size a cd).kindOf binds fun _ => none) (cellsFrom (s.heap.objs.size + 1) scope.names []) cells →
      wpC (model prog w) (A.deeper (envOfC name scope s.heap.objs.size a cd)) (execs body (envOfC name scope s.heap.objs.size a cd))
        (fun f s' => R (.ok (.ret (match f with | .ret v => v | _ => .none))) s')
        (fun e s' => wpAny (model prog w) (A.deeper (envOfC name scope s.heap.objs.size a cd)) (leaving (envOfC name scope s.heap.objs.size a cd) e)
          (fun _ s'' => R (.error e) s'') (fun e' s'' => R (.error e') s'') s')
        { s with heap := h₁, toks := tk })
    (hco : scope.isCoroutine = false := by rfl) (hgen : scope.isGenerator = false := by rfl) (hk : scope.kind = .function := by rfl) :
    codeC (model prog w) A (.call (.ref a) ⟨args, []⟩) R s := by
  refine codeC_call_function (fd := Calls.docDef name params body scope pm cd doc) hroom ho hdata hco hgen rfl hcd ?_
  rw [hbind]
  refine wpAny_pure (wpAny_newFunctionEnv_cells hk hkind fun env he s' x => ?_)
  subst he
  refine ⟨hlim.keeps x.toInCall.keep, codeC_func ?_⟩
  obtain ⟨h₁, tk, rfl, _⟩ := x.done
  have F : Fr s.heap s.heap.objs.size h₁ (bindL (envOfC name scope s.heap.objs.size a cd).kindOf binds fun _ => none) := ⟨x.toInCall.ns, x.toInCall.keep, x.toInCall.fresh⟩
  have X : Cl s.heap.objs.size (cellsFrom (s.heap.objs.size + 1) scope.names []) h₁ (bindC (envOfC name scope s.heap.objs.size a cd).kindOf binds fun _ => none) := ⟨x.cell, x.apart, x.above⟩
  obtain ⟨cells, N, Y⟩ := Cl.news (h₀ := s.heap) (Nat.le_refl _) fun n c hm => ⟨X.cell n c (lookup_of_mem_nodup (cellsFrom_names scope.names 0 (s.heap.objs.size + 1) [] [] rfl ▸ hnd) hm), X.above n c hm⟩
  exact h h₁ tk cells F N Y

theorem enterC {M : Model} {A : Around} {s : Shared} {f : Value} {pos : List Value} {kw : List (Str × Value)} {c : ClaimW} {cl : Str → Option Addr} {mean : ExcName → Option Value} {args : List WData} {s₁ : Shared}
    (h : codeC M A (.call f ⟨pos, kw⟩) (GoodWG c cl mean args s₁) s) : wpC M A (PySem.call f pos kw) (fun v s' => GoodWG c cl mean args s₁ (.ok (.ret v)) s') (fun e s' => GoodWG c cl mean args s₁ (.error e) s') s :=
  wpC_call (codeC_mono h fun res s' g => by rcases g.1 with ⟨v, _, _, rfl, _⟩ | ⟨e, _, _, rfl, _⟩ <;> exact g)
end Mine

/- part F3 -/
namespace Mine
section
variable {p : Program} {loose : List Str} {mean : ExcName → Option Value} {mg mb : Str → Option Value} {h : Heap}
theorem fn_top {n : Nat} {nm : Str} {pos : Pos} (T : Top p loose mean mg mb h) (i : Nat) (e : (recsOf p)[i]? = some ⟨nm, defParams n, defBody n, defScope n, pos⟩) :
    ∃ f cd, FnAt h n nm f cd ∧ GAt h nm (.ref f) := by
  obtain ⟨a, o, pm, code, doc, h1, h2, h3, h4⟩ := T.fn _ (List.mem_of_getElem? e)
  exact ⟨a, code, ⟨o, doc, pm, _, _, h2, h3, h4⟩, mg, T.g, h1⟩
/-- none of these names is made at the top -/
def freeOf (p : Program) (loose : List Str) (x : Str) : Bool :=
  !(startupNames.contains x || loose.contains x || ((recsOf p).map (·.name)).contains x || ((litsOf p).map (·.1)).contains x || ((clssOf p loose).map (·.name)).contains x)
theorem base_top {p0 p1 p2 p3 p4 : Pos} (T : Top p loose mean mg mb h)
    (e0 : (recsOf p)[0]? = some ⟨"_byteswap", defParams 1, defBody 1, defScope 1, p0⟩) (e1 : (recsOf p)[1]? = some ⟨"_law_low_first", defParams 3, defBody 3, defScope 3, p1⟩)
    (e2 : (recsOf p)[2]? = some ⟨"_law_high_first", defParams 4, defBody 4, defScope 4, p2⟩) (e3 : (recsOf p)[3]? = some ⟨"_law_turn", defParams 5, defBody 5, defScope 5, p3⟩)
    (e4 : (recsOf p)[4]? = some ⟨"_law_is", defParams 6, defBody 6, defScope 6, p4⟩)
    (hf : (["bytearray", "len", "range", "bytes", "IndexError", "ValueError", "type"] : List Str).all (freeOf p loose) = true) :
    ∃ fs fl fh ft fi cs cl ch ct ci, Base h fs fl fh ft fi cs cl ch ct ci := by
  have fr : ∀ x ∈ (["bytearray", "len", "range", "bytes", "IndexError", "ValueError", "type"] : List Str), mg x = none := by
    intro x hm
    have hx := List.all_eq_true.mp hf x hm
    simp only [freeOf, Bool.not_eq_true', Bool.or_eq_false_iff, List.contains_eq_mem, decide_eq_false_iff_not] at hx
    exact T.free x hx.1.1.1.1 hx.1.1.1.2 hx.1.1.2 hx.1.2 hx.2
  have fb : ∀ (x : Str) v, bootBuiltins x = some v → x ≠ "__name__" → mb x = some v := fun x v e n => (T.builtins x n).trans e
  obtain ⟨fs, cs, s1, s2⟩ := fn_top (n := 1) (nm := "_byteswap") T 0 e0
  obtain ⟨fl, cl, l1, l2⟩ := fn_top (n := 3) (nm := "_law_low_first") T 1 e1
  obtain ⟨fh, ch, h1, h2⟩ := fn_top (n := 4) (nm := "_law_high_first") T 2 e2
  obtain ⟨ft, ct, t1, t2⟩ := fn_top (n := 5) (nm := "_law_turn") T 3 e3
  obtain ⟨fi, ci, i1, i2⟩ := fn_top (n := 6) (nm := "_law_is") T 4 e4
  refine ⟨fs, fl, fh, ft, fi, cs, cl, ch, ct, ci, ⟨T.nolimit, mg, mb, T.g, T.b, ⟨fr _ ?_, fr _ ?_, fr _ ?_, fr _ ?_, fr _ ?_, fr _ ?_⟩, fb _ _ ?_ ?_, fb _ _ ?_ ?_, fb _ _ ?_ ?_, fb _ _ ?_ ?_, fb _ _ ?_ ?_, fb _ _ ?_ ?_⟩, ⟨mg, mb, T.g, T.b, fr _ ?_, fb _ _ ?_ ?_⟩, s1, l1, h1, t1, i1, s2, l2, h2, t2, i2⟩ <;>
    first | decide +kernel | rfl
end
end Mine

/- part F4 -/
namespace Mine
theorem law_end {mean : ExcName → Option Value} {mg mb : Str → Option Value} {prog : Program} {w : World} {s₁ : Shared} {fa : Addr} {cd : Value} {h' : Heap} {tk : Nat} {m : Str → Option Value} {D : Addr} {ys : List Value} {ns : List Int} {x : Addr × Obj} {o' : Obj} {hdv : Int} {t th : Tok} {Q : Flow → Shared → Prop} {E : Value → Shared → Prop}
    {p : Program} {loose : List Str} {p0 p1 p2 p3 p4 : Pos} (T : Top p loose mean mg mb s₁.heap)
    (e0 : (recsOf p)[0]? = some ⟨"_byteswap", defParams 1, defBody 1, defScope 1, p0⟩) (e1 : (recsOf p)[1]? = some ⟨"_law_low_first", defParams 3, defBody 3, defScope 3, p1⟩)
    (e2 : (recsOf p)[2]? = some ⟨"_law_high_first", defParams 4, defBody 4, defScope 4, p2⟩) (e3 : (recsOf p)[3]? = some ⟨"_law_turn", defParams 5, defBody 5, defScope 5, p3⟩)
    (e4 : (recsOf p)[4]? = some ⟨"_law_is", defParams 6, defBody 6, defScope 6, p4⟩)
    (hf : (["bytearray", "len", "range", "bytes", "IndexError", "ValueError", "type"] : List Str).all (freeOf p loose) = true) (F : Fr s₁.heap s₁.heap.objs.size h' m)
    (N : News s₁.heap s₁.heap.objs.size h' [(D, LCg.lst ys), x, (s₁.heap.objs.size + 1, o')]) (d : o'.data = .cell (some (.int (hdv.fmod 9 + 1) t)))
    (hI : IntsAre ys ns) (hlen : ns.length ≤ 16) (hw : m "words" = some (.ref D)) (hh : m "head" = some (.int hdv th))
    (hQ : ∀ h' tk m', Fr s₁.heap s₁.heap.objs.size h' m' → Q (.ret (.bool true)) { s₁ with heap := h', toks := tk }) :
    wpC (model prog w) (callerA.deeper (lwEnv s₁.heap.objs.size fa cd)) (execs ((defBody 7).drop 4) (lwEnv s₁.heap.objs.size fa cd)) Q E { s₁ with heap := h', toks := tk } := by
  obtain ⟨fs, fl, fh, ft, fi, cs, cl, ch, ct, ci, B⟩ := base_top T e0 e1 e2 e3 e4 hf
  have h1 : 0 ≤ hdv.fmod 9 := Int.fmod_nonneg_of_pos _ (by decide)
  have h2 : hdv.fmod 9 < 9 := Int.fmod_lt_of_pos _ (by decide)
  have hwd : ((hdv.fmod 9 + 1).toNat : Int) = hdv.fmod 9 + 1 := Int.toNat_of_nonneg (by omega)
  have n1 := N _ (.head _)
  have n2 := N _ (.tail _ (.tail _ (.head _)))
  refine law_tail (s := { s₁ with heap := h', toks := tk }) (wd := (hdv.fmod 9 + 1).toNat) (hd := hdv) (lw := D) (ys := ys) (ns := ns) ⟨by rfl, by rfl, by show callerA.depth + 1 + 2 < recursionLimit; decide, by rfl⟩ B ⟨?_, hI, ⟨t, ?_⟩, n1.2.1, hlen, by omega, by omega⟩ F hw ⟨th, hh⟩ fun h' tk m' F' => hQ h' tk m' F'
  · exact ⟨_, n1.1, rfl, _, rfl⟩
  · rw [hwd]
    exact ⟨_, n2.1, d⟩
end Mine

/- part F2 -/
namespace Mine
theorem wpC_of4 {prog : Program} {w : World} {A : Around} {E : Value → Shared → Prop} {s : Shared} {env : Env} (l : List Stmt) {rest : List Stmt} {Q : Flow → Shared → Prop}
    (h : wpAny (model prog w) A (execs l env) (fun f s' => match f with | .next => wpC (model prog w) A (execs rest env) Q E s' | f => Q f s') E s) :
    wpC (model prog w) A (execs (l ++ rest) env) Q E s := by
  have e : execs (l ++ rest) env = (execs l env >>= fun f => match f with | .next => execs rest env | f => pure f) := by
    clear h
    induction l with
    | nil => rfl
    | cons a l ih =>
      show (exec a env >>= fun f => match f with | .next => execs (l ++ rest) env | f => pure f) = ((exec a env >>= fun f => match f with | .next => execs l env | f => pure f) >>= _)
      rw [ih, bind_assoc]
      congr 1
      funext f
      cases f <;> rfl
  rw [e]
  refine wpC_bindA (wpAny_mono h (fun f s' hf => ?_) fun _ _ x => x)
  cases f with
  | next => exact hf
  | ret v => exact wpC_pure hf
  | brk => exact wpC_pure hf
  | cont => exact wpC_pure hf
theorem wpC_four {prog : Program} {w : World} {A : Around} {E : Value → Shared → Prop} {s : Shared} {env : Env} {a b c d : Stmt} {rest : List Stmt} {Q : Flow → Shared → Prop}
    (h : wpAny (model prog w) A (execs [a, b, c, d] env) (fun f s' => match f with | .next => wpC (model prog w) A (execs rest env) Q E s' | f => Q f s') E s) :
    wpC (model prog w) A (execs (a :: b :: c :: d :: rest) env) Q E s := by
  refine wpC_of4 [a, b, c, d] ?_
  exact h
set_option maxHeartbeats 8000000 in
theorem main : PySem.Challenge.rw_dz0133_01.Holds := by
  w_on
  o_law
  k_head
  case hw => w_witness2
  w_strict (
    k_fill
    intro w s₀ s₁ mg mb G Y fa o pm cd doc dV kV ho hd hcd hD hmg hg args vals as hpre hlay hrd hwl hlo
    have KX := kIn_of Y
    have X := (Ground.X G).1
    have V := (Ground.X G).2
    try w_nolog (first | (have GL := glob_more (Ground.glob G (by first | k_qdec | decide +kernel) (by first | k_qdec | decide +kernel)) V) | (have GL := glob_more (Ground.glob G (by decide +kernel)) V))
    refine Ground.open G ?_
    intro T B D TE TW
    try (refine guard_noD D (by decide +kernel) ?_; clear D)
    obtain ⟨_, _, M⟩ := bmod_of_top T
    have TA := at_of_top T
    try (obtain ⟨_, _, he, B0⟩ := based_of_top T rfl hmg ho hd; have he' : cd = _ := he; subst he'; clear he)
    clear hmg
    wrow_args hpre hlay hrd hwl hlo
    refine enterC ?_
    w_top on
    refine codeC_mono ?_ (fun _ _ g => GoodW.toG g)
    have K0 := below_caller (Top.heap T)
    have he := Dflts.none hD rfl
    subst he
    have he := Dflts.noKw hD
    subst he
    refine call_cellsC (by decide) ho (fd_plain hd) (Top.nolimit T) hcd rfl (kinds_of (by kinds_ok)) (by decide) fun h₁ tk₁ cells F N0 X0 => ?_
    cells_open X0
    clear hd TA
    k_drop
    refine wpC_four ?_
    k_fold
    k_steps
    all_goals refine law_end (by assumption) (by rfl) (by rfl) (by rfl) (by rfl) (by rfl) (by decide +kernel) (by assumption) (by assumption) (by assumption) (by assumption) ?_ (by rfl) (by rfl) fun h' tk m' F' => ?_
    all_goals (first | (rw [List.length_map, List.length_take]; exact Nat.min_le_left _ _) | wrow_close))
end Mine

theorem PySem.Challenge.cw_dz0133_01_holds : PySem.Challenge.rw_dz0133_01.Holds := by
  exact Mine.main
