import PyProof.Rows.All
import Wide.All
import OpenK.AllK
import Wide.FinOn
import PySem.Challenge.RW_gk0002_01
set_option Elab.async false

section -- CleanA
open PySem PySem.W PyProof.Rows
set_option maxRecDepth 100000
namespace Mine
open Sem (wp)

/-- the built-ins that hold a byte buffer while they stand on the stack -/
def holders : List String := ["bytearray.__contains__", "bytearray.__mod__", "bytearray.__rmod__", "_struct.pack_into.held", "bytearray.find.held"] ++ Builtin.Bytes.decodersThatHold
def okCode : Code → Bool
  | .builtin id _ => !holders.contains id
  | _ => true
def Clean (Γ : Ctx) : Prop := ∀ x ∈ Γ.below, okCode x.1 = true

def wpC {α : Type} (M : Model) (A : Around) (t : Sem α) (Q : α → Shared → Prop) (E : Value → Shared → Prop) (s : Shared) : Prop :=
  ∀ Γ p, Γ.In A → okCode Γ.code = true → Clean Γ → wp M Γ t (fun a _ s' => Q a s') (fun e _ s' => E e s') p s
def codeC (M : Model) (A : Around) (c : Code) (R : Result → Shared → Prop) (s : Shared) : Prop :=
  ∀ Γ p, Γ.code = c → Γ.Below A → Clean Γ → wpCode M Γ R p s

section
variable {α β : Type} {M : Model} {A : Around} {E : Value → Shared → Prop} {s : Shared}

theorem wpC_any {t : Sem α} {Q : α → Shared → Prop} (h : wpAny M A t Q E s) : wpC M A t Q E s := fun Γ p hΓ _ _ => h Γ p hΓ
theorem codeC_any {c : Code} {R : Result → Shared → Prop} (h : codeAny M A c R s) : codeC M A c R s := fun Γ p hc hΓ _ => h Γ p hc hΓ
theorem wpC_pure {a : α} {Q : α → Shared → Prop} (h : Q a s) : wpC M A (pure a) Q E s := fun _ _ _ _ _ => h
theorem wpC_mono {t : Sem α} {Q Q' : α → Shared → Prop} {E' : Value → Shared → Prop} (h : wpC M A t Q E s)
    (hQ : ∀ a s, Q a s → Q' a s) (hE : ∀ e s, E e s → E' e s) : wpC M A t Q' E' s :=
  fun Γ p hΓ ho hc => Sem.wp_mono M Γ t (fun a _ s => hQ a s) (fun e _ s => hE e s) p s (h Γ p hΓ ho hc)
theorem codeC_mono {c : Code} {R R' : Result → Shared → Prop} (h : codeC M A c R s) (hR : ∀ r s, R r s → R' r s) : codeC M A c R' s :=
  fun Γ p hc hΓ hk => wpCode_mono hR (h Γ p hc hΓ hk)
theorem wpC_bind {m : Sem α} {f : α → Sem β} {Q : β → Shared → Prop} (h : wpC M A m (fun a s' => wpC M A (f a) Q E s') E s) :
    wpC M A (m >>= f) Q E s := fun Γ p hΓ ho hc => by
  rw [Sem.wp_bind']
  exact Sem.wp_mono M Γ m (fun a p' s' h' => h' Γ p' hΓ ho hc) (fun _ _ _ h' => h') p s (h Γ p hΓ ho hc)
/-- a first part that the plain logic serves -/
theorem wpC_step {m : Sem α} {f : α → Sem β} {Q : β → Shared → Prop} (h : wpAny M A m (fun a s' => wpC M A (f a) Q E s') E s) :
    wpC M A (m >>= f) Q E s := wpC_bind (wpC_any h)
theorem wpC_holding {vs : List Value} {m : Sem α} {Q : α → Shared → Prop} (h : wpC M A m Q E s) : wpC M A (holding vs m) Q E s :=
  fun Γ p hΓ ho hc => by rw [Sem.wp_holding]; exact h Γ p hΓ ho hc
theorem wpC_keep {vs : List Value} {m : Sem α} {Q : α → Shared → Prop} (h : wpC M A m Q E s) : wpC M A (m.keep vs) Q E s :=
  fun Γ p hΓ ho hc => by rw [Sem.wp_keep]; exact h Γ p hΓ ho hc
theorem wpC_operate {vs : List Value} {m : Sem Value} {Q : Value → Shared → Prop} (h : wpC M A m Q E s) : wpC M A (operate vs m) Q E s :=
  fun Γ p hΓ ho hc => by rw [Sem.wp_operate]; exact h Γ p hΓ ho hc
theorem wpC_onRaise {m : Sem α} {k : Value → Sem Unit} {Q : α → Shared → Prop}
    (h : wpC M A m Q (fun e s' => wpC M A (k e) (fun _ s'' => E e s'') E s') s) : wpC M A (m.onRaise k) Q E s := fun Γ p hΓ ho hc => by
  rw [Sem.wp_onRaise]
  exact Sem.wp_mono M Γ m (fun _ _ _ h' => h') (fun e p' s' h' => h' Γ p' hΓ ho hc) p s (h Γ p hΓ ho hc)
theorem wpC_attempt {m : Sem α} {Q : Except Value α → Shared → Prop} (h : wpC M A m (fun a => Q (.ok a)) (fun e => Q (.error e)) s) :
    wpC M A m.attempt Q E s := fun Γ p hΓ ho hc => by rw [Sem.wp_attempt]; exact h Γ p hΓ ho hc
theorem wpC_standAt {pos : Pos} {Q : Unit → Shared → Prop} (h : Q () s) : wpC M A (standAt pos) Q E s := wpC_any (wpAny_standAt h)

theorem wpC_run {c : Code} {h : Option Value} {Q : Flow → Shared → Prop}
    (hc : codeC M (A.mark h) c (fun r s' => match r with | .ok f => Q f s' | .error e => E e s') s) (hnb : h ≠ some byPass := by intro x; cases x) :
    wpC M A (run c h) Q E s :=
  fun Γ p hΓ ho hk => by
    rw [Sem.wp_run]
    refine hc _ p rfl (hΓ.enter c h p hnb) ?_
    intro x hx
    rcases List.mem_cons.mp hx with rfl | hx
    · exact ho
    · exact hk x hx
theorem wpC_runValue {c : Code} {Q : Value → Shared → Prop}
    (hc : codeC M A c (fun r s' => match r with | .ok (.ret v) => Q v s' | .ok _ => False | .error e => E e s') s) :
    wpC M A (runValue c) Q E s := fun Γ p hΓ ho hk => by
  rw [Sem.wp_runValue]
  refine hc _ p rfl (hΓ.enter c none p (by intro x; cases x)) ?_
  intro x hx
  rcases List.mem_cons.mp hx with rfl | hx
  · exact ho
  · exact hk x hx
theorem wpC_call {f : Value} {pos : List Value} {kw : List (Str × Value)} {Q : Value → Shared → Prop}
    (hc : codeC M A (.call f ⟨pos, kw⟩) (fun r s' => match r with | .ok (.ret v) => Q v s' | .ok _ => False | .error e => E e s') s) :
    wpC M A (call f pos kw) Q E s := wpC_runValue hc

def FinC (M : Model) (A : Around) (R : Result → Shared → Prop) (fin : Fin) (s' : Shared) : Prop :=
  match fin with
  | .done f => R (.ok f) s'
  | .again c' => c'.quiet = true ∧ codeC M A c' R s'
theorem codeC_of_tree {c : Code} {R : Result → Shared → Prop} (ho : okCode c = true)
    (h : wpC M (A.under c) (M.den c) (FinC M A R) (fun e s' => R (.error e) s') s) : codeC M A c R s := fun Γ p hc hΓ hk => by
  rw [wpCode_iff_wp, hc]
  refine Sem.wp_mono M Γ _ (fun fin p' s' h' => ?_) (fun _ _ _ h' => h') p s (h Γ p (hc ▸ hΓ.in) (hc ▸ ho) hk)
  cases fin with
  | done f => exact h'
  | again c' => exact ⟨h'.1, h'.2 (Γ.goto c') p' rfl (hΓ.goto c') hk⟩
/-- the same, its tree served by the plain logic -/
theorem codeC_of_any {c : Code} {R : Result → Shared → Prop} (ho : okCode c = true)
    (h : wpAny M (A.under c) (M.den c) (FinC M A R) (fun e s' => R (.error e) s') s) : codeC M A c R s := codeC_of_tree ho (wpC_any h)
end

theorem okCode_builtin {id : String} (args : Args) (h : holders.contains id = false) : okCode (.builtin id args) = true := by
  show (!holders.contains id) = true
  rw [h]; rfl
section
variable {prog : Program} {w : World} {A : Around} {R : Result → Shared → Prop} {s : Shared}
theorem codeC_builtin {id : String} {args : Args} {b : Builtin} (ho : holders.contains id = false) (hb : entryFor table id = some b)
    (h : wpC (model prog w) (A.under (.builtin id args)) (b args) (FinC (model prog w) A R) (fun e s' => R (.error e) s') s) :
    codeC (model prog w) A (.builtin id args) R s := by
  refine codeC_of_tree (okCode_builtin args ho) ?_
  show wpC _ _ (match entryFor table id with | some b => b args | none => unsupported ((withoutEnding? id "#data").getD id)) _ _ s
  rw [hb]; exact h
theorem codeC_call_builtin {id : String} {args : Args} {b : Builtin} (ho : holders.contains id = false) (hq : plainId id = true) (hb : entryFor table id = some b)
    (h : wpAny (model prog w) A.in1 (checkBuiltinCall id args) (fun _ s₁ => wpC (model prog w) A.in1 (b args)
      (FinC (model prog w) A R) (fun e s' => R (.error e) s') s₁)
      (fun e s' => R (.error e) s') s) : codeC (model prog w) A (.call (.builtin id) args) R s := by
  refine codeC_of_any rfl ?_
  show wpAny _ A.in1 (do checkBuiltinCall id args; again (.builtin id args)) _ _ s
  refine wpAny_bind (wpAny_mono h (fun _ s₁ h₁ => wpAny_pure (And.intro (plainId_quiet hq args) (codeC_builtin ho hb ?_))) fun _ _ h' => h')
  rw [Around.under_plainId hq args]; exact h₁
end

/-! the look at the stack -/
def exTest (self : Value) : Code × Pos → Bool := fun
    | (.builtin "bytearray.__contains__" ⟨v :: _, _⟩, _) | (.builtin "bytearray.__mod__" ⟨v :: _, _⟩, _)
    | (.builtin "bytearray.__rmod__" ⟨_ :: v :: _, _⟩, _) | (.builtin "_struct.pack_into.held" ⟨v :: _, _⟩, _) => Builtin.Bytes.sameRef v self
    | (.builtin "bytearray.find.held" ⟨_ :: _ :: held, _⟩, _) => held.any (Builtin.Bytes.sameRef self)
    | (.builtin id ⟨v :: _, _⟩, _) => Builtin.Bytes.sameRef v self && Builtin.Bytes.decodersThatHold.contains id
    | _ => false
theorem exported_eq (self : Value) : Builtin.Bytes.exported self = (do return (← stack).any (exTest self)) := rfl
theorem exTest_of_ok {self : Value} {c : Code} {p : Pos} (h : okCode c = true) : exTest self (c, p) = false := by
  cases c with
  | builtin id args =>
    simp only [okCode, holders, List.contains_append, Bool.not_or, Bool.and_eq_true, Bool.not_eq_true'] at h
    obtain ⟨h1, h2⟩ := h
    simp only [List.contains_cons, List.contains_nil, Bool.or_false, Bool.or_eq_false_iff, beq_eq_false_iff_ne, ne_eq] at h1
    obtain ⟨a1, a2, a3, a4, a5⟩ := h1
    unfold exTest
    split <;> simp_all
  | _ => rfl
theorem wpC_exported {M : Model} {A : Around} {E : Value → Shared → Prop} {s : Shared} {self : Value} {Q : Bool → Shared → Prop} (h : Q false s) :
    wpC M A (Builtin.Bytes.exported self) Q E s := fun Γ p _ ho hc => by
  rw [exported_eq]
  show Q (((Γ.code, p) :: Γ.below).any (exTest self)) s
  have : ((Γ.code, p) :: Γ.below).any (exTest self) = false := by
    rw [List.any_eq_false]
    intro x hx
    rcases List.mem_cons.mp hx with rfl | hx
    · rw [exTest_of_ok ho]; exact Bool.false_ne_true
    · rw [exTest_of_ok (hc x hx)]; exact Bool.false_ne_true
  rw [this]; exact h
end Mine

end

section -- CleanB
open PySem PySem.W PyProof.Rows
set_option maxRecDepth 100000
namespace Mine
open Sem (wp)
theorem ba_mro : mroOf (.type "bytearray") = pure [.type "bytearray", .type "object"] := by rw [mroOf_type]; kernel_rfl
theorem ba_lookup_new : typeLookup (.type "bytearray") "__new__" = pure (some (.builtin "bytearray.__new__")) := by rw [typeLookup_type, builtinLookup_eq_fast]; kernel_rfl
theorem ba_slot_init : Slot "bytearray" "__init__" "bytearray.__init__" :=
  .of (owner := "bytearray") (n := "__init__") (by rw [typeLookup_type, builtinLookup_eq_fast]; kernel_rfl) (by decide +kernel) (by decide +kernel) (by decide +kernel)
    (by first | exact .inl (by decide +kernel) | exact .inr (by decide +kernel)) (by rw [isSubtype_type]; kernel_rfl)
theorem ba_entry_init : entryFor table "bytearray.__init__" = some Builtin.«bytearray.__init__» := by first | exact entryFor_of_fast (by kernel_rfl) | exact entryFor_of_tree (by kernel_rfl)
theorem ba_called : TypeCalled "bytearray" "bytearray.__new__" "bytearray.__init__" :=
  ⟨by decide +kernel, by decide +kernel, ⟨_, _, ba_mro⟩, madeBy_type ba_mro ba_lookup_new (by decide +kernel), by decide +kernel, by rw [isSubtype_type]; kernel_rfl, ba_slot_init⟩
theorem ba_typeCall (a : Value) : checkTypeCall "bytearray" ⟨[a], []⟩ = pure () := by kernel_rfl
theorem ba_newCall (a : Value) : checkBuiltinCall "bytearray.__new__" ⟨[.type "bytearray", a], []⟩ = pure () := by kernel_rfl
theorem ba_entry_new : entryFor table "bytearray.__new__" = some Builtin.«list.__new__» := entryFor_alias (id' := "list.__new__") (by kernel_rfl) (by decide +kernel) (by decide +kernel) (by kernel_rfl)
theorem ba_plain_new : plainId "bytearray.__new__" = true := by decide +kernel
theorem ba_init_args (a b : Value) : argsOk "bytearray.__init__" ⟨[a, b], []⟩ := by
  unfold argsOk
  kernel_rfl
set_option maxRecDepth 1000000 in
set_option maxHeartbeats 4000000 in
theorem owner_ba_new : ("bytearray.__new__".splitOn ".__new__").headD "" = "bytearray" := by simp +decide [String.splitOn, String.splitOnAux]
theorem sub_ba_self : isSubtype (.type "bytearray") (.type "bytearray") = pure true := by rw [isSubtype_type]; kernel_rfl
theorem ba_release : typeLookup (.type "bytearray") "__release_buffer__" = pure (some (.builtin "bytearray.__release_buffer__")) := by rw [typeLookup_type, builtinLookup_eq_fast]; kernel_rfl
theorem int_index : typeLookup (.type "int") "__index__" = pure (some (.builtin "int.__index__")) := by rw [typeLookup_type, builtinLookup_eq_fast]; kernel_rfl
theorem ba_bind (v : Value) : Builtin.Bytes.bindOptional "bytearray.__init__" "bytearray" ["source", "encoding", "errors"] [v] [] = pure [some v, none, none] := by kernel_rfl
theorem code_ba_new {prog : Program} {w : World} {A : Around} {E : Value → Shared → Prop} {s : Shared} (a : Value) {Q₁ : Value → Shared → Prop}
    (h : Q₁ (.ref s.heap.objs.size) { s with heap := s.heap.push { cls := .type "bytearray", data := .bytearray #[] } }) :
    codeAny (model prog w) A (.call (.builtin "bytearray.__new__") ⟨[.type "bytearray", a], []⟩) (wants Q₁ E) s := by
  refine codeAny_of_tree ?_
  show wpAny _ A.in1 (do checkBuiltinCall "bytearray.__new__" ⟨[.type "bytearray", a], []⟩; again (.builtin "bytearray.__new__" ⟨[.type "bytearray", a], []⟩)) _ _ s
  refine wpAny_bind (wpAny_of_eq (ba_newCall a) (wpAny_pure ⟨plainId_quiet ba_plain_new _, codeAny_builtin_stack ba_entry_new rfl fun p st => ?_⟩))
  rw [Around.under_plainId ba_plain_new _]
  have hsub := sub_ba_self
  have hown := owner_ba_new
  obtain ⟨hp, g, d, tk, os⟩ := s
  simp only [hown]
  wp_walk
  exact h
end Mine

end

section -- CleanC
open PySem PySem.W PyProof.Rows
set_option maxRecDepth 100000
namespace Mine
open Sem (wp)
section
variable {prog : Program} {w : World} {A : Around} {E : Value → Shared → Prop} {s : Shared}
theorem wpC_if_false {α : Type} {M : Model} {c : Bool} {a b : Sem α} {Q : α → Shared → Prop} (hc : c = false) (h : wpC M A b Q E s) : wpC M A (if c = true then a else b) Q E s := by
  subst hc
  exact h
theorem wpC_if_true {α : Type} {M : Model} {c : Bool} {a b : Sem α} {Q : α → Shared → Prop} (hc : c = true) (h : wpC M A a Q E s) : wpC M A (if c = true then a else b) Q E s := by
  subst hc
  exact h
theorem ba_ends : ("bytearray.__release_buffer__" : String).endsWith ("." ++ "__release_buffer__") = true := by decide +kernel
theorem ba_drop : ("bytearray.__release_buffer__" : String).dropRight (("__release_buffer__" : String).length + 1) = "bytearray" := by decide +kernel
theorem wpAny_ownRelease_ba {M : Model} {v : Value} {Q : Bool → Shared → Prop} (hT : s.TypeIs v "bytearray") (h : Q false s) : wpAny M A (Builtin.Bytes.ownRelease v) Q E s := by
  unfold Builtin.Bytes.ownRelease Builtin.Bytes.slotIsOwn
  refine wpAny_bind (wpAny_bind (wpAny_specialOf hT ba_release ?_))
  show wpAny M A (if (!("bytearray.__release_buffer__" : String).endsWith ("." ++ "__release_buffer__")) = true then _ else _) _ _ _
  rw [ba_ends]
  refine bm_if_false rfl ?_
  rw [ba_drop]
  exact wpAny_isInstance hT sub_ba_self (wpAny_pure h)
theorem wpAny_payload_ba {M : Model} {a : Addr} {o : Obj} {b : Array UInt8} {n : Nat} {Q : Array UInt8 → Shared → Prop} (ho : s.heap.get? a = some o) (hd : o.data = .bytearray b n) (h : Q b s) :
    wpAny M A (Builtin.Bytes.payload (.ref a)) Q E s := by
  unfold Builtin.Bytes.payload Builtin.Bytes.payload?
  refine wpAny_bind (wpAny_bind (wpAny_load ho ?_))
  rw [hd]
  exact wpAny_pure (wpAny_pure h)
theorem wpAny_write_ba {M : Model} {a : Addr} {o : Obj} {b : Array UInt8} {n : Nat} {f : Array UInt8 → Array UInt8} {Q : Unit → Shared → Prop} (ho : s.heap.get? a = some o) (hd : o.data = .bytearray b n)
    (hz : (f b).size ≤ sizeLine) (h : Q () { s with heap := s.heap.update a (Obj.mapBytearray f) }) :
    wpAny M A (Builtin.Bytes.write (.ref a) f) Q E s := by
  show wpAny M A (updateBytearray a f) Q E s
  unfold updateBytearray
  refine wpAny_bind (wpAny_load ho ?_)
  rw [hd]
  refine wpAny_bind (wpAny_update ho ?_)
  obtain ⟨c, d, dt, sl⟩ := o
  dsimp only at hd
  subst hd
  have ho' : (s.heap.update a (Obj.mapBytearray f)).get? a = some (Obj.mapBytearray f ⟨c, d, .bytearray b n, sl⟩) := Heap.get?_update_self _ ho rfl
  refine wpAny_lookBehind ho' ?_ h
  show (if (f b).size > sizeLine then some "bytearray:memory" else none) = none
  rw [if_neg (Nat.not_lt.mpr hz)]
end
section
variable {prog : Program} {w : World} {A : Around} {E : Value → Shared → Prop} {s : Shared}
theorem init_ba {A' : Around} {a : Addr} {n : Int} {t : Tok} {R : Result → Shared → Prop} (h0 : 0 ≤ n) (hz : n ≤ sizeLine)
    (ho : s.heap.get? a = some { cls := .type "bytearray", data := .bytearray #[] })
    (hQ : ∀ h', Heap.SameBut a s.heap h' → h'.get? a = some { cls := .type "bytearray", data := .bytearray (Array.replicate n.toNat 0) } → R (.ok (.ret .none)) { s with heap := h' }) :
    wpC (model prog w) A' (Builtin.«bytearray.__init__» ⟨[.ref a, .int n t], []⟩) (FinC (model prog w) A R) (fun e s' => R (.error e) s') s := by
  unfold Builtin.«bytearray.__init__»
  have hT : s.TypeIs (.ref a) "bytearray" := ⟨_, ho, rfl⟩
  show wpC _ _ (Builtin.Bytes.ownRelease (.ref a) >>= _) _ _ _
  refine wpC_step (wpAny_ownRelease_ba hT ?_)
  refine wpC_if_false rfl ?_
  refine wpC_step (wpAny_of_eq (ba_bind _) ?_)
  refine wpC_step (wpAny_of_eq (a := ()) rfl ?_)
  refine wpC_step (wpAny_of_eq (a := ()) rfl ?_)
  refine wpC_bind ?_
  unfold orM
  refine wpC_bind (wpC_exported ?_)
  refine wpC_any (wpAny_bind ?_)
  show wpAny _ _ (load a >>= _) _ _ _
  refine wpAny_bind (wpAny_load ho ?_)
  refine wpAny_pure (wpAny_pure ?_)
  refine wpC_if_false rfl ?_
  refine wpC_any ?_
  refine wpAny_bind (wpAny_write_ba ho rfl (by decide) ?_)
  have ho₁ : (s.heap.update a (Obj.mapBytearray fun _ => #[])).get? a = some { cls := .type "bytearray", data := .bytearray #[] } := Heap.get?_update_self _ ho rfl
  refine wpAny_bind (wpAny_of_eq (a := none) rfl ?_)
  refine bm_if_false rfl ?_
  refine wpAny_bind (wpAny_of_eq (a := ()) rfl ?_)
  refine wpAny_bind (wpAny_specialOf (T := "int") rfl int_index ?_)
  refine bm_if_true rfl ?_
  refine wpAny_bind (wpAny_of_eq (a := .ok n) rfl ?_)
  have hfit : Builtin.Bytes.fitsIndex n = true := by
    unfold Builtin.Bytes.fitsIndex
    have : sizeLine = 16777216 := by decide
    simp only [Bool.and_eq_true, decide_eq_true_eq]
    omega
  refine bm_if_false (by rw [hfit]; rfl) ?_
  have e : ∀ {c : Prop} [Decidable c] {α : Type} {M : Model} {A : Around} {a b : Sem α} {Q : α → Shared → Prop} {E : Value → Shared → Prop} {s : Shared}, ¬ c → wpAny M A b Q E s → wpAny M A (if c then a else b) Q E s := fun h k => by rw [if_neg h]; exact k
  refine e (by omega) ?_
  refine bm_if_false (by have : sizeLine = 16777216 := (by decide); simp only [beq_eq_false_iff_ne, ne_eq]; omega) ?_
  refine bm_if_false (by unfold Builtin.Bytes.tooLong; simp only [decide_eq_false_iff_not]; omega) ?_
  refine wpAny_bind (wpAny_rule ?_)
  by_cases hn : n > 0
  · show wpAny _ _ (if n > 0 then _ else _) _ _ _
    rw [if_pos hn]
    refine wpAny_bind (wpAny_write_ba ho₁ rfl (by rw [Array.size_replicate]; omega) ?_)
    refine wpAny_pure ?_
    refine hQ _ ((Heap.SameBut.update ..).trans (Heap.SameBut.update ..)) ?_
    exact Heap.get?_update_self _ ho₁ rfl
  · show wpAny _ _ (if n > 0 then _ else _) _ _ _
    rw [if_neg hn]
    refine wpAny_pure ?_
    refine hQ _ (Heap.SameBut.update ..) ?_
    have : n = 0 := by omega
    subst this
    exact ho₁

theorem callC_bytearray {n : Int} {t : Tok} {Q : Value → Shared → Prop} (h0 : 0 ≤ n) (hz : n ≤ sizeLine)
    (hQ : ∀ h', (∀ b o, s.heap.get? b = some o → h'.get? b = some o) → h'.get? s.heap.objs.size = some { cls := .type "bytearray", data := .bytearray (Array.replicate n.toNat 0) } →
      s.heap.objs.size < h'.objs.size → Q (.ref s.heap.objs.size) { s with heap := h' }) :
    wpC (model prog w) A (call (.type "bytearray") [.int n t]) Q E s := by
  refine wpC_call (codeC_of_any rfl ?_)
  show wpAny _ _ (callAny (.type "bytearray") _) _ _ _
  refine wpAny_pure ⟨Code.quiet_builtin _ (by decide +kernel), codeC_builtin (by decide +kernel) F.entry_type_call ?_⟩
  rw [Around.under_plain (weight_type_call_type "bytearray" [.int n t] []) rfl]
  have ft := ba_called
  obtain ⟨c, tl, hmro⟩ := ft.mro
  unfold Builtin.«type.__call__»
  refine wpC_if_false ft.notType ?_
  show wpC _ _ (if _ = true then _ else _) _ _ _
  refine wpC_if_false ft.canCreate ?_
  refine wpC_step (wpAny_of_eq (ba_typeCall _) ?_)
  refine wpC_step (wpAny_of_eq hmro ?_)
  refine wpC_if_false rfl ?_
  refine wpC_step (wpAny_of_eq ft.made ?_)
  refine wpC_step (wpAny_pure ?_)
  refine wpC_step (wpAny_holding (wpAny_call (code_ba_new _ ?_)))
  have ho : (s.heap.push { cls := .type "bytearray", data := .bytearray #[] }).get? s.heap.objs.size = some { cls := .type "bytearray", data := .bytearray #[] } := Heap.get?_push_size _ rfl
  have hT : ({ s with heap := s.heap.push { cls := .type "bytearray", data := .bytearray #[] } } : Shared).TypeIs (.ref s.heap.objs.size) "bytearray" := ⟨_, ho, rfl⟩
  refine wpC_step (wpAny_isInstance hT sub_ba_self ?_)
  refine wpC_if_false rfl ?_
  refine wpC_bind (wpC_holding ?_)
  simp only [callSpecial?]
  refine wpC_step (wpAny_specialOf hT ft.init.lookup ?_)
  simp only [ft.init.bind]
  refine wpC_holding (wpC_step (wpAny_pure (wpC_bind ?_)))
  refine wpC_call (codeC_call_builtin (by decide +kernel) ft.init.plain ba_entry_init ?_)
  refine ft.init.check _ _ _ _ _ _ _ _ hT (ba_init_args _ _) ?_
  refine init_ba (s := { s with heap := s.heap.push { cls := .type "bytearray", data := .bytearray #[] } }) h0 hz ho fun h' hs hg => ?_
  refine wpC_pure ?_
  refine wpC_if_false rfl ?_
  refine wpC_pure ?_
  refine hQ h' (fun b o e => ?_) hg ?_
  · have hb : b ≠ s.heap.objs.size := Nat.ne_of_lt (Heap.lt_size e)
    exact (hs.2 b hb).trans (Heap.get?_push_of_some _ e)
  · rw [hs.1, Heap.size_push]; exact Nat.lt_succ_self _
end
end Mine

end

section -- HeadC
open PySem PySem.W PySem.Calls PyProof.Rows
set_option maxRecDepth 100000
namespace Mine
open Sem (wp)

theorem thread_endsC {prog : Program} {w : World} {t : Sem Fin} {s : Shared} {R : Result → Shared → Prop} (hreg : s.asleep)
    (h : wpC (model prog w) callerA t (fun fin s' => ∃ f, fin = .done f ∧ (R (.ok f) s' ∧ leftWithCleanup s'.gens = false)) (fun e s' => R (.error e) s' ∧ leftWithCleanup s'.gens = false) s) :
    ∃ n r s' s'', runN (denote table) prog w n s ⟨t, .builtin "claim.caller" {}, default, []⟩ = .halted (outcomeOf r) s' ∧
      schedN (denote table) prog w n (.single s ⟨t, .builtin "claim.caller" {}, default, []⟩) = .halted (outcomeOf r) s' ∧ s'.forget = s''.forget ∧ R r s'' := by
  have hw := h _ default caller_in (by decide +kernel) (fun x hx => nomatch hx)
  have hw' := Sem.wp_mono (model prog w) _ t (post' := Sem.finPost (model prog w) ⟨.builtin "claim.caller" {}, none, none, [], none⟩ fun r s' => R r s' ∧ leftWithCleanup s'.gens = false)
    (exc' := fun e _ s' => R (.error e) s' ∧ leftWithCleanup s'.gens = false)
    (fun fin p' s' h' => by obtain ⟨f, rfl, hf⟩ := h'; exact hf) (fun _ _ _ h' => h') default s hw
  obtain ⟨n, r, s₁, s₂, hs, hn, hfo, hR⟩ := wp_halts_full (M := model prog w) (R := R) hreg hw'
  exact ⟨n, r, s₂, s₁, hn, hs, hfo, hR⟩

theorem callFromC {c : ClaimW} {tree : List Value → Sem Fin} {w : World} {s : Shared} {free : Addr → Prop} {gens : Prop} {kept : Heap → Prop} (hz : s.asleep) (hgens : s.gens = #[])
    (hspec : ∀ args, c.pre args = true → WData.layableAll args = true → ∀ ord : List DictEntry → List DictEntry, (∀ l, (ord l).Perm l) →
      ∃ vs s₁, layAllW c.records (classAt s.heap) w.params ord args s = some (vs, s₁) ∧
        wpC (model c.prog w) callerA (tree vs) (fun fin s' => ∃ f, fin = .done f ∧ (c.Ends s args vs s₁ (.ok f) s' ∧ s'.os = s.os ∧ AllBare s'.gens ∧ kept s'.heap))
          (fun e s' => c.Ends s args vs s₁ (.error e) s' ∧ s'.os = s.os ∧ AllBare s'.gens ∧ kept s'.heap) s₁) :
    c.CallFrom (fun vs => ⟨tree vs, .builtin "claim.caller" {}, default, []⟩) w free gens kept s := by
  intro args hpre hlay ord hord
  obtain ⟨vs, s₁, hlaid, hcode⟩ := hspec args hpre hlay ord hord
  have hal := layAllW_rest _ _ _ hlaid
  obtain ⟨k, r, s', s'', hrun, hsched, hfo, hcase, hos, hkp⟩ := thread_endsC (prog := c.prog) (w := w) (t := tree vs) (s := s₁)
    (R := fun r s' => c.Ends s args vs s₁ r s' ∧ s'.os = s.os ∧ kept s'.heap) (Shared.asleep_of_life hal.2.2.2 hz)
    (wpC_mono hcode (fun fin s' ⟨f, e, h1, h2, h3, h4⟩ => ⟨f, e, ⟨h1, h2, h4⟩, leftWithCleanup_false_of_bare h3⟩)
      (fun e s' ⟨h1, h2, h3, h4⟩ => ⟨⟨h1, h2, h4⟩, leftWithCleanup_false_of_bare h3⟩))
  obtain ⟨eh, _, _, eo, _⟩ := Shared.forget_eq hfo
  have hcase := hcase.congr eh
  have hkp : kept s'.heap := by rw [eh]; exact hkp
  rw [← eo] at hos
  have hlife : s'.heap.life = s.heap.life := (runN_life _ _ _ hrun).trans hal.2.2.2
  refine ⟨vs, s₁, hlaid, k, _, s', hsched, ?_, (fun _ i x hx => by rw [hgens] at hx; simp at hx), hkp, by rw [hlife], Shared.rest_eq hos⟩
  rcases hcase with ⟨v, rfl, d1, d2, d3, d4, d5⟩ | ⟨e, ob, cls, rfl, d1, d2, d3, d4, d5⟩
  · exact .inl ⟨v, rfl, d1, d2, d3, fun b o y _ => d4 b o y, d5⟩
  · exact .inr ⟨e, ob, cls, rfl, d1, d2, d3, d4, fun b o y _ => d5 b o y⟩

/-- what is left of the claim: the call, from the caller's frame, in the clean logic -/
abbrev WalkC (q : Program) (loose : List Str) (XP : (Str → Option Value) → Heap → Prop) (YP : World → Heap → Prop) (r : RowW) (d : DefRec) (kwd : List (Str × Expr)) : Prop :=
  ∀ (w : World) (s₀ s₁ : Shared) (mg mb : Str → Option Value), Ground q loose r.records XP w s₀ mg mb s₁.heap → YP w s₁.heap → ∀ (a : Addr) (o : Obj) (pm cd doc dV kV : Value), s₁.heap.get? a = some o →
    o.data = .func { docDef d.name d.params d.body d.scope pm cd doc with defaults := dV, kwdefaults := kV } → s₁.heap.CodeRec cd d.name → Dflts mg s₁.heap d.params kwd dV kV → mg d.name = some (.ref a) → s₁.gens = #[] →
    ∀ (args : List WData) (vals : List Value) (as : List Addr), r.claim.pre args = true → WData.layableAll args = true → ReadsAllW r.records (classAt s₀.heap) s₁.heap vals args as → WellAll w.params s₁.heap vals args → (∀ a ∈ as, (a == sysModules) = false) →
      wpC (model r.prog w) callerA (PySem.call (.ref a) vals) (fun v s' => GoodWG r.claim (classAt s₀.heap) (ExcName.means s₀.heap) args s₁ (.ok (.ret v)) s')
        (fun e s' => GoodWG r.claim (classAt s₀.heap) (ExcName.means s₀.heap) args s₁ (.error e) s') s₁

theorem PySem.W.holds_open {r : OpenRow} {q : Program} {loose : List Str} {Xt : Shared → Bool} {XP : (Str → Option Value) → Heap → Prop} {α : Type} {Yf : Shared → α} {Ya : World → α} {YP : World → Heap → Prop} {d : DefRec} {kwd : List (Str × Expr)} {N : Nat}
    (left : LeftO r.prog q loose Xt Yf Ya N) (hY : ∀ w s, Yf s = Ya w → YP w s.heap) (hYk : ∀ w h h', YP w h → (∀ b o, h.get? b = some o → h'.get? b = some o) → YP w h')
    (hX : ∀ s, Xt s = true → XP (s.heap.nsMap mainGlobals) s.heap) (hXk : ∀ mg h h', XP mg h → (∀ b o, h.get? b = some o → h'.get? b = some o) → XP mg h')
    (hdef : defOf q r.name = some (d, kwd)) (hp : r.prog.theDef r.name = some (d.params, d.body, d.scope)) (hk : kwWritten? d.params.kwonlyargs d.params.kw_defaults = some kwd) (hRf : ∀ s, Xt s = true → RecFacts r.records s.heap) (hwr : (!r.writes || r.records.isEmpty) = true)
    (k1 : r.wellSaid = true) (ok : (chainsOk q && opensWell r.prog && (frees r.toRowW && r.within.isEmpty)) = true) (hb : r.prog.bare) (hw : r.toRowW.promised)
    (call : WalkC q loose XP YP r.toRowW d kwd) : r.Holds := by
  obtain ⟨ok, k5⟩ := Bool.and_eq_true_iff.mp ok
  obtain ⟨hch, o1⟩ := Bool.and_eq_true_iff.mp ok
  obtain ⟨k5, k6⟩ := Bool.and_eq_true_iff.mp k5
  obtain ⟨hsame, hu, ha, hap, hm⟩ := frees_parts k5
  refine ⟨k1, hw, ⟨hb, o1, by show r.makers.map _ = []; rw [hm]; rfl⟩, hw.witness, fun w => ⟨(left.behind hX hch w).1, fun s' hs' => ?_⟩⟩
  obtain ⟨s₀, hf, _, s, hT, hz, hgens, hg, G00, y⟩ := (left.behind (XP := fun mg h => XP mg h ∧ RecFacts r.records h) (fun s hs => ⟨hX s hs, hRf s hs⟩) hch w).2 s' hs'
  have G0 : Ground q loose [] XP w s (s.heap.nsMap mainGlobals) (s.heap.nsMap builtinsNs) s.heap := ⟨G00.T, G00.B, G00.D, G00.TE, G00.TD, G00.W, G00.X.1, G00.cls, G00.has, G00.apart, G00.once, G00.K⟩
  have RF := G00.X.2
  have hT' := hT
  refine ⟨s₀, hf, by assumption, s, hT, fun n hn => ?_, RF.1, RF.2.1, ?_⟩
  · obtain rfl : n = r.name := by split at hn <;> simp_all
    exact pinned_of_view hg G0 hdef hp hk
  have hgens : s.gens = #[] := Array.eq_empty_of_size_eq_zero (beq_iff_eq.mp hgens)
  have G : Ground q loose r.records XP w s _ _ s.heap := RF.ground G0
  refine callFromC (c := r.claim) (tree := fun vs => do match ← nsGet mainNs r.name with
      | some f => do ret (← PySem.call f vs)
      | none => unsupported "claim.caller:no-such-global") hz hgens fun args hpre hlay ord hord => ?_
  obtain ⟨⟨vs, s₁⟩, hlaid⟩ := Option.isSome_iff_exists.mp (layAllW_isSome (P := w.params) (ord := ord) G.has args r.args s (pre_splitW hpre).1)
  have keeps := layAllW_keeps _ _ _ hlaid
  have hal := layAllW_rest _ _ _ hlaid
  obtain ⟨as, hrd, hin, hold⟩ := reads_layAllW hord _ _ _ hlaid hlay s₁.heap (fun _ _ e => e)
  have L : Laid r.records w s s₁ args vs as := ⟨⟨ord, hord, hlaid⟩, hrd, hin, hold, keeps, hal.1.trans hgens, hal.2.2.1⟩
  have G₁ := G.keeps hXk keeps
  obtain ⟨a, o, pm, cd, doc, dV, kV, h1, h2, h3, h4, h5⟩ := G₁.fn hdef
  have h := call w s s₁ _ _ G₁ (hYk _ _ _ (hY w s y) keeps) a o pm cd doc dV kV h2 h3 h4 h5 (defOf_name hdef ▸ h1) L.gens args vs as hpre hlay L.reads L.well (L.low G.low)
  have hi := ident_freeW hu ha hap
  have hwi : r.claim.within = [] := List.isEmpty_iff.mp k6
  refine ⟨vs, s₁, hlaid, wpC_step (wpAny_nsGet G₁.T.g ?_)⟩
  rw [h1]
  have done : ∀ res s', GoodWG r.claim (classAt s.heap) (ExcName.means s.heap) args s₁ res s' → r.claim.Ends s args vs s₁ res s' ∧ s'.os = s.os ∧ AllBare s'.gens ∧ (r.writes = true → namesKept r.prog r.keeps s.heap s'.heap ∧ ∀ x ∈ r.records, ∀ a, classAt s.heap x.1 = some a → recordClass s'.heap a x.1 (x.2.map (·.1)) = true) :=
    fun res s' g => have z := g.laid (c := r.claim) hsame hwi hi L; ⟨z.1, z.2.1, z.2.2, fun q => ⟨namesKept_of hT' hg r.keeps keeps g.2.1.old, noTable hwr q⟩⟩
  exact wpC_bind (wpC_mono h (fun v s' g => wpC_pure ⟨_, rfl, done _ _ g⟩) fun e s' g => done _ _ g)
end Mine

end

section -- HeadD
open PySem PySem.W PySem.Calls PyProof.Rows
set_option maxRecDepth 100000
set_option maxHeartbeats 8000000
namespace Mine
open_top hd for PySem.Challenge.rw_gk0002_01
end Mine

end

section -- Texts
open PySem PySem.W PySem.Calls PyProof.Rows Builtin Builtin.Str
set_option maxRecDepth 100000
namespace Mine
def find4 (x y : Str) (lo hi : Nat) : Int := match occurrences x y lo (min hi x.length) 1 with | k :: _ => (k : Int) | [] => -1
theorem gives_find4 (x y : Str) (i j : Nat) (t u v v' : Tok) : Gives («str.find» ⟨[.str x t, .str y u, .int i v, .int j v'], []⟩) (.int (find4 x y i j)) := by
  have e1 : (max 0 (if (i : Int) < 0 then (i : Int) + x.length else i)).toNat = i := by
    rw [if_neg (by omega)]; omega
  have e2 : (max 0 (if (j : Int) < 0 then (j : Int) + x.length else j)).toNat = j := by
    rw [if_neg (by omega)]; omega
  show Gives (match occurrences x y (max 0 (if (i : Int) < 0 then (i : Int) + x.length else i)).toNat (min (max 0 (if (j : Int) < 0 then (j : Int) + x.length else j)).toNat x.length) 1 with | k :: _ => retInt k | [] => (do rule "str.find.not-found"; retInt (-1))) _
  rw [e1, e2]
  unfold find4
  cases occurrences x y i (min j x.length) 1 with
  | nil => exact .rule (.of_eq rfl)
  | cons k _ => exact .of_eq rfl
section
variable {prog : Program} {w : World} {A : Around} {E : Value → Shared → Prop} {s : Shared}
theorem call_find4 {x y : Str} {i j : Nat} {t u v v' : Tok} {Q : Value → Shared → Prop} (hq : Q (.int (find4 x y i j) s.toks) { s with toks := s.toks + 1 }) :
    wpAny (model prog w) A (call (.builtin "str.find") [.str x t, .str y u, .int i v, .int j v']) Q E s :=
  call_gives F.slot_str_find (typeIs_str _ _ _) F.entry_str_find (F.args_str_find_4 _ _ _ _) (gives_find4 x y i j t u v v') hq
end

/-! lists of texts: strValues l, l : List (Str × Tok) -/
section
variable {prog : Program} {w : World} {A : Around} {E : Value → Shared → Prop} {s : Shared} {h₀ : Heap} {L : Addr} {m : Str → Option Value} {news : List (Addr × Obj)} {D : Addr} {n : Nat} {vs : List Value} {v : Value} {value slice : PySem.Expr} {u : Tok} {Q : Value → Shared → Prop}
theorem item_last (N : News h₀ L s.heap news) (hD : (D, listOf (vs ++ [v]).toArray n) ∈ news) (h : Q v s)
    (hs : subscripted slice false (.ref D) (.int (-1) u) = operate [.ref D, .int (-1) u] (getItem (.ref D) (.int (-1) u)) := by with_unfolding_all rfl) :
    wpAny (model prog w) A (subscriptTail value slice (.ref D) (.int (-1) u)) Q E s := by
  have hl : s.heap.IsList D (vs ++ [v]).toArray := N.isList hD
  have hsz : ((vs ++ [v]).toArray.size : Int) = vs.length + 1 := by simp
  refine tail_any hl.typeIs slot_list_getitem.lookup (wpAny_getItem_list_neg hl (by decide) (by omega) (by decide) ?_ h) hs
  have : (-1 + ((vs ++ [v]).toArray.size : Int)).toNat = vs.length := by omega
  rw [this]
  simp
theorem item_first (N : News h₀ L s.heap news) (hD : (D, listOf (v :: vs).toArray n) ∈ news) (h : Q v s)
    (hs : subscripted slice false (.ref D) (.int 0 u) = operate [.ref D, .int 0 u] (getItem (.ref D) (.int 0 u)) := by with_unfolding_all rfl) :
    wpAny (model prog w) A (subscriptTail value slice (.ref D) (.int 0 u)) Q E s := item_litK (N.isList hD) (by decide) (by decide) rfl h hs
end
section
variable {prog : Program} {w : World} {A : Around} {E : Value → Shared → Prop} {s : Shared} {h₀ : Heap} {L : Addr} {m : Str → Option Value} {news news' : List (Addr × Obj)} {D : Addr} {n : Nat} {vs : List Value} {v : Value} {u : Tok} {Q : Unit → Shared → Prop}
theorem del_first (F : Fr h₀ L s.heap m) (N : News h₀ L s.heap news) (U : Upd D (listOf (v :: vs).toArray n) (listOf vs.toArray (n + 1)) news news') (hz : vs.length + 1 ≤ sizeLine)
    (h : ∀ h', Fr h₀ L h' m → News h₀ L h' news' → Q () { s with heap := h' }) : wpAny (model prog w) A (delItem (.ref D) (.int 0 u)) Q E s := by
  obtain ⟨pre, post, rfl, rfl, a, b⟩ := U.split
  have z := N (D, _) (List.mem_append.mpr (.inr (.head _)))
  refine P.delItem_list (n := n) (k := 0) z.1 rfl ?_ ?_ (by simp; omega)
  · simp [seqIndex?]
  · obtain ⟨F', N'⟩ := news_upd (o' := listOf vs.toArray (n + 1)) (f := Obj.mapSeq fun xs => xs.eraseIdxIfInBounds 0) F N a b (by
      simp [Obj.mapSeq]) rfl
    exact h _ F' N'
theorem del_last (F : Fr h₀ L s.heap m) (N : News h₀ L s.heap news) (U : Upd D (listOf (vs ++ [v]).toArray n) (listOf vs.toArray (n + 1)) news news') (hz : vs.length + 1 ≤ sizeLine)
    (h : ∀ h', Fr h₀ L h' m → News h₀ L h' news' → Q () { s with heap := h' }) : wpAny (model prog w) A (delItem (.ref D) (.int (-1) u)) Q E s := by
  obtain ⟨pre, post, rfl, rfl, a, b⟩ := U.split
  have z := N (D, _) (List.mem_append.mpr (.inr (.head _)))
  refine P.delItem_list (n := n) (k := vs.length) z.1 rfl ?_ ?_ (by simp; omega)
  · have : ((vs ++ [v]).toArray.size : Int) = vs.length + 1 := by simp
    unfold seqIndex?
    simp only [show (-1 : Int) < 0 by decide, if_true]
    rw [if_pos (by simp only [Bool.and_eq_true, decide_eq_true_eq]; omega)]
    congr 1
    omega
  · obtain ⟨F', N'⟩ := news_upd (o' := listOf vs.toArray (n + 1)) (f := Obj.mapSeq fun xs => xs.eraseIdxIfInBounds vs.length) F N a b (by
      have e : (vs ++ [v]).eraseIdx vs.length = vs := by rw [List.eraseIdx_append_of_length_le (Nat.le_refl _)]; simp
      simp [Obj.mapSeq, e]) rfl
    exact h _ F' N'
end
theorem snoc_of {α β : Type} {l : List (α × β)} {r : List α} {a : α} (e : l.map (·.1) = r ++ [a]) : ∃ l' t, l = l' ++ [(a, t)] ∧ l'.map (·.1) = r := by
  obtain ⟨l1, l2, rfl, h1, h2⟩ := List.map_eq_append_iff.mp e
  cases l2 with
  | nil => cases h2
  | cons p q =>
    obtain ⟨b, t⟩ := p
    simp only [List.map_cons, List.cons.injEq, List.map_eq_nil_iff] at h2
    obtain ⟨rfl, rfl⟩ := h2
    exact ⟨l1, t, rfl, h1⟩
theorem strValues_append (a b : List (Str × Tok)) : strValues (a ++ b) = strValues a ++ strValues b := by simp [strValues]
section
variable {prog : Program} {w : World} {A : Around} {E : Value → Shared → Prop} {s : Shared} {h₀ : Heap} {L : Addr} {m : Str → Option Value} {news : List (Addr × Obj)} {D : Addr} {n : Nat} {vs : List Value} {v v₀ v₁ : Value} {value slice : PySem.Expr} {t u : Tok} {x y p0 pl : Str} {mid : List Str} {Q : Value → Shared → Prop}
theorem split_two (hF : Fr h₀ L s.heap m) (hN : News h₀ L s.heap news) (hsp : Txt.split x y = p0 :: (mid ++ [pl])) (hy : (y.length == 0) = false) (hsz : x.length ≤ 1000)
    (h : ∀ D t0 lm t1 h' k, lm.map (·.1) = mid → lm.length = mid.length → Fr h₀ L h' m → News h₀ L h' ((D, W.listOf (.str p0 t0 :: (strValues lm ++ [.str pl t1])).toArray 0) :: news) → (∀ p ∈ news, p.1 < D) → Q (.ref D) { s with heap := h', toks := k }) :
    wpAny (model prog w) A (call (.builtin "str.split") [.str x t, .str y u]) Q E s := by
  refine KSpl.split1 hF hN hy (fun D l h' k e _ F N l1 => ?_) (by have : sizeLine = 16777216 := (by decide); omega)
  rw [hsp] at e
  obtain ⟨t0, l', rfl, e1⟩ := KSpl.cons_of e
  obtain ⟨lm, t1, rfl, e2⟩ := snoc_of e1
  refine h D t0 lm t1 h' k e2 (by have := congrArg List.length e2; simpa using this) F ?_ l1
  have e3 : strValues ((p0, t0) :: (lm ++ [(pl, t1)])) = .str p0 t0 :: (strValues lm ++ [.str pl t1]) := by simp [strValues]
  rw [e3] at N
  exact N
theorem len_two (N : News h₀ L s.heap news) (hD : (D, W.listOf (v₀ :: (vs ++ [v₁])).toArray n) ∈ news) (hz : vs.length ≤ 1000) (h : Q (.int ((vs.length : Int) + 2) (s.toks + 1)) { s with toks := s.toks + 1 + 1 }) :
    wpAny (model prog w) A (call (.builtin "len") [.ref D]) Q E s := by
  refine len_list (N.isList hD) (by simp; omega) ?_
  have e : ((v₀ :: (vs ++ [v₁])).toArray.size : Int) = (vs.length : Int) + 2 := by simp; omega
  rw [e]; exact h
theorem item_last1 (N : News h₀ L s.heap news) (hD : (D, W.listOf (v₀ :: (vs ++ [v])).toArray n) ∈ news) (h : Q v s)
    (hs : subscripted slice false (.ref D) (.int (-1) u) = operate [.ref D, .int (-1) u] (getItem (.ref D) (.int (-1) u)) := by with_unfolding_all rfl) :
    wpAny (model prog w) A (subscriptTail value slice (.ref D) (.int (-1) u)) Q E s := item_last (vs := v₀ :: vs) N hD h hs
end
theorem del_last1 {prog : Program} {w : World} {A : Around} {E : Value → Shared → Prop} {s : Shared} {h₀ : Heap} {L : Addr} {m : Str → Option Value} {news news' : List (Addr × Obj)} {D : Addr} {n : Nat} {vs : List Value} {v v₀ : Value} {u : Tok} {Q : Unit → Shared → Prop}
    (F : Fr h₀ L s.heap m) (N : News h₀ L s.heap news) (U : Upd D (W.listOf (v₀ :: (vs ++ [v])).toArray n) (W.listOf (v₀ :: vs).toArray (n + 1)) news news') (hz : vs.length ≤ 1000)
    (h : ∀ h', Fr h₀ L h' m → News h₀ L h' news' → Q () { s with heap := h' }) : wpAny (model prog w) A (delItem (.ref D) (.int (-1) u)) Q E s :=
  del_last (vs := v₀ :: vs) F N U (by have : sizeLine = 16777216 := (by decide); simp only [List.length_cons]; omega) h
theorem len_strValues (l : List (Str × Tok)) : (strValues l).length = l.length := by simp [strValues]
theorem small_line {n : Nat} (h : n ≤ 1000) : n + 1 ≤ sizeLine := by have : sizeLine = 16777216 := (by decide); omega
/-- a loop over a list of the call's own, by induction on its items -/
theorem listRest_ind {prog : Program} {w : World} {A : Around} {E : Value → Shared → Prop} {h₀ : Heap} {env : Env} {x : Str} {body : List Stmt} {Q : Flow → Shared → Prop} {s : Shared} {I : Addr} {lp : Addr × Obj}
    {α : Type} (val : α → Value) (Inv : List α → (Str → Option Value) → List (Addr × Obj) → Prop)
    (hnil : ∀ m news, Inv [] m news → ListRest prog w A E h₀ env x body Q s I lp [] m news)
    (hcons : ∀ a r m news, (∀ m' news', Inv r m' news' → ListRest prog w A E h₀ env x body Q s I lp (r.map val) m' news') → Inv (a :: r) m news → ListRest prog w A E h₀ env x body Q s I lp (val a :: r.map val) m news) :
    ∀ l m news, Inv l m news → ListRest prog w A E h₀ env x body Q s I lp (l.map val) m news
  | [], m, news, h => hnil m news h
  | a :: r, m, news, h => hcons a r m news (fun m' news' h' => listRest_ind val Inv hnil hcons r m' news' h') h

theorem call_find4s {prog : Program} {w : World} {A : Around} {E : Value → Shared → Prop} {s : Shared} {x y : Str} {i j : Nat} {t u v v' : Tok} {Q : Value → Shared → Prop}
    (h1 : ∀ (k : Nat) r, occurrences x y i (min j x.length) 1 = k :: r → Q (.int (k : Int) s.toks) { s with toks := s.toks + 1 })
    (h0 : occurrences x y i (min j x.length) 1 = [] → Q (.int (-1) s.toks) { s with toks := s.toks + 1 }) :
    wpAny (model prog w) A (call (.builtin "str.find") [.str x t, .str y u, .int i v, .int j v']) Q E s := by
  refine call_find4 ?_
  unfold find4
  cases e : occurrences x y i (min j x.length) 1 with
  | nil => exact h0 e
  | cons k r => exact h1 k r e
/-- what the loop over the middle pieces knows of the locals -/
structure LF (m : Str → Option Value) (got : Str) (tg : Tok) (i : Nat) (ti : Tok) (e : Nat) (te : Tok) : Prop where
  g : m (Str.ofString "got") = some (.str got tg)
  sp : m (Str.ofString "startpos") = some (.int (i : Int) ti)
  ep : m (Str.ofString "endpos") = some (.int (e : Int) te)
def loopE (got : Str) (e : Nat) : Nat → List Str → Bool
  | _, [] => true
  | i, w :: r => match occurrences got w i (min e got.length) 1 with
    | k :: _ => loopE got e (k + w.length) r
    | [] => false
theorem loopE_cons {got w : Str} {e i k : Nat} {r : List Str} {q : List Nat} (h : occurrences got w i (min e got.length) 1 = k :: q) : loopE got e i (w :: r) = loopE got e (k + w.length) r := by
  simp only [loopE, h]
theorem loopE_none {got w : Str} {e i : Nat} {r : List Str} (h : occurrences got w i (min e got.length) 1 = []) : loopE got e i (w :: r) = false := by
  simp only [loopE, h]

theorem str_iter {prog : Program} {w : World} {A : Around} {E : Value → Shared → Prop} {h₀ : Heap} {env : Env} {x : Str} {body : List Stmt} {Q : Flow → Shared → Prop} {s : Shared}
    {m : Str → Option Value} {news : List (Addr × Obj)} {ax : Addr} {n : Nat} {vs : List Value} {l : List (Str × Tok)} (St : Nat → List Str → (Str → Option Value) → Prop) {i : Nat}
    (hh : A.handled = none) (F : Fr h₀ env.locals s.heap m) (N : News h₀ env.locals s.heap news) (hm : (ax, W.listOf vs.toArray n) ∈ news) (hvs : vs = strValues l)
    (h0 : St i (l.map (·.1)) m)
    (nil : ∀ i m, St i [] m → ∀ h tk, Fr h₀ env.locals h m → News h₀ env.locals h news → Q .next { s with heap := h, toks := tk })
    (cons : ∀ (Q' : Flow → Shared → Prop) I y t r i m it h tk, St i (y :: r) m → Fr h₀ env.locals h (fun z => if z = x then some (.str y t) else m z) → News h₀ env.locals h ((I, it) :: news) →
      (∀ v s', Q (.ret v) s' → Q' (.ret v) s') →
      (∀ h' tk' m' k, St k r m' → Fr h₀ env.locals h' m' → News h₀ env.locals h' ((I, it) :: news) → Q' .next { s with heap := h', toks := tk' }) →
      wpAny (model prog w) A (execs body env) Q' E { s with heap := h, toks := tk }) :
    wpAny (model prog w) A (pyIter (.ref ax)) (fun it s₂ => LoopAtV prog w A h₀ env x body Q E it s₂) E s := by
  subst hvs
  refine iter_listUnr hh F N hm rfl rfl (fun I hI => ?_)
  refine listRest_ind (α := Str × Tok) (fun p => .str p.1 p.2) (fun l' m' news' => news' = news ∧ ∃ i, St i (l'.map (·.1)) m') ?_ ?_ l m news ⟨rfl, i, h0⟩
  · rintro m' _ ⟨rfl, i', h⟩
    exact ListRest.zero (fun h' tk' F' N' => nil i' m' h h' tk' F' N')
  · rintro ⟨y, t⟩ r m' news' ih ⟨hn, i', h⟩; subst hn
    refine ListRest.succ (fun it h' tk' hit F' N' => ?_)
    refine cons _ I y t (r.map (fun p : Str × Tok => p.1)) i' m' it h' tk' h F' N' (fun v s' q => q) (fun h'' tk'' m'' k hSt F'' N'' => ?_)
    exact UnrEnd.intro F'' N'' news' (fun p hp => hp) (fun p hp => Nat.ne_of_lt (hI p hp)) ⟨hm, ih m'' news' ⟨rfl, k, hSt⟩⟩
theorem strValues_full (p0 pl : Str) (t0 t1 : Tok) (lm : List (Str × Tok)) : (Value.str p0 t0 :: (strValues lm ++ [.str pl t1])) = strValues ((p0, t0) :: (lm ++ [(pl, t1)])) := by simp [strValues]
theorem strValues_snoc (pl : Str) (t1 : Tok) (lm : List (Str × Tok)) : (strValues lm ++ [.str pl t1]) = strValues (lm ++ [(pl, t1)]) := by simp [strValues]
theorem strValues_cons (p0 : Str) (t0 : Tok) (lm : List (Str × Tok)) : (Value.str p0 t0 :: strValues lm) = strValues ((p0, t0) :: lm) := rfl

theorem call_find3s {prog : Program} {w : World} {A : Around} {E : Value → Shared → Prop} {s : Shared} {x y : Str} {i : Nat} {t u v : Tok} {Q : Value → Shared → Prop}
    (h1 : ∀ (k : Nat) r, occurrences x y i x.length 1 = k :: r → Q (.int (k : Int) s.toks) { s with toks := s.toks + 1 })
    (h0 : occurrences x y i x.length 1 = [] → Q (.int (-1) s.toks) { s with toks := s.toks + 1 }) :
    wpAny (model prog w) A (call (.builtin "str.find") [.str x t, .str y u, .int (i : Int) v]) Q E s := by
  have e : fromIndex x.length (i : Int) = i := by unfold fromIndex; rw [if_neg (by omega)]; omega
  have g := gives_str_find_from x y (i : Int) t u v
  rw [e] at g
  refine call_gives F.slot_str_find (typeIs_str _ _ _) F.entry_str_find (F.args_str_find_3 _ _ _) g ?_
  cases e : occurrences x y i x.length 1 with
  | nil => exact h0 e
  | cons k r => exact h1 k r e
def go (got : Str) (hi : Nat) : Nat → List Str → Option Nat
  | i, [] => some i
  | i, w :: r => match occurrences got w i hi 1 with
    | k :: _ => go got hi (k + w.length) r
    | [] => none
theorem go_cons {got w : Str} {hi i k : Nat} {r : List Str} {q : List Nat} (h : occurrences got w i hi 1 = k :: q) : go got hi i (w :: r) = go got hi (k + w.length) r := by simp only [go, h]
theorem go_none {got w : Str} {hi i : Nat} {r : List Str} (h : occurrences got w i hi 1 = []) : go got hi i (w :: r) = none := by simp only [go, h]
theorem loopE_go (got : Str) (e : Nat) : ∀ (r : List Str) (i : Nat), loopE got e i r = (go got (min e got.length) i r).isSome
  | [], _ => rfl
  | w :: r, i => by
    unfold loopE go
    cases occurrences got w i (min e got.length) 1 with
    | nil => rfl
    | cons k _ => exact loopE_go got e r _
theorem item_firstL {prog : Program} {w : World} {A : Around} {E : Value → Shared → Prop} {s : Shared} {h₀ : Heap} {L D : Addr} {m : Str → Option Value} {vs : List Value} {v : Value} {value slice : PySem.Expr} {u : Tok} {Q : Value → Shared → Prop}
    (F : Fr h₀ L s.heap m) (hl : h₀.IsList D (v :: vs).toArray) (h : Q v s)
    (hs : subscripted slice false (.ref D) (.int 0 u) = operate [.ref D, .int 0 u] (getItem (.ref D) (.int 0 u)) := by with_unfolding_all rfl) :
    wpAny (model prog w) A (subscriptTail value slice (.ref D) (.int 0 u)) Q E s := item_litK (Fr.lst F hl) (by decide) (by decide) rfl h hs
theorem item_lastL {prog : Program} {w : World} {A : Around} {E : Value → Shared → Prop} {s : Shared} {h₀ : Heap} {L D : Addr} {m : Str → Option Value} {vs : List Value} {v v₀ : Value} {value slice : PySem.Expr} {u : Tok} {Q : Value → Shared → Prop}
    (F : Fr h₀ L s.heap m) (hl : h₀.IsList D (v₀ :: (vs ++ [v])).toArray) (h : Q v s)
    (hs : subscripted slice false (.ref D) (.int (-1) u) = operate [.ref D, .int (-1) u] (getItem (.ref D) (.int (-1) u)) := by with_unfolding_all rfl) :
    wpAny (model prog w) A (subscriptTail value slice (.ref D) (.int (-1) u)) Q E s := by
  have hl : s.heap.IsList D (v₀ :: (vs ++ [v])).toArray := Fr.lst F hl
  have hsz : ((v₀ :: (vs ++ [v])).toArray.size : Int) = vs.length + 2 := by simp; omega
  refine tail_any hl.typeIs slot_list_getitem.lookup (wpAny_getItem_list_neg hl (by decide) (by omega) (by decide) ?_ h) hs
  have : (-1 + ((v₀ :: (vs ++ [v])).toArray.size : Int)).toNat = vs.length + 1 := by omega
  rw [this]
  simp
theorem slice_midL {prog : Program} {w : World} {A : Around} {E : Value → Shared → Prop} {s : Shared} {h₀ : Heap} {L D : Addr} {m : Str → Option Value} {news : List (Addr × Obj)} {vs : List Value} {v v₀ : Value} {value slice : PySem.Expr} {u u' : Tok} {Q : Value → Shared → Prop}
    (F : Fr h₀ L s.heap m) (N : News h₀ L s.heap news) (hl : h₀.IsList D (v₀ :: (vs ++ [v])).toArray)
    (h : ∀ D' h', Fr h₀ L h' m → News h₀ L h' ((D', W.listOf vs.toArray 0) :: news) → (∀ p ∈ news, p.1 < D') → Q (.ref D') { s with heap := h' })
    (hs : subscripted slice false (.ref D) (.ref s.heap.objs.size) = operate [.ref s.heap.objs.size, .ref D] (getItem (.ref D) (.ref s.heap.objs.size))) (ht : ∀ r, letTemporaryGo value (.ref D) r = pure ()) (hz : vs.length ≤ 1000) :
    wpAny (model prog w) A (subscriptTail value slice (.ref D) (.ref s.heap.objs.size)) Q E { s with heap := s.heap.push { cls := .type "slice", data := .fields #[.int 1 u, .int (-1) u', .none] } } := by
  refine kms_slice_lit (zs := vs) F N (Fr.lst F hl) (.int _ _) (.int _ _) ?_ h hs ht ?_
  · have e1 : (v₀ :: (vs ++ [v])).length = vs.length + 2 := by simp
    show (((v₀ :: (vs ++ [v])).drop (kms_lo (some 1) (v₀ :: (vs ++ [v])).length)).take _) = _
    rw [e1]
    have e2 : kms_lo (some 1) (vs.length + 2) = 1 := by simp [kms_lo]
    have e3 : kms_hi (some (-1)) (vs.length + 2) = vs.length + 1 := by simp [kms_hi]
    rw [e2, e3]
    simp
  · have : sizeLine = 16777216 := by decide
    simp; omega
end Mine

end

section -- Plain
open PySem PySem.W PySem.Calls PyProof.Rows Builtin Builtin.Str
set_option maxRecDepth 100000
namespace Mine
open PySem.StrLaws (At occ_first occBody occ_eq range'_split_from subAt_eq strSub_toList)
theorem occ_head_to (x y : Str) (lo hi limit : Nat) (hl : 1 ≤ limit) :
    (occurrences x y lo hi limit = [] ∧ ∀ i, lo ≤ i → ¬ At x y hi i) ∨
    ∃ i r, occurrences x y lo hi limit = i :: r ∧ lo ≤ i ∧ At x y hi i ∧ ∀ k, lo ≤ k → k < i → ¬ At x y hi k := by
  rw [occ_eq]
  rcases occ_first x y hi limit hl (List.range' lo (hi + 1 - lo)) lo (fun i hi => by have := List.mem_range'_1.mp hi; omega) with ⟨h0, hn⟩ | ⟨pre, a, post, e, h0, ha, hn⟩
  · refine .inl ⟨by rw [h0], fun i hlo hi => ?_⟩
    exact hn i (by have := hi.1; rw [List.mem_range'_1]; omega) hi
  · have hs := range'_split_from e
    refine .inr ⟨a, ((forIn (List.range' lo (hi + 1 - lo)) ((#[] : Array Nat), lo) (occBody x y hi limit)).run.fst.toList).tail, ?_, hs.1, ha, fun k hk0 hk => hn k (hs.2 k hk0 hk)⟩
    generalize (forIn (List.range' lo (hi + 1 - lo)) ((#[] : Array Nat), lo) (occBody x y hi limit)).run.fst = arr at h0
    have h1 : arr.toList[0]? = some a := by simpa using h0
    cases hL : arr.toList with
    | nil => rw [hL] at h1; cases h1
    | cons b t => rw [hL] at h1; simp at h1; rw [h1]; rfl
theorem occ_hit {x y : Str} {lo hi k : Nat} {r : List Nat} (h : occurrences x y lo hi 1 = k :: r) : lo ≤ k ∧ At x y hi k ∧ ∀ j, lo ≤ j → j < k → ¬ At x y hi j := by
  rcases occ_head_to x y lo hi 1 (Nat.le_refl _) with ⟨h0, _⟩ | ⟨i, r', h0, h1⟩
  · rw [h0] at h; cases h
  · rw [h0] at h; cases h; exact h1
theorem occ_miss {x y : Str} {lo hi : Nat} (h : occurrences x y lo hi 1 = []) : ∀ i, lo ≤ i → ¬ At x y hi i := by
  rcases occ_head_to x y lo hi 1 (Nat.le_refl _) with ⟨_, h1⟩ | ⟨i, r', h0, h1⟩
  · exact h1
  · rw [h0] at h; cases h
theorem occ_le {x y : Str} {lo hi k : Nat} {r : List Nat} (h : occurrences x y lo hi 1 = k :: r) : k + y.length ≤ hi := (occ_hit h).2.1.1
end Mine

end

section -- Base
open PySem PySem.W PySem.Calls PyProof.Rows Builtin Builtin.Str
set_option maxRecDepth 100000
set_option maxHeartbeats 8000000
namespace Mine
theorem fill : (PySem.Challenge.rw_gk0002_01, hd.heap_39) = (PySem.Challenge.rw_gk0002_01, hd.heap_39) := by k_fill; rfl
/-- a def of the text is entered -/
theorem enter {w : World} {A : Around} {s : Shared} {Q : Value → Shared → Prop} {E : Value → Shared → Prop} {K : Params → Frag} {p : Program} {loose : List Str} {mean : ExcName → Option Value} {mg mb : Str → Option Value} {prog : Program}
    {oc : Value} {od : Option Addr} {osl : Array (Option Value)} {name : Str} {params : Arguments} {body : List Stmt} {scope : Scope} {pm cd doc ct dV kV : Value} {an : Option Addr} {f : Addr} {args : List Value} {binds : List (Str × Value)}
    (X : (K w.params).In s.heap) (T : Top p loose mean mg mb s.heap) (hroom : A.depth < recursionLimit)
    (ho : (K w.params).lookup f = some ⟨oc, od, .func (fnOf name name params body scope dV kV doc pm an cd ct), osl⟩) (hcd : codeIn (K w.params) cd name = true)
    (hbind : bindArgs (fnOf name name params body scope dV kV doc pm an cd ct) ⟨args, []⟩ = pure binds)
    (hloc : (binds.all fun x => decide (scope.names.lookup x.1 = some .local)) = true)
    (h : ∀ h₁, Fr s.heap s.heap.objs.size h₁ (fun x => binds.reverse.lookup x) → News s.heap s.heap.objs.size h₁ [] →
      wpAny (model prog w) (A.deeper (envOf name scope s.heap.objs.size f cd)) (execs body (envOf name scope s.heap.objs.size f cd))
        (fun fl s' => Q (match fl with | .ret v => v | _ => .none) s') (fun _ _ => False) { s with heap := h₁, toks := s.toks + binds.length })
    (hco : scope.isCoroutine = false) (hgen : scope.isGenerator = false) (hk : scope.kind = .function)
    (hcell : ∀ x ∈ scope.names, x.2 ≠ .cell) :
    wpAny (model prog w) A (call (.ref f) args) Q E s := by
  refine wpAny_call (codeAny_call_def (fd := fnOf name name params body scope dV kV doc pm an cd ct) (body := body) (binds := binds) hroom (X _ _ ho) rfl T.nolimit (codeRec_of X hcd) rfl (.of_eq hbind) hcell (locs hloc) (fun h₁ hns hk₁ => ?_) hco hgen hk)
  exact wpAny_mono (h h₁ ⟨hns, hk₁, Nat.le_refl _⟩ (fun p hp => nomatch hp)) (fun _ _ x => x) (fun _ _ x => x.elim)

end Mine

end

section -- Em
open PySem PySem.W PySem.Calls PyProof.Rows Builtin Builtin.Str
set_option maxRecDepth 100000
set_option maxHeartbeats 8000000
namespace Mine
def emP (p0 : Str) (mid : List Str) (pl : Str) (got : Str) : Bool :=
  (p0.length == 0 || Txt.startswith got p0) && (pl.length == 0 || Txt.endswith got pl) && decide (p0.length + pl.length ≤ got.length) &&
    loopE got (got.length - pl.length) p0.length ((if p0.length = 0 then [p0] else []) ++ mid ++ (if pl.length = 0 then [pl] else []))
abbrev dots : Str := Str.ofString "..."

theorem fill1 : (PySem.Challenge.rw_gk0002_01, hd.heap_39) = (PySem.Challenge.rw_gk0002_01, hd.heap_39) := by k_fill; rfl
theorem emP_f1 {p0 pl got : Str} {mid : List Str} (h : p0.length ≠ 0) (h1 : Txt.startswith got p0 = false) : emP p0 mid pl got = false := by
  have : (p0.length == 0) = false := by simpa using h
  simp only [emP, this, h1, Bool.or_false, Bool.false_and]
theorem emP_f2 {p0 pl got : Str} {mid : List Str} (h : pl.length ≠ 0) (h1 : Txt.endswith got pl = false) : emP p0 mid pl got = false := by
  have : (pl.length == 0) = false := by simpa using h
  simp only [emP, this, h1, Bool.or_false, Bool.false_and, Bool.and_false]
theorem emP_f3 {p0 pl got : Str} {mid : List Str} (h : got.length < p0.length + pl.length) : emP p0 mid pl got = false := by
  have : decide (p0.length + pl.length ≤ got.length) = false := by simpa using h
  simp only [emP, this, Bool.false_and, Bool.and_false]
theorem emP_loop {p0 pl got : Str} {mid ws : List Str} (h0 : p0.length = 0 ∨ Txt.startswith got p0 = true) (h1 : pl.length = 0 ∨ Txt.endswith got pl = true) (h2 : p0.length + pl.length ≤ got.length)
    (hws : ws = (if p0.length = 0 then [p0] else []) ++ mid ++ (if pl.length = 0 then [pl] else [])) : emP p0 mid pl got = loopE got (got.length - pl.length) p0.length ws := by
  have e1 : (p0.length == 0 || Txt.startswith got p0) = true := by simpa using h0
  have e2 : (pl.length == 0 || Txt.endswith got pl) = true := by simpa using h1
  simp only [emP, e1, e2, h2, decide_true, Bool.true_and, hws]
def St (got : Str) (tg : Tok) (e : Nat) (b : Bool) (i : Nat) (r : List Str) (m : Str → Option Value) : Prop := b = loopE got e i r ∧ ∃ ti te, LF m got tg i ti e te
theorem St.mk {got : Str} {tg : Tok} {e : Nat} {b : Bool} {i : Nat} {r : List Str} {m : Str → Option Value} (hb : b = loopE got e i r) (g : m (Str.ofString "got") = some (.str got tg))
    (sp : ∃ ti, m (Str.ofString "startpos") = some (.int (i : Int) ti)) (ep : ∃ te, m (Str.ofString "endpos") = some (.int (e : Int) te)) : St got tg e b i r m := by
  obtain ⟨ti, sp⟩ := sp
  obtain ⟨te, ep⟩ := ep
  exact ⟨hb, ti, te, g, sp, ep⟩
local macro_rules | `(tactic| walk_at "call builtin:len") => `(tactic| ((with_reducible show wpAny _ _ (call (Value.builtin "len") [Value.str _ _]) _ _ _); (try (rename occurrences _ _ _ _ _ = _ :: _ => lo'; have lo'' := occ_le lo')); (refine PySem.P.len_str (by omega) ?_)))
local macro_rules | `(tactic| walk_at "call builtin:len") => `(tactic| ((with_reducible show wpAny _ _ (call (Value.builtin "len") [Value.ref _]) _ _ _); (refine len_two (by k_asm) (by k_mem) (by rw [len_strValues]; omega) ?_); (try simp only [len_strValues])))
local macro_rules | `(tactic| walk_at "call builtin:str.split") => `(tactic| (k_here; (refine split_two (by k_asm) (by k_asm) (by assumption) (by decide) (by assumption) ?_); intro D' t0' lm' t1' h' k' e' n' F' N' l1; (try k_lt l1)))
local macro_rules | `(tactic| walk_at "subscriptTail") => `(tactic| ((with_reducible show wpAny _ _ (subscriptTail _ _ (Value.ref _) (Value.int 0 _)) _ _ _); (refine item_first (by k_asm) (by k_mem) ?_ (by with_unfolding_all rfl))))
local macro_rules | `(tactic| walk_at "subscriptTail") => `(tactic| ((with_reducible show wpAny _ _ (subscriptTail _ _ (Value.ref _) (Value.int (-1) _)) _ _ _); (first | refine item_last1 (by k_asm) (by k_mem) ?_ (by with_unfolding_all rfl) | refine item_last (by k_asm) (by k_mem) ?_ (by with_unfolding_all rfl))))
local macro_rules | `(tactic| walk_at "delItem ref int") => `(tactic| ((with_reducible show wpAny _ _ (delItem (Value.ref _) (Value.int 0 _)) _ _ _); (refine del_first (by k_asm) (by k_asm) (by k_upd) (small_line (by simp only [List.length_append, len_strValues, List.length_cons, List.length_nil]; omega)) ?_); intro h' F' N'))
local macro_rules | `(tactic| walk_at "delItem ref int") => `(tactic| ((with_reducible show wpAny _ _ (delItem (Value.ref _) (Value.int (-1) _)) _ _ _); (first | (refine del_last1 (by k_asm) (by k_asm) (by k_upd) (by rw [len_strValues]; omega) ?_) | (refine del_last (by k_asm) (by k_asm) (by k_upd) (small_line (by rw [len_strValues]; omega)) ?_)); intro h' F' N'))
local macro_rules | `(tactic| walk_at "eval Name") => `(tactic| (k_here; (with_reducible rename LF _ _ _ _ _ _ _ => lf'); k_dflt (refine' ld ?k1 ?k2 ?_; (case k1 => k_asm); (case k2 => first | with_unfolding_all exact rfl | with_unfolding_all exact LF.g lf' | with_unfolding_all exact LF.sp lf' | with_unfolding_all exact LF.ep lf'))))
local macro_rules | `(tactic| walk_at "call builtin:str.find") => `(tactic| (k_here; (refine call_find4s ?_ ?_)))
theorem em_call {w : World} {mean : ExcName → Option Value} {mg mb : Str → Option Value} {want got p0 pl : Str} {mid : List Str} {tw tg : Tok}
    {dp un : Nat} {gd : Option (List Code)} {cn : Str} {cs : Scope} {a : Addr} {ccd : Value} {cl : List (Str × Addr)} {outer : List Env} {L : Addr} {s : Shared} {Q E : Value → Shared → Prop}
    (hdp : dp + 1 < recursionLimit) (hu : un + 8 < cLine) (X : (hd.heap_39 w.params).In s.heap) (T : Top hd.view_39 [] mean mg mb s.heap)
    (hc : (occurrences want (Str.ofString "...") 0 want.length 1).isEmpty = false) (hsp : Txt.split want dots = p0 :: (mid ++ [pl])) (hzw : want.length ≤ 1000) (hzg : got.length ≤ 1000) (hz0 : p0.length ≤ 1000) (hzl : pl.length ≤ 1000) (hzm : mid.length ≤ 8)
    (hret : ∀ h' tk, (∀ b o, s.heap.get? b = some o → h'.get? b = some o) → Q (.bool (emP p0 mid pl got)) { s with heap := h', toks := tk }) :
      wpAny (model PySem.Challenge.pw_gk0002_01 w) (ktrTop dp un gd cn cs L a ccd cl outer) (call (.ref 21) [.str want tw, .str got tg]) Q E s := by
  k_dflt (refine' enter (K := hd.heap_39) (binds := [(Str.ofString "want", .str want tw), (Str.ofString "got", .str got tg)]) X T ?h1 ?h2 ?h3 ?h4 ?h5 ?h6 ?h7 ?h8 ?h9 ?h10; (case h2 => k_is); (case h3 => k_is); (case h4 => rfl); (case h5 => rfl); (case h7 => rfl); (case h8 => rfl); (case h9 => rfl); (case h10 => decide))
  · show dp < recursionLimit; omega
  intro h₁ F' N'
  k_steps
  all_goals try
      (rename Fr _ _ _ _ => lF
       have hb : emP p0 mid pl got = false := by first | exact emP_f1 (by omega) (by assumption) | exact emP_f2 (by omega) (by assumption) | exact emP_f3 (by omega)
       have z := fun tk => hret _ tk lF.keep
       rw [hb] at z
       exact z _)
  all_goals
      (rename Fr _ _ _ _ => lF
       rename News _ _ _ _ => lN
       have hlp : ∀ ws, ws = (if p0.length = 0 then [p0] else []) ++ mid ++ (if pl.length = 0 then [pl] else []) → emP p0 mid pl got = loopE got (got.length - pl.length) p0.length ws :=
         fun ws hws => emP_loop (by first | (left; omega) | (right; assumption)) (by first | (left; omega) | (right; assumption)) (by omega) hws
       refine str_iter (St got tg (got.length - pl.length) (emP p0 mid pl got)) (i := p0.length) (by rfl) lF lN (by k_mem) (by first | exact strValues_full _ _ _ _ _ | exact strValues_snoc _ _ _ | exact strValues_cons _ _ _ | rfl) ?_ ?_ ?_
       · refine St.mk (hlp _ ?_) (by with_unfolding_all exact rfl) ?_ ?_
         · first
             | rw [if_pos (by omega), if_pos (by omega)]
             | rw [if_neg (by omega), if_pos (by omega)]
             | rw [if_pos (by omega), if_neg (by omega)]
             | rw [if_neg (by omega), if_neg (by omega)]
           rename List.map _ _ = mid => lM
           subst lM
           simp
         · first | with_unfolding_all exact ⟨_, rfl⟩ | (rw [show ((p0.length : Nat) : Int) = 0 by omega]; with_unfolding_all exact ⟨_, rfl⟩)
         · first | (rw [show ((got.length - pl.length : Nat) : Int) = (got.length : Int) - (pl.length : Int) by omega]; with_unfolding_all exact ⟨_, rfl⟩) | (rw [show ((got.length - pl.length : Nat) : Int) = (got.length : Int) by omega]; with_unfolding_all exact ⟨_, rfl⟩)
       · intro i m hst h tk F N
         k_steps
         rename Fr _ _ _ _ => lF
         have hb : emP p0 mid pl got = true := hst.1
         have z := fun tk => hret _ tk lF.keep
         rw [hb] at z
         exact z _
       · intro Q' I y t r i m it h tk hst F N hq hn
         obtain ⟨hst, ti, te, lf⟩ := hst
         k_steps
         · rename Fr _ _ _ _ => lF
           rename News _ _ _ _ => lN
           rename LF _ _ _ _ _ _ _ => lf
           refine hn _ _ _ _ (St.mk (by rw [hst]; exact loopE_cons (by assumption)) (by with_unfolding_all exact lf.g) (by with_unfolding_all exact ⟨_, rfl⟩) (by with_unfolding_all exact ⟨_, lf.ep⟩)) lF lN
         · rename Fr _ _ _ _ => lF
           have hb : emP p0 mid pl got = false := by rw [hst]; exact loopE_none (by assumption)
           have z := fun tk => hret _ tk lF.keep
           rw [hb] at z
           exact hq _ _ (z _))
end Mine

end

section -- Lf
open PySem PySem.W PySem.Calls PyProof.Rows Builtin Builtin.Str
set_option maxRecDepth 100000
set_option maxHeartbeats 8000000
namespace Mine
theorem fill2 : (PySem.Challenge.rw_gk0002_01, hd.heap_39) = (PySem.Challenge.rw_gk0002_01, hd.heap_39) := by k_fill; rfl
def firstP (p0 : Str) (mid : List Str) (pl : Str) (word : Str) : Bool :=
  Txt.startswith word p0 && match go word word.length p0.length mid with
    | none => false
    | some here => decide (here + pl.length ≤ word.length) && Txt.endswith word pl
structure LG (m : Str → Option Value) (P : Addr) (word : Str) (tw : Tok) (i : Nat) (ti : Tok) : Prop where
  p : m (Str.ofString "pieces") = some (.ref P)
  w : m (Str.ofString "word") = some (.str word tw)
  h : m (Str.ofString "here") = some (.int (i : Int) ti)
def SG (P : Addr) (word : Str) (tw : Tok) (o : Option Nat) (i : Nat) (r : List Str) (m : Str → Option Value) : Prop := o = go word word.length i r ∧ ∃ ti, LG m P word tw i ti
theorem SG.mk {P : Addr} {word : Str} {tw : Tok} {o : Option Nat} {i : Nat} {r : List Str} {m : Str → Option Value} (ho : o = go word word.length i r) (p : m (Str.ofString "pieces") = some (.ref P))
    (w : m (Str.ofString "word") = some (.str word tw)) (h : ∃ ti, m (Str.ofString "here") = some (.int (i : Int) ti)) : SG P word tw o i r m := by
  obtain ⟨ti, h⟩ := h
  exact ⟨ho, ti, p, w, h⟩
local macro_rules | `(tactic| walk_at "call builtin:len") => `(tactic| ((with_reducible show wpAny _ _ (call (Value.builtin "len") [Value.str _ _]) _ _ _); (try (rename occurrences _ _ _ _ _ = _ :: _ => lo'; have lo'' := occ_le lo')); (refine PySem.P.len_str (by omega) ?_)))
local macro_rules | `(tactic| walk_at "subscriptTail") => `(tactic| ((with_reducible show wpAny _ _ (subscriptTail _ _ (Value.ref _) (Value.int 0 _)) _ _ _); (refine item_firstL (by k_asm) (by k_asm) ?_ (by with_unfolding_all rfl))))
local macro_rules | `(tactic| walk_at "subscriptTail") => `(tactic| ((with_reducible show wpAny _ _ (subscriptTail _ _ (Value.ref _) (Value.int (-1) _)) _ _ _); (refine item_lastL (by k_asm) (by k_asm) ?_ (by with_unfolding_all rfl))))
local macro_rules | `(tactic| walk_at "subscriptTail Name Slice ref ref") => `(tactic| (k_here; (refine slice_midL (by k_asm) (by k_asm) (by k_asm) ?_ (by with_unfolding_all rfl) (by kmk_pure) (by rw [len_strValues]; omega)); intro D' h' F' N' l1; (try k_lt l1)))
local macro_rules | `(tactic| walk_at "exec For Name Subscript cons nil") => `(tactic| (k_here; (rename Fr _ _ _ _ => lF'); (with_unfolding_all refine' For_invVF lF' ?k1 ?k2 ?_; (case k1 => exact rfl); (case k2 => exact rfl); k_whole)))
local macro_rules | `(tactic| walk_at "eval Name") => `(tactic| (k_here; (with_reducible rename LG _ _ _ _ _ _ => lf'); k_dflt (refine' ld ?k1 ?k2 ?_; (case k1 => k_asm); (case k2 => first | with_unfolding_all exact rfl | with_unfolding_all exact LG.w lf' | with_unfolding_all exact LG.h lf' | with_unfolding_all exact LG.p lf'))))
local macro_rules | `(tactic| walk_at "call builtin:str.find") => `(tactic| (k_here; (refine call_find3s ?_ ?_)))
theorem lf_call {w : World} {mean : ExcName → Option Value} {mg mb : Str → Option Value} {word p0 pl : Str} {lm : List (Str × Tok)} {P : Addr} {t0 tl tw : Tok}
    {dp un : Nat} {gd : Option (List Code)} {cn : Str} {cs : Scope} {a : Addr} {ccd : Value} {cl : List (Str × Addr)} {outer : List Env} {L : Addr} {s : Shared} {Q E : Value → Shared → Prop}
    (hdp : dp + 1 < recursionLimit) (hu : un + 8 < cLine) (X : (hd.heap_39 w.params).In s.heap) (T : Top hd.view_39 [] mean mg mb s.heap)
    (hP : s.heap.IsList P (.str p0 t0 :: (strValues lm ++ [.str pl tl])).toArray) (hzg : word.length ≤ 1000) (hz0 : p0.length ≤ 1000) (hzl : pl.length ≤ 1000) (hzm : lm.length ≤ 8)
    (hret : ∀ h' tk, (∀ b o, s.heap.get? b = some o → h'.get? b = some o) → Q (.bool (firstP p0 (lm.map (·.1)) pl word)) { s with heap := h', toks := tk }) :
      wpAny (model PySem.Challenge.pw_gk0002_01 w) (ktrTop dp un gd cn cs L a ccd cl outer) (call (.ref 47) [.ref P, .str word tw]) Q E s := by
  k_dflt (refine' enter (K := hd.heap_39) (binds := [(Str.ofString "pieces", .ref P), (Str.ofString "word", .str word tw)]) X T ?h1 ?h2 ?h3 ?h4 ?h5 ?h6 ?h7 ?h8 ?h9 ?h10; (case h2 => k_is); (case h3 => k_is); (case h4 => rfl); (case h5 => rfl); (case h7 => rfl); (case h8 => rfl); (case h9 => rfl); (case h10 => decide))
  · show dp < recursionLimit; omega
  intro h₁ F' N'
  k_steps
  · rename Fr _ _ _ _ => lF
    rename News _ _ _ _ => lN
    refine str_iter (SG P word tw (go word word.length p0.length (lm.map (·.1)))) (i := p0.length) (by rfl) lF lN (by k_mem) rfl ?_ ?_ ?_
    · exact SG.mk rfl (by with_unfolding_all exact rfl) (by with_unfolding_all exact rfl) (by with_unfolding_all exact ⟨_, rfl⟩)
    · intro i m hst h tk F N
      obtain ⟨hst, ti, lf⟩ := hst
      have hfp : firstP p0 (lm.map (·.1)) pl word = (decide (i + pl.length ≤ word.length) && Txt.endswith word pl) := by
        unfold firstP
        rw [hst, show Txt.startswith word p0 = true by assumption]
        rfl
      k_steps
      · rename Fr _ _ _ _ => lF
        have hb : firstP p0 (lm.map (·.1)) pl word = Txt.endswith word pl := by
          rw [hfp, decide_eq_true (by omega)]
          rfl
        have z := fun tk => hret _ tk lF.keep
        rw [hb] at z
        exact z _
      · rename Fr _ _ _ _ => lF
        have hb : firstP p0 (lm.map (·.1)) pl word = decide ((i : Int) ≤ (word.length : Int) - (pl.length : Int)) := by
          rw [hfp, decide_eq_false (by omega), decide_eq_false (by omega)]
          rfl
        have z := fun tk => hret _ tk lF.keep
        rw [hb] at z
        exact z _
    · intro Q' I y t r i m it h tk hst F N hq hn
      obtain ⟨hst, ti, lf⟩ := hst
      k_steps
      · rename Fr _ _ _ _ => lF
        rename News _ _ _ _ => lN
        rename LG _ _ _ _ _ _ => lf
        refine hn _ _ _ _ (SG.mk (by rw [hst]; exact go_cons (by assumption)) (by with_unfolding_all exact lf.p) (by with_unfolding_all exact lf.w) (by with_unfolding_all exact ⟨_, rfl⟩)) lF lN
      · rename Fr _ _ _ _ => lF
        have hb : firstP p0 (lm.map (·.1)) pl word = false := by
          unfold firstP
          rw [hst, go_none (by assumption)]
          exact Bool.and_false _
        have z := fun tk => hret _ tk lF.keep
        rw [hb] at z
        exact hq _ _ (z _)
  · rename Fr _ _ _ _ => lF
    have hb : firstP p0 (lm.map (·.1)) pl word = false := by
      unfold firstP
      rw [show Txt.startswith word p0 = false by assumption]
      rfl
    have z := fun tk => hret _ tk lF.keep
    rw [hb] at z
    exact z _
end Mine

end

section -- SpineC
open PySem PySem.W PySem.Calls PyProof.Rows
set_option maxRecDepth 100000
set_option maxHeartbeats 4000000
namespace Mine
open Sem (wp)
section
variable {α : Type} {M : Model} {A : Around} {E : Value → Shared → Prop} {s : Shared} {env : Env}
theorem wpC_onRaiseF {m : Sem α} {k : Value → Sem Unit} {Q : α → Shared → Prop} (h : wpC M A m Q (fun _ _ => False) s) : wpC M A (m.onRaise k) Q E s :=
  wpC_onRaise (wpC_mono h (fun _ _ q => q) fun _ _ f => f.elim)
theorem wpC_F {m : Sem α} {Q : α → Shared → Prop} (h : wpC M A m Q (fun _ _ => False) s) : wpC M A m Q E s := wpC_mono h (fun _ _ q => q) fun _ _ f => f.elim
theorem wpC_execs_cons {st rest} {Q : Flow → Shared → Prop}
    (h : wpC M A (exec st env) (fun f s' => match f with | .next => wpC M A (execs rest env) Q E s' | f => Q f s') E s) :
    wpC M A (execs (st :: rest) env) Q E s := fun Γ p hΓ ho hc => by
  rw [execs_cons, Sem.wp_bind']
  refine Sem.wp_mono M Γ _ (fun f p' s' h' => ?_) (fun _ _ _ h' => h') _ _ (h Γ p hΓ ho hc)
  cases f <;> first | exact h' Γ p' hΓ ho hc | exact h'
/-- a statement that the plain logic serves -/
theorem wpC_execs_step {st rest} {Q : Flow → Shared → Prop}
    (h : wpAny M A (exec st env) (fun f s' => match f with | .next => wpC M A (execs rest env) Q E s' | f => Q f s') E s) :
    wpC M A (execs (st :: rest) env) Q E s := wpC_execs_cons (wpC_any h)
theorem wpC_Assign_Name {x pos' value pos} {Q : Flow → Shared → Prop}
    (h : wpC M A (eval value env) (fun v s₁ => wpAny M A (storeName env x v) (fun _ => Q .next) E s₁) E s)
    (hs : swapsWith value (some (.Name x pos')) pos.line env = pure false := by rfl) :
    wpC M A (exec (.Assign [.Name x pos'] value pos) env) Q E s := fun Γ p hΓ ho hc => by
  simp only [exec_Assign_Name env x pos' value pos hs, Sem.wp_bind', Sem.wp_cmd_standAt, Sem.wp_bindName, Sem.wp_pure']
  exact Sem.wp_mono M Γ _ (fun v _ s₁ h₁ => h₁ Γ _ hΓ) (fun _ _ _ h' => h') _ _ (h Γ _ hΓ ho hc)
theorem wpC_If {test body orelse pos} {Q : Flow → Shared → Prop}
    (h : wpC M A (isTrue test env (eval test env))
      (fun b s₂ => if b then wpC M A (execs body env) Q E s₂ else wpC M A (execs orelse env) Q E s₂) E s) :
    wpC M A (exec (.If test body orelse pos) env) Q E s := fun Γ p hΓ ho hc => by
  simp only [exec_If, Sem.wp_bind', Sem.wp_cmd_standAt]
  refine Sem.wp_mono M Γ _ (fun b p₂ s₂ h₂ => ?_) (fun _ _ _ h' => h') _ _ (h Γ _ hΓ ho hc)
  cases b <;> exact h₂ Γ p₂ hΓ ho hc
theorem wpC_isTrue_Compare1 {l op r pos whole} {Q : Bool → Shared → Prop}
    (h : wpC M A (eval l env) (fun a s₁ => wpAny M A (eval r env) (fun b s₂ => wpAny M A (compareOp op a b)
      (fun c s₃ => wpAny M A (truthy c) Q E s₃) E s₂) E s₁) E s)
    (hm : behindInMarks op r = false := by with_unfolding_all rfl) : wpC M A (isTrue (.Compare l [op] [r] pos) env whole) Q E s := fun Γ p hΓ ho hc => by
  simp only [isTrue_Compare1, markedBehindIn_of_false hm, Sem.wp_bind', Sem.wp_holding, Sem.wp_cmd_standAt, Sem.wp_operate]
  exact Sem.wp_mono M Γ _ (fun a p₁ s₁ h₁ => Sem.wp_mono M Γ _ (fun b _ s₂ h₂ => Sem.wp_mono M Γ _ (fun c p₃ s₃ h₃ => h₃ Γ p₃ hΓ)
    (fun _ _ _ h' => h') _ _ (h₂ Γ _ hΓ)) (fun _ _ _ h' => h') _ _ (h₁ Γ p₁ hΓ)) (fun _ _ _ h' => h') _ _ (h Γ p hΓ ho hc)
theorem wpC_isTrue_BoolOp {op : BoolOp} {values : List Expr} {pos : Pos} {whole : Sem Value} {Q : Bool → Shared → Prop} (h : wpC M A (allTrue op values env) Q E s) :
    wpC M A (isTrue (.BoolOp op values pos) env whole) Q E s := by rw [arm_isTrue_BoolOp]; exact h
theorem wpC_allTrue_Or_cons {x : Expr} {rest : List Expr} {Q : Bool → Shared → Prop}
    (h : wpC M A (isTrue x env (eval x env)) (fun b s₁ => if b then Q true s₁ else wpC M A (allTrue .Or rest env) Q E s₁) E s) : wpC M A (allTrue .Or (x :: rest) env) Q E s := by
  show wpC M A (do match BoolOp.Or, ← isTrue x env (eval x env) with | .And, false => pure false | .Or, true => pure true | _, _ => allTrue .Or rest env) Q E s
  refine wpC_bind (wpC_mono h (fun b s₁ h₁ => ?_) fun _ _ x => x)
  cases b
  · exact h₁
  · exact wpC_pure h₁
theorem wpC_Return_some {e pos} {Q : Flow → Shared → Prop} (h : wpC M A (eval e env) (fun v => Q (.ret v)) E s) :
    wpC M A (exec (.Return (some e) pos) env) Q E s := fun Γ p hΓ ho hc => by
  simp only [exec_Return_some, Sem.wp_bind', Sem.wp_cmd_standAt, Sem.wp_pure']; exact h Γ _ hΓ ho hc
theorem wpC_IfExp {test body orelse : Expr} {pos : Pos} {Q : Value → Shared → Prop}
    (h : wpC M A (isTrue test env (eval test env)) (fun b s₁ => if b then wpC M A (eval body env) Q E s₁ else wpC M A (eval orelse env) Q E s₁) E s) :
    wpC M A (eval (.IfExp test body orelse pos) env) Q E s := by
  rw [arm_eval_IfExp]
  refine wpC_bind (wpC_mono h (fun b s₁ h₁ => ?_) fun _ _ x => x)
  cases b <;> exact h₁
theorem wpC_MethodCall {o : Expr} {name : Str} {apos pos : Pos} {args : List Expr} {pl : Sem Bool} {Q : Value → Shared → Prop}
    (h : wpC M A (eval o env) (fun ov s₁ => wpAny M A (getMethod ov name pl) (fun fx s₂ => wpAny M A (callWith pos fx.1 fx.2 (backTo pos (starEach args env)) []) Q E s₂) E s₁) E s)
    (he : eval (.Call (.Attribute o name apos) args [] pos) env = (do
      let ov ← eval o env
      standAt apos.atName
      let (f, first) ← holding [ov] (getMethod ov name pl)
      callWith pos f first (backTo pos (starEach args env)) []) := by rfl) :
    wpC M A (eval (.Call (.Attribute o name apos) args [] pos) env) Q E s := by
  rw [he]
  refine wpC_bind (wpC_mono h (fun ov s₁ h₁ => wpC_any (wpAny_bind (wpAny_standAt (wpAny_bind (wpAny_holding (wpAny_mono h₁ (fun fx s₂ h₂ => ?_) fun _ _ x => x)))))) fun _ _ x => x)
  obtain ⟨f, first⟩ := fx
  exact h₂
theorem wpC_Call_Name {x : Str} {p pos : Pos} {args : List Expr} {trees : List (Bool × Sem Value)} {Q : Value → Shared → Prop} (ht : backTo pos (starEach args env) = trees)
    (h : wpAny M A (eval (.Name x p) env) (fun f s₁ => wpC M A (callWith pos f [] trees []) Q E s₁) E s) :
    wpC M A (eval (.Call (.Name x p) args [] pos) env) Q E s := by
  subst ht
  exact wpC_step h
theorem wpC_callWith_function {pos : Pos} {a : Addr} {o : Obj} {fd : FuncData} {first : List Value} {args : List (Bool × Sem Value)} {Q : Value → Shared → Prop}
    (h : wpC M A (evalArgs (.ref a) true args []) (fun x s₁ => (s₁.heap.get? a = some o ∧ o.data = .func fd) ∧ wpC M A (call (.ref a) (first ++ x.pos) x.kw) Q E s₁) E s) :
    wpC M A (callWith pos (.ref a) first args []) Q E s := by
  unfold callWith
  refine wpC_bind (wpC_holding (wpC_mono h (fun x s₁ h₁ => wpC_step (wpAny_standAt ?_)) fun _ _ x => x))
  have tail : ∀ {t : Sem Value}, wpC M A t Q E s₁ → wpC M A (t >>= fun r => holding [r] point >>= fun _ => pure r) Q E s₁ :=
    fun ht => wpC_bind (wpC_mono ht (fun r s₂ hr => wpC_any (wpAny_bind (wpAny_holding (wpAny_point (wpAny_pure hr))))) fun _ _ x => x)
  cases hs : args.any (·.1) <;> simp only [List.any_nil, Bool.or_false] <;>
    refine wpC_step (m := keeperOf (.ref a)) ?_ <;> unfold keeperOf <;>
    refine wpAny_bind (wpAny_load h₁.1.1 ?_) <;> rw [h₁.1.2] <;> refine wpAny_pure ?_
  · dsimp only
    split
    · exact tail h₁.2
    · refine tail (t := callMarked plainCall (Value.ref a) (first ++ x.pos) x.kw) ?_
      unfold callMarked
      exact wpC_keep h₁.2
  · refine tail (t := callMarked starredCall (Value.ref a) (first ++ x.pos) x.kw) ?_
    unfold callMarked
    exact wpC_keep h₁.2
theorem wpC_evalArgs_plain {f : Value} {x : Sem Value} {rest : List (Bool × Sem Value)} {Q : Args → Shared → Prop}
    (h : wpAny M A (spliced ((false, x) :: rest)) (fun vs s₁ => Q ⟨vs, []⟩ s₁) E s) : wpC M A (evalArgs f true ((false, x) :: rest) []) Q E s := wpC_any (evalArgs_plain h)
theorem wpC_callWith_def {pos : Pos} {f : Addr} {o : Obj} {fd : FuncData} {e : Expr} {rest : List Expr} {Q : Value → Shared → Prop} (hdat : o.data = .func fd)
    (h : wpAny M A (spliced (backTo pos (starEach (e :: rest) env))) (fun vs s₁ => s₁.heap.get? f = some o ∧ wpC M A (call (.ref f) vs) Q E s₁) E s)
    (he : starEach (e :: rest) env = (false, eval e env) :: starEach rest env := by rfl) :
    wpC M A (callWith pos (.ref f) [] (backTo pos (starEach (e :: rest) env)) []) Q E s := by
  rw [he] at h ⊢
  exact wpC_callWith_function (o := o) (fd := fd) (wpC_evalArgs_plain (wpAny_mono h (fun vs s₁ h₁ => ⟨⟨h₁.1, hdat⟩, h₁.2⟩) fun _ _ x => x))
theorem wpC_callWith_type {pos : Pos} {T : String} {first : List Value} {args : List (Bool × Sem Value)} {Q : Value → Shared → Prop} (hplain : args.any (·.1) = false)
    (h : wpC M A (evalArgs (.type T) true args []) (fun a s₁ => wpC M A (call (.type T) (first ++ a.pos) a.kw) Q E s₁) E s) :
    wpC M A (callWith pos (.type T) first args []) Q E s := by
  unfold callWith
  refine wpC_bind (wpC_holding (wpC_mono h (fun a s₁ h₁ => wpC_step (wpAny_standAt ?_)) fun _ _ x => x))
  simp only [hplain, List.any_nil, Bool.or_false]
  refine wpC_step (wpAny_pure ?_)
  exact wpC_bind (wpC_mono h₁ (fun r s₂ hr => wpC_any (wpAny_bind (wpAny_holding (wpAny_point (wpAny_pure hr))))) fun _ _ x => x)
theorem wpC_callWith_type1 {pos : Pos} {T : String} {e : Expr} {rest : List Expr} {Q : Value → Shared → Prop}
    (h : wpAny M A (spliced (backTo pos (starEach (e :: rest) env))) (fun vs s₁ => wpC M A (call (.type T) vs) Q E s₁) E s)
    (he : starEach (e :: rest) env = (false, eval e env) :: starEach rest env := by rfl)
    (hplain : (backTo pos (starEach rest env)).any (·.1) = false := by rfl) :
    wpC M A (callWith pos (.type T) [] (backTo pos (starEach (e :: rest) env)) []) Q E s := by
  rw [he] at h ⊢
  exact wpC_callWith_type (by show (false || (backTo pos (starEach rest env)).any (·.1)) = false; rw [hplain]; rfl) (wpC_evalArgs_plain h)
theorem wpC_items_cons {pos : Pos} {e : Expr} {rest : List Expr} {Q : List Value → Shared → Prop}
    (h : wpC M A (eval e env) (fun v s₁ => wpC M A (spliced (backTo pos (starEach rest env))) (fun vs s₂ => Q (v :: vs) s₂) E s₁) E s)
    (he : starEach (e :: rest) env = (false, eval e env) :: starEach rest env := by rfl) : wpC M A (spliced (backTo pos (starEach (e :: rest) env))) Q E s := by
  rw [he]
  show wpC M A (do
    let v ← eval e env
    let here ← (pure [v] : Sem (List Value))
    return here ++ (← holding here (spliced (backTo pos (starEach rest env))))) Q E s
  exact wpC_bind (wpC_mono h (fun v s₁ h₁ => wpC_step (wpAny_pure (wpC_bind (wpC_holding (wpC_mono h₁ (fun vs s₂ h₂ => wpC_pure h₂) fun _ _ x => x))))) fun _ _ x => x)
theorem wpC_items_nil {pos : Pos} {Q : List Value → Shared → Prop} (h : Q [] s) : wpC M A (spliced (backTo pos (starEach [] env))) Q E s := wpC_pure h
theorem wpC_Tuple {elts : List Expr} {k : Nat} {pos : Pos} {Q : Value → Shared → Prop}
    (h : wpC M A (spliced (backTo pos (starEach elts env))) (fun vs s₁ => wpAny M A (newTuple vs) Q E s₁) E s) : wpC M A (eval (.Tuple elts k pos) env) Q E s := by
  rw [arm_eval_Tuple]
  exact wpC_step (wpAny_standAt (wpC_bind (wpC_mono h (fun vs s₁ h₁ => wpC_any h₁) fun _ _ x => x)))
theorem wpC_Assign_Tuple {elts k tpos value pos} {Q : Flow → Shared → Prop}
    (h : wpC M A (eval value env) (fun v s₁ => wpAny M A (assign (.Tuple elts k tpos) env v) (fun _ => Q .next) E s₁) E s)
    (hs : swapsWithSole [.Tuple elts k tpos] value pos.line env = pure false := by rfl)
    (hw : swappedStores [.Tuple elts k tpos] value env = pure none := by rfl) :
    wpC M A (exec (.Assign [.Tuple elts k tpos] value pos) env) Q E s := by
  rw [exec_Assign]
  refine wpC_step (wpAny_standAt ?_)
  rw [hs]
  refine wpC_step (wpAny_pure ?_)
  rw [if_neg (by decide)]
  refine wpC_bind (wpC_mono h (fun v s₁ h₁ => ?_) fun _ _ x => x)
  rw [hw]
  refine wpC_step (wpAny_pure ?_)
  show wpC M A (do assignAll v [assign (.Tuple elts k tpos) env]; pure .next) Q E s₁
  exact wpC_any (wpAny_bind (wpAny_mono h₁ (fun _ _ x => wpAny_pure x) fun _ _ x => x))
end
section
variable {prog : Program} {w : World} {A : Around} {E : Value → Shared → Prop} {R : Result → Shared → Prop} {s : Shared} {env : Env}
theorem codeC_func {body env}
    (h : wpC (model prog w) (A.deeper env) (execs body env) (fun f s' => R (.ok (.ret (match f with | .ret v => v | _ => .none))) s') (fun _ _ => False) s) :
    codeC (model prog w) A (.func body env) R s := by
  refine codeC_of_tree rfl ?_
  show wpC _ (A.deeper env) (do point; match ← (execs body env).onRaise (leaving env) with | .ret v => ret v | _ => ret .none) _ _ s
  refine wpC_step (wpAny_point (wpC_bind (wpC_onRaiseF (wpC_mono h (fun f s' h' => ?_) fun _ _ h' => h'))))
  cases f <;> exact wpC_pure h'
theorem codeC_call_function {a : Addr} {args : Args} {o : Obj} {fd : FuncData} {body : List Stmt} (hroom : A.depth < recursionLimit)
    (ho : s.heap.get? a = some o)
    (hd' : o.data = .func fd) (hco : fd.scope.isCoroutine = false) (hgen : fd.scope.isGenerator = false) (hbody : fd.body = .stmts body) (hcd : s.heap.CodeRec fd.code fd.qualname)
    (h : wpAny (model prog w) A.in1 (bindArgs fd args) (fun binds s₁ =>
      wpAny (model prog w) A.in1 (newFunctionEnv fd.scope fd.globals fd.closure binds (fd.qualname ++ ".<locals>.") (some a) fd.code none fd.builtins)
        (fun env s₂ => s₂.heap.NoLimit ∧ codeC (model prog w) A (.func body env) R s₂) (fun e s' => R (.error e) s') s₁) (fun e s' => R (.error e) s') s) :
    codeC (model prog w) A (.call (.ref a) args) R s := by
  refine codeC_of_any rfl ?_
  show wpAny _ A.in1 (callAny (.ref a) args) _ _ s
  simp only [callAny]
  refine wpAny_bind (wpAny_load ho ?_)
  obtain ⟨c, oc, vs, tq, hc, hoc, hdc, hq⟩ := hcd
  simp only [hd', callFunction, hco, hgen, hbody, hc]
  rw [hc] at h
  refine wpAny_bind (m := field (.ref c) 1) (wpAny_field hoc hdc hq (wpAny_bind (wpAny_pure ?_)))
  exact wpAny_bind (wpAny_mono h (fun binds s₁ h₁ => wpAny_bind (wpAny_mono h₁ (fun env s₂ h₂ => wpAny_bind (wpAny_enterFrame h₂.1 hroom
    (wpAny_pure (And.intro rfl h₂.2)))) fun _ _ h' => h')) fun _ _ h' => h')
theorem codeC_call_def {a : Addr} {o : Obj} {fd : FuncData} {body : List Stmt} {args : Args} {binds : List (Str × Value)}
    (hroom : A.depth < recursionLimit) (ho : s.heap.get? a = some o) (hdata : o.data = .func fd) (hlim : s.heap.NoLimit) (hcd : s.heap.CodeRec fd.code fd.qualname)
    (hbody : fd.body = .stmts body) (hbind : BindsTo s fd args binds)
    (hcell : ∀ x ∈ fd.scope.names, x.2 ≠ .cell) (hloc : ∀ x ∈ binds, fd.scope.names.lookup x.1 = some .local)
    (h : ∀ h₀, h₀.Ns s.heap.objs.size (fun x => binds.reverse.lookup x) → (∀ b o, s.heap.get? b = some o → h₀.get? b = some o) →
      wpC (model prog w) (A.deeper (callEnv fd s.heap.objs.size a)) (execs body (callEnv fd s.heap.objs.size a)) (fun f s' => R (.ok (.ret (match f with | .ret v => v | _ => .none))) s')
        (fun _ _ => False) { s with heap := h₀, toks := s.toks + binds.length })
    (hco : fd.scope.isCoroutine = false := by rfl) (hgen : fd.scope.isGenerator = false := by rfl) (hk : fd.scope.kind = .function := by rfl) :
    codeC (model prog w) A (.call (.ref a) args) R s := by
  refine codeC_call_function hroom ho hdata hco hgen hbody hcd (hbind _ _ _ _ ?_)
  refine wpAny_newFunctionEnv hcell hloc (fun h₀ hns₀ hsb₀ => ⟨hlim.fresh _ hsb₀, codeC_func (h h₀ hns₀ fun b o e => ?_)⟩) hk
  exact hsb₀.extBut b o (Nat.ne_of_lt (Heap.lt_size e)) (Heap.get?_push_of_some _ e)
/-- a def of the text is entered, in the clean logic -/
theorem enterC {Q : Value → Shared → Prop} {K : Params → Frag} {p : Program} {loose : List Str} {mean : ExcName → Option Value} {mg mb : Str → Option Value}
    {oc : Value} {od : Option Addr} {osl : Array (Option Value)} {name : Str} {params : Arguments} {body : List Stmt} {scope : Scope} {pm cd doc ct dV kV : Value} {an : Option Addr} {f : Addr} {args : List Value} {binds : List (Str × Value)}
    (X : (K w.params).In s.heap) (T : Top p loose mean mg mb s.heap) (hroom : A.depth < recursionLimit)
    (ho : (K w.params).lookup f = some ⟨oc, od, .func (fnOf name name params body scope dV kV doc pm an cd ct), osl⟩) (hcd : codeIn (K w.params) cd name = true)
    (hbind : bindArgs (fnOf name name params body scope dV kV doc pm an cd ct) ⟨args, []⟩ = pure binds)
    (hloc : (binds.all fun x => decide (scope.names.lookup x.1 = some .local)) = true)
    (h : ∀ h₁, Fr s.heap s.heap.objs.size h₁ (fun x => binds.reverse.lookup x) → News s.heap s.heap.objs.size h₁ [] →
      wpC (model prog w) (A.deeper (envOf name scope s.heap.objs.size f cd)) (execs body (envOf name scope s.heap.objs.size f cd))
        (fun fl s' => Q (match fl with | .ret v => v | _ => .none) s') (fun _ _ => False) { s with heap := h₁, toks := s.toks + binds.length })
    (hco : scope.isCoroutine = false) (hgen : scope.isGenerator = false) (hk : scope.kind = .function)
    (hcell : ∀ x ∈ scope.names, x.2 ≠ .cell) :
    wpC (model prog w) A (call (.ref f) args) Q E s := by
  refine wpC_call (codeC_call_def (fd := fnOf name name params body scope dV kV doc pm an cd ct) (body := body) (binds := binds) hroom (X _ _ ho) rfl T.nolimit (codeRec_of X hcd) rfl (.of_eq hbind) hcell (locs hloc) (fun h₁ hns hk₁ => ?_) hco hgen hk)
  exact wpC_mono (h h₁ ⟨hns, hk₁, Nat.le_refl _⟩ (fun p hp => nomatch hp)) (fun _ _ x => x) (fun _ _ x => x)
end
end Mine

end

section -- CompC
open PySem PySem.W PySem.Calls PyProof.Rows
set_option maxRecDepth 100000
set_option maxHeartbeats 4000000
namespace Mine
open Sem (wp)
theorem codeC_loop {M : Model} {A : Around} {s : Shared} {c : Code} {R : Result → Shared → Prop} (ho : okCode c = true) (hq : c.quiet = true) (I : Nat → Shared → Prop)
    (turn : ∀ n s, I n s → wpC M (A.under c) (M.den c)
      (fun fin s' => match fin with | .done f => R (.ok f) s' | .again c' => c' = c ∧ ∃ m, m < n ∧ I m s') (fun e s' => R (.error e) s') s)
    (n : Nat) (h : I n s) : codeC M A c R s := by
  induction n using Nat.strongRecOn generalizing s with
  | ind n ih =>
    refine codeC_of_tree ho (wpC_mono (turn n s h) (fun fin s' hf => ?_) fun _ _ h' => h')
    cases fin with
    | done f => exact hf
    | again c' => obtain ⟨rfl, m, hm, hI⟩ := hf; exact ⟨hq, ih m hm hI⟩
section
variable {prog : Program} {w : World} {A : Around} {E : Value → Shared → Prop} {R : Result → Shared → Prop} {s : Shared} {env : Env}
theorem codeC_compLoop_list {elt target iter : Expr} {scope : Scope} {pos : Pos} {it acc : Value} {env : Env} (I : Nat → Shared → Prop)
    (turn : ∀ n s, I n s → wpAny (model prog w) A (pyNext it) (fun r s₁ => match r with
      | none => R (.ok .next) s₁
      | some v => wpAny (model prog w) A (assign target env v) (fun _ s₂ => wpC (model prog w) A (eval elt env) (fun x s₃ =>
          wpAny (model prog w) A (call (.builtin "list.append") [acc, x]) (fun _ s₄ => ∃ m, m < n ∧ I m s₄) (fun _ _ => False) s₃)
          (fun _ _ => False) s₂) (fun _ _ => False) s₁) (fun _ _ => False) s)
    (n : Nat) (h : I n s) (ht : ∀ v, letOwnedTupleGo target it v = pure () := by intro _; rfl) :
    codeC (model prog w) A (.compLoop (.ListComp elt [⟨target, iter, [], 0⟩] scope pos) 0 it acc env) R s := by
  refine codeC_loop rfl rfl I (fun n s hI => ?_) n h
  show wpC _ _ ((compTurn (.ListComp elt [⟨target, iter, [], 0⟩] scope pos) 0 it acc env).onRaise (fun x => do noteFrame x env; theTreesLotGoes x)) _ _ s
  refine wpC_onRaiseF ?_
  rw [compTurn_list1]
  refine wpC_step (wpAny_standAt (wpC_step (wpAny_mono (turn n s hI) (fun r s₁ h₁ => ?_) fun _ _ h' => h')))
  cases r with
  | none => exact wpC_pure h₁
  | some v =>
    refine wpC_step (wpAny_of_eq (ht v) ?_)
    refine wpC_step (wpAny_mono h₁ (fun _ s₂ h₂ => wpC_bind (wpC_bind (wpC_mono h₂ (fun x s₃ h₃ => wpC_step (wpAny_mono h₃
      (fun _ s₄ h₄ => wpC_pure (wpC_pure ⟨rfl, h₄⟩)) fun _ _ h' => h')) fun _ _ h' => h'))) fun _ _ h' => h')
theorem codeC_compStart_list {elt target iter ifs rest scope pos it acc env}
    (h0 : codeC (model prog w) A (.compLoop (.ListComp elt (⟨target, iter, ifs, 0⟩ :: rest) scope pos) 0 it acc env) R s)
    (h : wpAny (model prog w) A (pyIter it) (fun it' s' => codeC (model prog w) A (.compLoop (.ListComp elt (⟨target, iter, ifs, 0⟩ :: rest) scope pos) 0 it' acc env) R s')
      (fun _ _ => False) s) :
    codeC (model prog w) A (.compStart (.ListComp elt (⟨target, iter, ifs, 0⟩ :: rest) scope pos) 0 it acc env) R s := by
  refine codeC_of_any rfl ?_
  show wpAny _ _ ((compStart (.ListComp elt (⟨target, iter, ifs, 0⟩ :: rest) scope pos) 0 it acc env).onRaise (fun x => do noteFrame x env; standAt theWindowsPlace)) _ _ s
  refine wpAny_onRaise (wpAny_mono (Q := FinC (model prog w) A R) (E := fun _ _ => False) ?_ (fun _ _ q => q) fun _ _ f => f.elim)
  unfold compStart
  show wpAny _ _ (ask >>= _) _ _ s
  refine wpAny_bind (wpAny_askSetting (wpAny_ite ?_))
  split
  · first
      | exact wpAny_bind (wpAny_pure (wpAny_pure (And.intro rfl h0)))
      | exact wpAny_pure (And.intro rfl h0)
  · first
      | exact wpAny_bind (wpAny_rule (wpAny_bind (wpAny_standAt (wpAny_bind (wpAny_mono h (fun it' s' h' => wpAny_pure (And.intro rfl h')) fun _ _ x => x)))))
      | (refine wpAny_bind (wpAny_rule ?_); show wpAny _ _ (standAt iter.pos >>= _) _ _ s; exact wpAny_bind (wpAny_standAt (wpAny_bind (wpAny_mono h (fun it' s' h' => wpAny_pure (And.intro rfl h')) fun _ _ x => x))))
theorem wpC_comprehension {e : Expr} {scope : Scope} {pos : Pos} {newAcc first : Sem Value} {g : Comprehension} {gs : List Comprehension} {cl : List (Str × Addr)}
    {Q : Value → Shared → Prop}
    (hcl : clausesOf e = g :: gs) (hs : ∀ x, foldedSetIterable g.iter env x = pure x) (hclos : closureFor scope env = pure cl)
    (hkind : scope.kind = .function) (hnames : ∀ x ∈ scope.names, x.2 = .local → scope.names.lookup x.1 = some .local)
    (h : wpAny (model prog w) A first (fun x s₁ => wpAny (model prog w) A (pyIter x) (fun it s₂ => wpAny (model prog w) A newAcc (fun acc s₃ =>
      wpAny (model prog w) A (newFunctionEnv scope env.globals cl [] env.qual none .none (some env)) (fun cenv s₄ =>
        codeC (model prog w) A (.compStart e 0 it acc { cenv with scope := relabel scope env }) (fun r s' => r = .ok .next ∧ ∃ m, s'.heap.Ns cenv.locals m ∧ ∀ h', Heap.SameBut cenv.locals s'.heap h' → Q acc { s' with heap := h' }) s₄) E s₃) E s₂) E s₁) E s) :
    wpC (model prog w) A (comprehension e scope env pos newAcc false first none) Q E s := by
  unfold comprehension
  rw [hclos, hcl]
  refine wpC_step (wpAny_mono h (fun x s₁ h₁ => wpC_step (wpAny_standAt (wpC_step (wpAny_of_eq (hs x) (wpC_step (wpAny_holding (wpAny_mono h₁ (fun it s₂ h₂ => ?_) fun _ _ h' => h'))))))) fun _ _ h' => h')
  have key : ∀ {t : Sem Value} {p : Pos} {c : Prop} [Decidable c], wpC (model prog w) A t Q E s₂ → wpC (model prog w) A (if c then (standAt p >>= fun _ => t) else t) Q E s₂ := by
    intro t p c _ ht
    split
    · exact wpC_step (wpAny_standAt ht)
    · exact ht
  refine key (wpC_step (wpAny_mono h₂ (fun acc s₃ h₃ => wpC_step (wpAny_pure (wpC_step (wpAny_mono h₃ (fun cenv s₄ h₄ => ?_) fun _ _ h' => h')))) fun _ _ h' => h'))
  dsimp only
  have hv : ∀ x ∈ (scope.names.filter fun x => (x.2 == .local || x.2 == .cell) && x.1 != (".0" : Str)).reverse, x.2 = .local →
      Env.kindOf { cenv with scope := relabel scope env } x.1 = some .local := fun x hx hl => lookup_relabel_local (hnames x (List.mem_filter.mp (List.mem_reverse.mp hx)).1 hl)
  refine wpC_holding (wpC_bind (wpC_attempt (wpC_holding (wpC_run (codeC_mono h₄ fun r s' hr => ?_)))))
  obtain ⟨rfl, m, hn, hr⟩ := hr
  exact wpC_any (wpAny_bind (wpAny_holding (wpAny_comp_letGo (cenv := { cenv with scope := relabel scope env }) hkind _ s' m hv hn fun h' m' _ hs' => wpAny_pure (hr h' hs'))))
end
end Mine

end

section -- CompD
open PySem PySem.W PySem.Calls PyProof.Rows
set_option maxRecDepth 100000
set_option maxHeartbeats 4000000
namespace Mine
open Sem (wp)
section
variable {prog : Program} {w : World} {A : Around} {E : Value → Shared → Prop} {R : Result → Shared → Prop} {s : Shared} {env : Env}
theorem codeC_compLoop_walk {elt iter : Expr} {x : Str} {px : Pos} {scope : Scope} {pos : Pos} {I D : Addr} {fp wr : List Addr} {n : Nat} {P : Nat → Value → Prop} {St : Nat → Heap → Prop}
    {cenv : Env} {m : Str → Option Value} (W : Walks prog w A I fp wr n P St) (F : Value → Value → Prop)
    (hx : cenv.kindOf x = some .local) (hp : (cenv.scope.kind == .class || (cenv.scope.kind == .module && cenv.locals != cenv.globals)) = false)
    (hDC : D ≠ cenv.locals) (hDf : D ∉ fp) (hCf : cenv.locals ∉ fp)
    (hst : St 0 s.heap) (hacc : s.heap.PlainList D #[]) (hn : s.heap.Ns cenv.locals m)
    (helt : ∀ i v s₂ m₂, P i v → s₂.heap.Ns cenv.locals m₂ → m₂ x = some v → (∀ b o, b ≠ cenv.locals → b ∉ wr → b ≠ D → s.heap.get? b = some o → s₂.heap.get? b = some o) →
      wpC (model prog w) A (eval elt cenv) (fun y s₃ => F v y ∧ Keeps s₂ s₃) (fun _ _ => False) s₂)
    (hR : ∀ h' tk m' ys (vs : List Value), h'.Ns cenv.locals m' → h'.PlainList D ys → vs.length = n → (∀ j v, vs[j]? = some v → P j v) → Paired F vs ys.toList →
      (∀ b o, b ≠ cenv.locals → b ∉ wr → b ≠ D → s.heap.get? b = some o → h'.get? b = some o) → R (.ok .next) { s with heap := h', toks := tk })
    (hsz : n ≤ sizeLine) :
    codeC (model prog w) A (.compLoop (.ListComp elt [⟨.Name x px, iter, [], 0⟩] scope pos) 0 (.ref I) (.ref D) cenv) R s := by
  refine codeC_compLoop_list
    (fun k s' => ∃ h' tk m' ys, ∃ vs : List Value, s' = { s with heap := h', toks := tk } ∧ St vs.length h' ∧ h'.PlainList D ys ∧ h'.Ns cenv.locals m' ∧ (∀ j v, vs[j]? = some v → P j v) ∧
      Paired F vs ys.toList ∧ vs.length ≤ n ∧ k = n + 1 - vs.length ∧
      (∀ b o, b ≠ cenv.locals → b ∉ wr → b ≠ D → s.heap.get? b = some o → h'.get? b = some o)) ?_ (n + 1)
    ⟨s.heap, s.toks, m, #[], [], rfl, hst, hacc, hn, by simp, by simpa using Paired.nil, Nat.zero_le _, rfl, fun _ _ _ _ _ e => e⟩
  rintro k s' ⟨H, tk, m', ys, vs, rfl, hst', hacc', hn', hP, hF, hi, rfl, hk⟩
  have hCw : cenv.locals ∉ wr := fun h => hCf (W.sub _ h)
  have hDw : D ∉ wr := fun h => hDf (W.sub _ h)
  by_cases hlt : vs.length < n
  · refine W.item vs.length _ _ _ hlt hst' fun v h₁ tk₁ hPv hst₁ hk₁ => ?_
    refine wpAny_assign_Name (wpAny_storeName_local hx (hn'.at' fun o e => hk₁ _ o hCw e) (fun h₂ hn₂ hs₂ => ?_) hp)
    have up₂ : ∀ b o, b ≠ cenv.locals → b ∉ wr → H.get? b = some o → h₂.get? b = some o := fun b o hbC hbf e => hs₂.extBut b o hbC (hk₁ b o hbf e)
    have hst₂ : St (vs.length + 1) h₂ := W.frame _ _ _ hst₁ fun b hb o e => hs₂.extBut b o (fun h => hCf (h ▸ hb)) e
    have hacc₂ : h₂.PlainList D ys := hacc'.at fun o e => up₂ D o hDC hDw e
    have hP' : ∀ j u, (vs ++ [v])[j]? = some u → P j u := fun j u hj => by
      rcases Nat.lt_trichotomy j vs.length with h | h | h
      · exact hP j u (by rwa [List.getElem?_append_left h] at hj)
      · subst h; simp at hj; subst hj; exact hPv
      · have hnone : (vs ++ [v])[j]? = none := List.getElem?_eq_none (by rw [List.length_append, List.length_singleton]; omega)
        rw [hnone] at hj; cases hj
    refine wpC_mono (helt vs.length v _ _ hPv hn₂ (by simp) (fun b o hbC hbf hbD e => up₂ b o hbC hbf (hk b o hbC hbf hbD e))) (fun y s₄ h₄ => ?_) fun _ _ e => e
    obtain ⟨hFy, h₄, tk₄, rfl, hk₄⟩ := h₄
    have hys : ys.size ≤ sizeLine := by
      have e1 := hF.length
      have e4 : ys.toList.length = ys.size := by simp
      omega
    refine wpAny_list_append_plain (hsz := hys) (hacc₂.at fun o e => hk₄ _ o e) fun h₅ hl₅ hs₅ => ?_
    refine ⟨n + 1 - (vs.length + 1), by omega, h₅, tk₄, _, ys.push y, vs ++ [v], rfl, ?_, hl₅, (hn₂.keeps hk₄).sameBut hs₅ (Ne.symm hDC), hP', ?_, (by rw [List.length_append, List.length_singleton]; exact hlt), (by rw [List.length_append, List.length_singleton]),
      fun b o hbC hbf hbD e => hs₅.extBut b o hbD (hk₄ b o (up₂ b o hbC hbf (hk b o hbC hbf hbD e)))⟩
    · have := W.frame _ _ h₅ hst₂ fun b hb o e => hs₅.extBut b o (fun h => hDf (h ▸ hb)) (hk₄ b o e)
      simpa using this
    · simpa using Paired.snoc hF hFy
  · have hin : vs.length = n := by omega
    refine W.done _ _ _ (hin ▸ hst') fun h₁ tk₁ hk₁ => ?_
    exact hR h₁ tk₁ m' ys vs (hn'.at' fun o e => hk₁ _ o hCw e) (hacc'.at fun o e => hk₁ _ o hDw e) hin hP hF fun b o hbC hbf hbD e => hk₁ b o hbf (hk b o hbC hbf hbD e)

theorem wpC_ListComp_walk {elt iter : Expr} {x : Str} {px : Pos} {scope : Scope} {cl : List (Str × Addr)} {pos : Pos} {Q : Value → Shared → Prop} (F : Value → Value → Prop)
    (hh : A.handled = none) (hclos : closureFor scope env = pure cl) (hcell : ∀ y ∈ scope.names, y.2 ≠ .cell) (hkind : scope.kind = .function)
    (hnames : ∀ y ∈ scope.names, y.2 = .local → scope.names.lookup y.1 = some .local) (hx : scope.names.lookup x = some .local)
    (h : wpAny (model prog w) A (eval iter env) (fun xv s₁ => ∃ l items, xv = .ref l ∧ s₁.heap.IsList l items ∧ items.size ≤ sizeLine ∧
      (∀ (C : Addr) (i : Nat) (v : Value) (s₃ : Shared) (m₃ : Str → Option Value), s₁.heap.objs.size ≤ C → items[i]? = some v → s₃.heap.Ns C m₃ → m₃ x = some v → (∀ b o, s₁.heap.get? b = some o → s₃.heap.get? b = some o) →
        wpC (model prog w) A (eval elt (compEnvC scope cl C env)) (fun y s₄ => F v y ∧ Keeps s₃ s₄) (fun _ _ => False) s₃) ∧
      (∀ (D : Addr) (h' : Heap) (tk : Nat) (ys : Array Value), s₁.heap.get? D = none → h'.PlainList D ys → Paired F items.toList ys.toList → (∀ b o, s₁.heap.get? b = some o → h'.get? b = some o) → Q (.ref D) { s₁ with heap := h', toks := tk })) E s)
    (hs : ∀ x, foldedSetIterable iter env x = pure x := by intro _; rfl) :
    wpC (model prog w) A (eval (.ListComp elt [⟨.Name x px, iter, [], 0⟩] scope pos) env) Q E s := by
  rw [eval_ListComp]
  refine wpC_comprehension rfl hs hclos hkind hnames (wpAny_mono h (fun xv s₁ h₁ => ?_) fun _ _ e => e)
  obtain ⟨l, items, rfl, hl, hsz, hel, hQ⟩ := h₁
  refine wpAny_pyIter_list hl ?_
  obtain ⟨ol, hol, _⟩ := id hl
  have hlt : l < s₁.heap.objs.size := Heap.lt_size hol
  have hne : l ≠ s₁.heap.objs.size := Nat.ne_of_lt hlt
  have W := Walks.list (prog := prog) (w := w) hh s₁.heap.objs.size l hne items
  generalize hs2 : ({ s₁ with heap := s₁.heap.push _ } : Shared) = s₂
  have up : ∀ b o, s₁.heap.get? b = some o → s₂.heap.get? b = some o := fun b o e => by rw [← hs2]; exact Heap.get?_push_of_some _ e
  have hst : s₂.heap.IsListIter s₁.heap.objs.size l 0 ∧ s₂.heap.IsList l items := by
    rw [← hs2]
    exact ⟨⟨_, Heap.get?_push_size _ rfl, rfl, rfl⟩, hl.at fun o e => Heap.get?_push_of_some _ e⟩
  have hz2 : s₂.heap.objs.size = s₁.heap.objs.size + 1 := by rw [← hs2]; exact Heap.size_push ..
  have hfp : ∀ b ∈ [s₁.heap.objs.size, l], b < s₂.heap.objs.size := fun b hb => by
    simp only [List.mem_cons, List.not_mem_nil, or_false] at hb
    rw [hz2]
    rcases hb with rfl | rfl
    · exact Nat.lt_succ_self _
    · exact Nat.lt_succ_of_lt hlt
  have hQ2 : ∀ D h' tk ys, s₁.heap.get? D = none → h'.PlainList D ys → Paired F items.toList ys.toList → (∀ b o, s₁.heap.get? b = some o → h'.get? b = some o) → Q (.ref D) { s₂ with heap := h', toks := tk } := by
    rw [← hs2]; exact hQ
  clear hQ
  clear hs2
  refine wpAny_newObj_type (wpAny_newFunctionEnv hcell (by intro y hy; simp at hy) (fun h₁ hns₁ hsb₁ => ?_) hkind)
  dsimp only at hns₁ hsb₁ ⊢
  generalize hH2 : s₂.heap.push { cls := .type "list", dict := none, data := .seq ([] : List Value).toArray } = H2 at hns₁ hsb₁ ⊢
  have hC : H2.objs.size = s₂.heap.objs.size + 1 := by rw [← hH2, Heap.size_push]
  have hDC : s₂.heap.objs.size ≠ H2.objs.size := by rw [hC]; exact Nat.ne_of_lt (Nat.lt_succ_self _)
  have below : ∀ b, b < s₂.heap.objs.size → b ≠ H2.objs.size ∧ b ≠ s₂.heap.objs.size := fun b hb => ⟨by rw [hC]; exact Nat.ne_of_lt (Nat.lt_succ_of_lt hb), Nat.ne_of_lt hb⟩
  have hDf : s₂.heap.objs.size ∉ [s₁.heap.objs.size, l] := fun hm => Nat.lt_irrefl _ (hfp _ hm)
  have hCf : H2.objs.size ∉ [s₁.heap.objs.size, l] := fun hm => by have := hfp _ hm; rw [hC] at this; exact Nat.lt_irrefl _ (Nat.lt_of_succ_lt this)
  have old : ∀ b o, s₂.heap.get? b = some o → h₁.get? b = some o := fun b o e => hsb₁.extBut b o (below b (Heap.lt_size e)).1 (Heap.get?_push_of_some _ (hH2 ▸ Heap.get?_push_of_some _ e))
  have hacc : h₁.PlainList s₂.heap.objs.size #[] := ⟨_, hsb₁.extBut _ _ hDC (Heap.get?_push_of_some _ (hH2 ▸ Heap.get?_push_size _ rfl))⟩
  have hst₁ := W.frame _ _ h₁ hst fun b _ o e => old b o e
  have fresh : ∀ a, s₁.heap.objs.size ≤ a → s₁.heap.get? a = none := fun a ha => by
    cases e : s₁.heap.get? a with
    | none => rfl
    | some o' => exact absurd (Heap.lt_size e) (Nat.not_lt.mpr ha)
  have lost : ∀ {h' : Heap}, (∀ b o, b ≠ H2.objs.size → b ∉ [s₁.heap.objs.size] → b ≠ s₂.heap.objs.size → h₁.get? b = some o → h'.get? b = some o) → ∀ b o, s₁.heap.get? b = some o → h'.get? b = some o := fun hk b o e => by
    have hb := Heap.lt_size e
    have hb2 : b < s₂.heap.objs.size := by rw [hz2]; exact Nat.lt_succ_of_lt hb
    exact hk b o (below b hb2).1 (fun hm => Nat.ne_of_lt hb (List.mem_singleton.mp hm)) (below b hb2).2 (old b o (up b o e))
  have loop : ∀ s₃ : Shared, s₃ = { s₂ with heap := h₁, toks := s₂.toks + ([] : List (Str × Value)).length } →
      codeC (model prog w) A (.compLoop (.ListComp elt [⟨.Name x px, iter, [], 0⟩] scope pos) 0 (.ref s₁.heap.objs.size) (.ref s₂.heap.objs.size) (compEnvC scope cl H2.objs.size env))
        (fun r s' => r = .ok .next ∧ ∃ m, s'.heap.Ns H2.objs.size m ∧ ∀ h', Heap.SameBut H2.objs.size s'.heap h' → Q (.ref s₂.heap.objs.size) { s' with heap := h' }) s₃ := by
    rintro s₃ rfl
    refine codeC_compLoop_walk (hsz := hsz) (cenv := compEnvC scope cl H2.objs.size env) W F (lookup_relabel_local hx) (by simp [compEnvC, relabel, hkind]) hDC hDf hCf hst₁ hacc hns₁
      (fun i v s₃ m₃ hv hn hm hk => hel _ i v s₃ m₃ (by rw [hC, hz2]; exact Nat.le_succ_of_le (Nat.le_succ _)) hv hn hm (lost hk)) fun h' tk m' ys vs hn hpl hlen hP hF hk => ?_
    have hvs : vs = items.toList := by
      apply List.ext_getElem?
      intro j
      cases hj : vs[j]? with
      | some v => have := hP j v hj; simpa using this.symm
      | none =>
        have : vs.length ≤ j := List.getElem?_eq_none_iff.mp hj
        rw [List.getElem?_eq_none]
        simpa using (by omega : items.size ≤ j)
    subst hvs
    exact ⟨rfl, m', hn, fun h'' hs'' => hQ2 _ h'' tk ys (fresh _ (by rw [hz2]; exact Nat.le_succ _)) (hpl.extBut hs''.extBut hDC) hF fun b o e => hs''.extBut b o (by have := Heap.lt_size e; rw [hC, hz2]; exact Nat.ne_of_lt (Nat.lt_succ_of_lt (Nat.lt_succ_of_lt this))) (lost hk b o e)⟩
  exact codeC_compStart_list (loop _ rfl) (W.self 0 _ _ _ hst₁ (loop _ rfl))
end
end Mine

end

section -- CompE
open PySem PySem.W PySem.Calls PyProof.Rows
set_option maxRecDepth 100000
set_option maxHeartbeats 4000000
namespace Mine
open Sem (wp)
section
variable {M : Model} {A : Around} {E : Value → Shared → Prop} {s : Shared} {env : Env}
theorem wpC_MethodCall2 {o : Expr} {name : Str} {apos pos : Pos} {args : List Expr} {pl : Sem Bool} {Q : Value → Shared → Prop}
    (h : wpAny M A (eval o env) (fun ov s₁ => wpAny M A (getMethod ov name pl) (fun fx s₂ => wpC M A (callWith pos fx.1 fx.2 (backTo pos (starEach args env)) []) Q E s₂) E s₁) E s)
    (he : eval (.Call (.Attribute o name apos) args [] pos) env = (do
      let ov ← eval o env
      standAt apos.atName
      let (f, first) ← holding [ov] (getMethod ov name pl)
      callWith pos f first (backTo pos (starEach args env)) []) := by rfl) :
    wpC M A (eval (.Call (.Attribute o name apos) args [] pos) env) Q E s := by
  rw [he]
  refine wpC_step (wpAny_mono h (fun ov s₁ h₁ => wpC_step (wpAny_standAt (wpC_step (wpAny_holding (wpAny_mono h₁ (fun fx s₂ h₂ => ?_) fun _ _ x => x))))) fun _ _ x => x)
  obtain ⟨f, first⟩ := fx
  exact h₂
theorem wpC_callWith_builtin {pos : Pos} {id : String} {first : List Value} {args : List (Bool × Sem Value)} {Q : Value → Shared → Prop} (hplain : args.any (·.1) = false)
    (h : wpC M A (evalArgs (.builtin id) true args []) (fun a s₁ => wpC M A (call (.builtin id) (first ++ a.pos) a.kw) Q E s₁) E s) :
    wpC M A (callWith pos (.builtin id) first args []) Q E s := by
  unfold callWith
  refine wpC_bind (wpC_holding (wpC_mono h (fun a s₁ h₁ => wpC_step (wpAny_standAt ?_)) fun _ _ x => x))
  simp only [hplain, List.any_nil, Bool.or_false]
  refine wpC_step (wpAny_pure ?_)
  exact wpC_bind (wpC_mono h₁ (fun r s₂ hr => wpC_any (wpAny_bind (wpAny_holding (wpAny_point (wpAny_pure hr))))) fun _ _ x => x)
theorem wpC_evalArgs_plainC {f : Value} {x : Sem Value} {rest : List (Bool × Sem Value)} {Q : Args → Shared → Prop}
    (h : wpC M A (spliced ((false, x) :: rest)) (fun vs s' => Q ⟨vs, []⟩ s') E s) : wpC M A (evalArgs f true ((false, x) :: rest) []) Q E s := by
  unfold evalArgs
  show wpC M A (spliced ((false, x) :: rest) >>= _) Q E s
  refine wpC_bind (wpC_mono h (fun vs s' h' => ?_) fun _ _ x => x)
  refine wpC_holding ?_
  exact wpC_step (wpAny_pure (wpC_step (wpAny_pure (wpC_pure h'))))
/-- a method of one argument, its argument in the clean logic -/
theorem wpC_callWith_method1 {pos : Pos} {id : String} {first : List Value} {e : Expr} {Q : Value → Shared → Prop}
    (h : wpC M A (eval e env) (fun v s₁ => wpAny M A (call (.builtin id) (first ++ [v])) Q E s₁) E s)
    (he : starEach [e] env = (false, eval e env) :: starEach [] env := by rfl) :
    wpC M A (callWith pos (.builtin id) first (backTo pos (starEach [e] env)) []) Q E s := by
  have h2 : wpC M A (spliced (backTo pos (starEach [e] env))) (fun vs s₁ => wpC M A (call (.builtin id) (first ++ vs)) Q E s₁) E s :=
    wpC_items_cons (wpC_mono h (fun v s₁ h₁ => wpC_items_nil (wpC_any h₁)) fun _ _ x => x) he
  rw [he] at h2 ⊢
  exact wpC_callWith_builtin rfl (wpC_evalArgs_plainC h2)
end
section
variable {prog : Program} {w : World} {A : Around} {E : Value → Shared → Prop} {R : Result → Shared → Prop} {s : Shared} {env : Env}
theorem wpC_comp_core {elt iter : Expr} {x : Str} {px : Pos} {scope : Scope} {cl : List (Str × Addr)} {pos : Pos} {s₂ : Shared} {I : Addr} {fp wr : List Addr} {n : Nat} {P : Nat → Value → Prop}
    {St : Nat → Heap → Prop} (W : Walks prog w A I fp wr n P St) (hsz : n ≤ sizeLine) (F : Value → Value → Prop) {RR : Value → Addr → Result → Shared → Prop}
    (hcell : ∀ y ∈ scope.names, y.2 ≠ .cell) (hkind : scope.kind = .function) (hx : scope.names.lookup x = some .local) (hst : St 0 s₂.heap) (hfp : ∀ b ∈ fp, b < s₂.heap.objs.size)
    (hel : ∀ (C : Addr) (i : Nat) (v : Value) (s₃ : Shared) (m₃ : Str → Option Value), s₂.heap.objs.size ≤ C → P i v → s₃.heap.Ns C m₃ → m₃ x = some v → (∀ b o, b ∉ wr → s₂.heap.get? b = some o → s₃.heap.get? b = some o) →
      wpC (model prog w) A (eval elt (compEnvC scope cl C env)) (fun y s₄ => F v y ∧ Keeps s₃ s₄) (fun _ _ => False) s₃)
    (hRR : ∀ D C h' tk m' ys (vs : List Value), s₂.heap.get? D = none → s₂.heap.get? C = none → D ≠ C → h'.Ns C m' → h'.PlainList D ys → vs.length = n → (∀ j v, vs[j]? = some v → P j v) → Paired F vs ys.toList →
      (∀ b o, b ∉ wr → s₂.heap.get? b = some o → h'.get? b = some o) → RR (.ref D) C (.ok .next) { s₂ with heap := h', toks := tk }) :
    wpAny (model prog w) A (newList []) (fun acc s₃ => wpAny (model prog w) A (newFunctionEnv scope env.globals cl [] env.qual none .none (some env)) (fun cenv s₄ =>
      codeC (model prog w) A (.compStart (.ListComp elt [⟨.Name x px, iter, [], 0⟩] scope pos) 0 (.ref I) acc { cenv with scope := relabel scope env }) (RR acc cenv.locals) s₄) E s₃) E s₂ := by
  refine wpAny_newObj_type (wpAny_newFunctionEnv hcell (by intro y hy; simp at hy) (fun h₁ hns₁ hsb₁ => ?_) hkind)
  dsimp only at hns₁ hsb₁ ⊢
  generalize hH2 : s₂.heap.push { cls := .type "list", dict := none, data := .seq ([] : List Value).toArray } = H2 at hns₁ hsb₁ ⊢
  have hC : H2.objs.size = s₂.heap.objs.size + 1 := by rw [← hH2, Heap.size_push]
  have hDC : s₂.heap.objs.size ≠ H2.objs.size := by rw [hC]; exact Nat.ne_of_lt (Nat.lt_succ_self _)
  have hCle : s₂.heap.objs.size ≤ H2.objs.size := by rw [hC]; exact Nat.le_succ _
  have below : ∀ b, b < s₂.heap.objs.size → b ≠ H2.objs.size ∧ b ≠ s₂.heap.objs.size := fun b hb => ⟨by rw [hC]; exact Nat.ne_of_lt (Nat.lt_succ_of_lt hb), Nat.ne_of_lt hb⟩
  have hDf : s₂.heap.objs.size ∉ fp := fun hm => Nat.lt_irrefl _ (hfp _ hm)
  have hCf : H2.objs.size ∉ fp := fun hm => by have := hfp _ hm; rw [hC] at this; exact Nat.lt_irrefl _ (Nat.lt_of_succ_lt this)
  have old : ∀ b o, s₂.heap.get? b = some o → h₁.get? b = some o := fun b o e => hsb₁.extBut b o (below b (Heap.lt_size e)).1 (Heap.get?_push_of_some _ (hH2 ▸ Heap.get?_push_of_some _ e))
  have hacc : h₁.PlainList s₂.heap.objs.size #[] := ⟨_, hsb₁.extBut _ _ hDC (Heap.get?_push_of_some _ (hH2 ▸ Heap.get?_push_size _ rfl))⟩
  have hst₁ : St 0 h₁ := W.frame _ _ _ hst fun b _ o e => old b o e
  have fresh : ∀ a, s₂.heap.objs.size ≤ a → s₂.heap.get? a = none := fun a ha => by
    cases e : s₂.heap.get? a with
    | none => rfl
    | some o' => exact absurd (Heap.lt_size e) (Nat.not_lt.mpr ha)
  have loop : ∀ s₃ : Shared, s₃ = { s₂ with heap := h₁, toks := s₂.toks + ([] : List (Str × Value)).length } →
      codeC (model prog w) A (.compLoop (.ListComp elt [⟨.Name x px, iter, [], 0⟩] scope pos) 0 (.ref I) (.ref s₂.heap.objs.size) (compEnvC scope cl H2.objs.size env))
        (RR (.ref s₂.heap.objs.size) H2.objs.size) s₃ := by
    rintro s₃ rfl
    refine codeC_compLoop_walk (hsz := hsz) (cenv := compEnvC scope cl H2.objs.size env) W F (lookup_relabel_local hx) (by simp [compEnvC, relabel, hkind]) hDC hDf hCf hst₁ hacc hns₁
      (fun i v s₃ m₃ hv hn hm hk => hel _ i v s₃ m₃ hCle hv hn hm (fun b o hbf e => hk b o (below b (Heap.lt_size e)).1 hbf (below b (Heap.lt_size e)).2 (old b o e))) fun h' tk m' ys vs hn hpl hlen hP hF hk => ?_
    exact hRR _ _ h' tk m' ys vs (fresh _ (Nat.le_refl _)) (fresh _ hCle) hDC hn hpl hlen hP hF fun b o hbf e =>
      hk b o (below b (Heap.lt_size e)).1 hbf (below b (Heap.lt_size e)).2 (old b o e)
  exact codeC_compStart_list (loop _ rfl) (W.self 0 _ _ _ hst₁ (loop _ rfl))
theorem wpC_ListComp_gen {elt iter : Expr} {x : Str} {px : Pos} {scope : Scope} {cl : List (Str × Addr)} {pos : Pos} {Q : Value → Shared → Prop} (F : Value → Value → Prop)
    (hclos : closureFor scope env = pure cl) (hcell : ∀ y ∈ scope.names, y.2 ≠ .cell) (hkind : scope.kind = .function)
    (hnames : ∀ y ∈ scope.names, y.2 = .local → scope.names.lookup y.1 = some .local) (hx : scope.names.lookup x = some .local)
    (h : wpAny (model prog w) A (eval iter env) (fun xv s₁ => wpAny (model prog w) A (pyIter xv) (fun it s₂ => ∃ (I : Addr) (fp wr : List Addr) (n : Nat) (P : Nat → Value → Prop) (St : Nat → Heap → Prop), it = .ref I ∧ Walks prog w A I fp wr n P St ∧ n ≤ sizeLine ∧ St 0 s₂.heap ∧ (∀ b ∈ fp, b < s₂.heap.objs.size) ∧
      (∀ (C : Addr) (i : Nat) (v : Value) (s₃ : Shared) (m₃ : Str → Option Value), s₂.heap.objs.size ≤ C → P i v → s₃.heap.Ns C m₃ → m₃ x = some v → (∀ b o, b ∉ wr → s₂.heap.get? b = some o → s₃.heap.get? b = some o) →
        wpC (model prog w) A (eval elt (compEnvC scope cl C env)) (fun y s₄ => F v y ∧ Keeps s₃ s₄) (fun _ _ => False) s₃) ∧
      (∀ (D : Addr) (h' : Heap) (tk : Nat) (ys : Array Value) (vs : List Value), s₂.heap.get? D = none → h'.PlainList D ys → vs.length = n → (∀ j v, vs[j]? = some v → P j v) → Paired F vs ys.toList →
        (∀ b o, b ∉ wr → s₂.heap.get? b = some o → h'.get? b = some o) → Q (.ref D) { s₂ with heap := h', toks := tk })) E s₁) E s)
    (hs : ∀ x, foldedSetIterable iter env x = pure x := by intro _; rfl) :
    wpC (model prog w) A (eval (.ListComp elt [⟨.Name x px, iter, [], 0⟩] scope pos) env) Q E s := by
  rw [eval_ListComp]
  refine wpC_comprehension rfl hs hclos hkind hnames (wpAny_mono h (fun xv s₁ h₁ => wpAny_mono h₁ (fun it s₂ h₂ => ?_) fun _ _ e => e) fun _ _ e => e)
  obtain ⟨I, fp, wr, n, P, St, rfl, W, hsz, hst, hfp, hel, hQ⟩ := h₂
  refine wpC_comp_core (RR := fun acc C r s' => r = .ok .next ∧ ∃ m, s'.heap.Ns C m ∧ ∀ h', Heap.SameBut C s'.heap h' → Q acc { s' with heap := h' }) W hsz F hcell hkind hx hst hfp hel ?_
  intro D C h' tk m' ys vs hD hC hDC hn hpl hlen hP hF hk
  exact ⟨rfl, m', hn, fun h'' hs'' => hQ D h'' tk ys vs hD (hpl.extBut hs''.extBut hDC) hlen hP hF fun b o hbf e => hs''.extBut b o (by rintro rfl; rw [hC] at e; cases e) (hk b o hbf e)⟩
theorem wpC_comprehension_use {e : Expr} {scope : Scope} {pos : Pos} {newAcc first : Sem Value} {g : Comprehension} {gs : List Comprehension} {cl : List (Str × Addr)} {u : Value → Sem Unit}
    {Q : Value → Shared → Prop}
    (hcl : clausesOf e = g :: gs) (hs : ∀ x, foldedSetIterable g.iter env x = pure x) (hclos : closureFor scope env = pure cl)
    (hkind : scope.kind = .function) (hnames : ∀ x ∈ scope.names, x.2 = .local → scope.names.lookup x.1 = some .local)
    (h : wpAny (model prog w) A first (fun x s₁ => wpAny (model prog w) A (pyIter x) (fun it s₂ => wpAny (model prog w) A newAcc (fun acc s₃ =>
      wpAny (model prog w) A (newFunctionEnv scope env.globals cl [] env.qual none .none (some env)) (fun cenv s₄ =>
        codeC (model prog w) A (.compStart e 0 it acc { cenv with scope := relabel scope env }) (fun r s' => r = .ok .next ∧ wpAny (model prog w) A (u acc) (fun _ s'' => ∃ m, s''.heap.Ns cenv.locals m ∧ ∀ h', Heap.SameBut cenv.locals s''.heap h' → Q .none { s'' with heap := h' }) E s') s₄) E s₃) E s₂) E s₁) E s) :
    wpC (model prog w) A (comprehension e scope env pos newAcc false first (some u)) Q E s := by
  unfold comprehension
  rw [hclos, hcl]
  refine wpC_step (wpAny_mono h (fun x s₁ h₁ => wpC_step (wpAny_standAt (wpC_step (wpAny_of_eq (hs x) (wpC_step (wpAny_holding (wpAny_mono h₁ (fun it s₂ h₂ => ?_) fun _ _ h' => h'))))))) fun _ _ h' => h')
  have key : ∀ {t : Sem Value} {p : Pos} {c : Prop} [Decidable c], wpC (model prog w) A t Q E s₂ → wpC (model prog w) A (if c then (standAt p >>= fun _ => t) else t) Q E s₂ := by
    intro t p c _ ht
    split
    · exact wpC_step (wpAny_standAt ht)
    · exact ht
  refine key (wpC_step (wpAny_mono h₂ (fun acc s₃ h₃ => wpC_step (wpAny_pure (wpC_step (wpAny_mono h₃ (fun cenv s₄ h₄ => ?_) fun _ _ h' => h')))) fun _ _ h' => h'))
  dsimp only
  have hv : ∀ x ∈ (scope.names.filter fun x => (x.2 == .local || x.2 == .cell) && x.1 != (".0" : Str)).reverse, x.2 = .local →
      Env.kindOf { cenv with scope := relabel scope env } x.1 = some .local := fun x hx hl => lookup_relabel_local (hnames x (List.mem_filter.mp (List.mem_reverse.mp hx)).1 hl)
  have hv' : ∀ x ∈ (scope.names.filter fun x => (x.2 == .local || x.2 == .cell) && x.1 != (".0" : Str)).reverse.drop 1 ++ (scope.names.filter fun x => (x.2 == .local || x.2 == .cell) && x.1 != (".0" : Str)).reverse.take 1,
      x.2 = .local → Env.kindOf { cenv with scope := relabel scope env } x.1 = some .local := fun x hx hl => by
    rcases List.mem_append.mp hx with h1 | h1
    · exact hv x (List.mem_of_mem_drop h1) hl
    · exact hv x (List.mem_of_mem_take h1) hl
  refine wpC_holding (wpC_bind (wpC_attempt (wpC_holding (wpC_run (codeC_mono h₄ fun r s' hr => ?_)))))
  obtain ⟨rfl, hr⟩ := hr
  refine wpC_any (wpAny_bind (wpAny_rule (wpAny_bind (wpAny_holding (wpAny_mono hr (fun _ s'' hr' => ?_) fun _ _ h' => h')))))
  obtain ⟨m, hn, hr'⟩ := hr'
  exact wpAny_bind (wpAny_comp_letGo (cenv := { cenv with scope := relabel scope env }) hkind _ s'' m hv' hn fun h' m' _ hs' => wpAny_pure (hr' h' hs'))
theorem wpC_Assign_ListComp {s : Shared} {elt iter : Expr} {x y : Str} {px py : Pos} {scope : Scope} {cl : List (Str × Addr)} {pos spos : Pos} {Q : Flow → Shared → Prop} (F : Value → Value → Prop)
    (hsw : swapsWith (.ListComp elt [⟨.Name x px, iter, [], 0⟩] scope pos) (some (.Name y py)) spos.line env = pure true)
    (hclos : closureFor scope env = pure cl) (hcell : ∀ z ∈ scope.names, z.2 ≠ .cell) (hkind : scope.kind = .function)
    (hnames : ∀ z ∈ scope.names, z.2 = .local → scope.names.lookup z.1 = some .local) (hx : scope.names.lookup x = some .local)
    (hy : env.kindOf y = some .local) (hp : (env.scope.kind == .class || (env.scope.kind == .module && env.locals != env.globals)) = false)
    (h : wpAny (model prog w) A (eval iter env) (fun xv s₁ => wpAny (model prog w) A (pyIter xv) (fun it s₂ => ∃ (I : Addr) (fp wr : List Addr) (n : Nat) (P : Nat → Value → Prop) (St : Nat → Heap → Prop) (m : Str → Option Value), it = .ref I ∧ Walks prog w A I fp wr n P St ∧ n ≤ sizeLine ∧ St 0 s₂.heap ∧ (∀ b ∈ fp, b < s₂.heap.objs.size) ∧
      env.locals ∉ wr ∧ s₂.heap.Ns env.locals m ∧
      (∀ (C : Addr) (i : Nat) (v : Value) (s₃ : Shared) (m₃ : Str → Option Value), s₂.heap.objs.size ≤ C → P i v → s₃.heap.Ns C m₃ → m₃ x = some v → (∀ b o, b ∉ wr → s₂.heap.get? b = some o → s₃.heap.get? b = some o) →
        wpC (model prog w) A (eval elt (compEnvC scope cl C env)) (fun y s₄ => F v y ∧ Keeps s₃ s₄) (fun _ _ => False) s₃) ∧
      (∀ (D : Addr) (h' : Heap) (tk : Nat) (ys : Array Value) (vs : List Value), s₂.heap.get? D = none → h'.PlainList D ys → vs.length = n → (∀ j v, vs[j]? = some v → P j v) → Paired F vs ys.toList →
        h'.Ns env.locals (fun z => if z = y then some (.ref D) else m z) → (∀ b o, b ≠ env.locals → b ∉ wr → s₂.heap.get? b = some o → h'.get? b = some o) → Q .next { s₂ with heap := h', toks := tk })) E s₁) E s)
    (hs : ∀ x, foldedSetIterable iter env x = pure x := by intro _; rfl) :
    wpC (model prog w) A (exec (.Assign [.Name y py] (.ListComp elt [⟨.Name x px, iter, [], 0⟩] scope pos) spos) env) Q E s := by
  rw [exec_Assign_Name_used _ _ _ _ hsw]
  refine wpC_step (wpAny_standAt (wpC_bind ?_))
  show wpC _ A (do let _ ← comprehension (.ListComp elt [⟨.Name x px, iter, [], 0⟩] scope pos) scope env _ (newList []) false (eval iter env) (some (assign (.Name y py) env))) _ _ s
  refine wpC_bind (wpC_mono (wpC_comprehension_use (u := assign (.Name y py) env) (Q := fun _ s' => Q .next s') rfl hs hclos hkind hnames
    (wpAny_mono h (fun xv s₁ h₁ => wpAny_mono h₁ (fun it s₂ h₂ => ?_) fun _ _ e => e) fun _ _ e => e)) (fun _ s' hq => wpC_pure (wpC_pure hq)) fun _ _ e => e)
  obtain ⟨I, fp, wr, n, P, St, m, rfl, W, hsz, hst, hfp, hLf, hn, hel, hQ⟩ := h₂
  refine wpC_comp_core (RR := fun acc C r s' => r = .ok .next ∧ wpAny (model prog w) A (assign (.Name y py) env acc) (fun _ s'' => ∃ m, s''.heap.Ns C m ∧ ∀ h', Heap.SameBut C s''.heap h' → Q .next { s'' with heap := h' }) E s') W hsz F hcell hkind hx hst hfp hel ?_
  intro D C h' tk m' ys vs hD hC hDC hnC hplD hlen hP hF hk
  have hLC : env.locals ≠ C := by rintro rfl; obtain ⟨o, _, _, ho, _⟩ := hn; rw [hC] at ho; cases ho
  have hLD : env.locals ≠ D := by rintro rfl; obtain ⟨o, _, _, ho, _⟩ := hn; rw [hD] at ho; cases ho
  refine ⟨rfl, ?_⟩
  refine wpAny_assign_Name (wpAny_storeName_local hy (hn.at' fun o e => hk _ o hLf e) (fun h₂ hn₂ hs₂ => ?_) hp)
  refine ⟨m', hnC.sameBut hs₂ (Ne.symm hLC), fun h₃ hs₃ => ?_⟩
  refine hQ D h₃ _ ys vs hD ((hplD.extBut hs₂.extBut (Ne.symm hLD)).extBut hs₃.extBut hDC) hlen hP hF (hn₂.sameBut hs₃ hLC) fun b o hbL hbf e => ?_
  exact hs₃.extBut b o (by rintro rfl; rw [hC] at e; cases e) (hs₂.extBut b o hbL (hk b o hbf e))
end
end Mine

end

section -- By
open PySem PySem.W PySem.Calls PyProof.Rows Builtin
set_option maxRecDepth 100000
set_option maxHeartbeats 4000000
namespace Mine
theorem ba_slot_setitem : Slot "bytearray" "__setitem__" "bytearray.__setitem__" :=
  .of (owner := "bytearray") (n := "__setitem__") (by rw [typeLookup_type, builtinLookup_eq_fast]; kernel_rfl) (by decide +kernel) (by decide +kernel) (by decide +kernel)
    (by first | exact .inl (by decide +kernel) | exact .inr (by decide +kernel)) (by rw [isSubtype_type]; kernel_rfl)
theorem ba_entry_setitem : entryFor table "bytearray.__setitem__" = some Builtin.«bytearray.__setitem__» := by first | exact entryFor_of_fast (by kernel_rfl) | exact entryFor_of_tree (by kernel_rfl)
theorem ba_args_setitem (a b c : Value) : argsOk "bytearray.__setitem__" ⟨[a, b, c], []⟩ := by unfold argsOk; kernel_rfl
theorem ba_no_bytes : typeLookup (.type "bytearray") "__bytes__" = pure none := by rw [typeLookup_type, builtinLookup_eq_fast]; kernel_rfl
theorem ba_no_index : typeLookup (.type "bytearray") "__index__" = pure none := by rw [typeLookup_type, builtinLookup_eq_fast]; kernel_rfl
theorem ba_look_buffer : typeLookup (.type "bytearray") "__buffer__" = pure (some (.builtin "bytearray.__buffer__")) := by rw [typeLookup_type, builtinLookup_eq_fast]; kernel_rfl
section
variable {prog : Program} {w : World} {A : Around} {E : Value → Shared → Prop} {s : Shared}
def baOf (b : Array UInt8) : Obj := { cls := .type "bytearray", data := .bytearray b }
theorem subscript_int {M : Model} {k : Int} {u : Tok} {Q : Option Int → Shared → Prop} (hf : Builtin.Bytes.fitsIndex k = true) (h : Q (some k) s) : wpAny M A (Builtin.Bytes.subscript? (.int k u)) Q E s := by
  unfold Builtin.Bytes.subscript?
  refine wpAny_bind (wpAny_specialOf (T := "int") (typeIs_int _ _ _) int_index ?_)
  refine bm_if_false rfl ?_
  refine wpAny_bind (wpAny_of_eq (rfl : asIndex (.int k u) = pure k) ?_)
  refine bm_if_false (by rw [hf]; rfl) ?_
  exact wpAny_pure h
theorem byteValue_int {M : Model} {k : Int} {u : Tok} {Q : UInt8 → Shared → Prop} (h0 : 0 ≤ k) (h1 : k < 256) (h : Q k.toNat.toUInt8 s) : wpAny M A (Builtin.Bytes.byteValue (.int k u)) Q E s := by
  unfold Builtin.Bytes.byteValue
  refine wpAny_bind (wpAny_of_eq (rfl : asIndex (.int k u) = pure k) ?_)
  refine bm_if_false (by simp only [Bool.or_eq_false_iff, decide_eq_false_iff_not]; omega) ?_
  exact wpAny_pure h
theorem ba_setItem {D : Addr} {b : Array UInt8} {k x : Int} {u t : Tok} {Q : Unit → Shared → Prop} (ho : s.heap.get? D = some (baOf b)) (h0 : 0 ≤ k) (hk : k < b.size) (hf : Builtin.Bytes.fitsIndex k = true) (hx0 : 0 ≤ x) (hx1 : x < 256) (hz : b.size ≤ sizeLine)
    (hQ : Q () { s with heap := s.heap.update D (Obj.mapBytearray (·.setIfInBounds k.toNat x.toNat.toUInt8)) }) :
    wpAny (model prog w) A (setItem (.ref D) (.int k u) (.int x t)) Q E s := by
  have hT : s.TypeIs (.ref D) "bytearray" := ⟨_, ho, rfl⟩
  unfold setItem
  try with_reducible refine wpAny_holding ?_
  first | refine wpAny_bind (wpAny_pure ?_) | skip
  refine wpAny_bind (wpAny_sequenceKey hT (by decide) ?_)
  refine wpAny_bind (wpAny_callSpecial?_slot (name := Str.ofString "__setitem__") hT ba_slot_setitem
    (wpAny_call_entry ba_slot_setitem hT ba_entry_setitem ?_ (ba_args_setitem _ _ _)))
  show wpAny _ _ (Builtin.Bytes.subscript? (.int k u) >>= _) _ _ s
  refine wpAny_bind (subscript_int hf ?_)
  refine wpAny_bind (byteValue_int hx0 hx1 ?_)
  refine wpAny_bind (wpAny_payload_ba ho rfl ?_)
  have hi : seqIndex? k b.size = some k.toNat := by
    unfold seqIndex?
    simp only [if_neg (show ¬ k < 0 by omega)]
    rw [if_pos (by simp only [Bool.and_eq_true, decide_eq_true_eq]; omega)]
  rw [hi]
  try dsimp only
  refine wpAny_bind (wpAny_write_ba (o := baOf b) (b := b) ho rfl (by simpa using hz) ?_)
  exact wpAny_pure ⟨_, rfl, wpAny_pure hQ⟩
theorem ba_ends_buffer : ("bytearray.__buffer__" : String).endsWith ("." ++ "__buffer__") = true := by decide +kernel
theorem ba_drop_buffer : ("bytearray.__buffer__" : String).dropRight (("__buffer__" : String).length + 1) = "bytearray" := by decide +kernel
theorem wpAny_ownBuffer_ba {M : Model} {v : Value} {Q : Bool → Shared → Prop} (hT : s.TypeIs v "bytearray") (h : Q true s) : wpAny M A (Builtin.Bytes.slotIsOwn v "__buffer__") Q E s := by
  unfold Builtin.Bytes.slotIsOwn
  refine wpAny_bind (wpAny_specialOf hT ba_look_buffer ?_)
  show wpAny M A (if (!("bytearray.__buffer__" : String).endsWith ("." ++ "__buffer__")) = true then _ else _) _ _ _
  rw [ba_ends_buffer]
  refine bm_if_false rfl ?_
  rw [ba_drop_buffer]
  exact wpAny_isInstance hT sub_ba_self h
theorem wpAny_buffer_ba {M : Model} {id : String} {full : Bool} {D : Addr} {b : Array UInt8} {Q : Option (Array UInt8) → Shared → Prop} (ho : s.heap.get? D = some (baOf b)) (h : Q (some b) s) :
    wpAny M A (Builtin.Bytes.buffer? id (.ref D) full) Q E s := by
  have hT : s.TypeIs (.ref D) "bytearray" := ⟨_, ho, rfl⟩
  unfold Builtin.Bytes.buffer?
  refine wpAny_bind (wpAny_specialOf hT ba_look_buffer ?_)
  try dsimp only
  refine wpAny_bind (wpAny_ownBuffer_ba hT ?_)
  refine bm_if_false rfl ?_
  refine wpAny_bind (wpAny_specialOf hT ba_look_buffer ?_)
  try dsimp only
  refine wpAny_bind (wpAny_ownRelease_ba hT ?_)
  refine bm_if_false rfl ?_
  refine wpAny_bind (wpAny_payload_ba ho rfl ?_)
  exact wpAny_pure h
theorem ba_new_bytes {D : Addr} {b : Array UInt8} {Q : Value → Shared → Prop} (ho : s.heap.get? D = some (baOf b)) (hz : b.size ≤ sizeLine)
    (hQ : ∀ t k, Q (.bytes b t) { s with toks := k }) :
    codeAny (model prog w) A (.call (.builtin "bytes.__new__") ⟨[.type "bytes", .ref D], []⟩) (wants Q E) s := by
  refine codeAny_of_tree ?_
  show wpAny _ A.in1 (do checkBuiltinCall "bytes.__new__" ⟨[.type "bytes", .ref D], []⟩; again (.builtin "bytes.__new__" ⟨[.type "bytes", .ref D], []⟩)) _ _ s
  refine wpAny_bind (wpAny_of_eq (F.bm_newCall _) (wpAny_pure ⟨plainId_quiet F.bm_plain _, codeAny_builtin F.bm_entry ?_⟩))
  rw [Around.under_plainId F.bm_plain _]
  have hT : s.TypeIs (.ref D) "bytearray" := ⟨_, ho, rfl⟩
  unfold Builtin.«bytes.__new__»
  refine wpAny_bind (wpAny_of_eq (a := true) rfl ?_)
  refine bm_if_false rfl ?_
  refine wpAny_bind (wpAny_of_eq F.bm_sub ?_)
  refine bm_if_false rfl ?_
  refine wpAny_bind (wpAny_of_eq (F.bm_bind _) ?_)
  refine wpAny_bind (wpAny_of_eq (a := ()) rfl ?_)
  refine wpAny_bind (wpAny_of_eq (a := ()) rfl ?_)
  refine bm_if_false rfl ?_
  refine wpAny_bind (wpAny_specialOf hT ba_no_bytes ?_)
  refine wpAny_bind (wpAny_bind ?_)
  show wpAny _ _ (load D >>= _) _ _ _
  refine wpAny_bind (wpAny_load ho ?_)
  refine wpAny_pure (wpAny_pure ?_)
  refine bm_if_false rfl ?_
  refine wpAny_bind (wpAny_specialOf hT ba_no_index ?_)
  refine bm_if_true rfl ?_
  first
    | show wpAny _ _ (Builtin.Bytes.buffer? "bytes.__new__" (.ref D) true >>= _) _ _ _
    | (refine wpAny_bind ?_; show wpAny _ _ (Builtin.Bytes.buffer? "bytes.__new__" (.ref D) true >>= _) _ _ _)
  refine wpAny_bind (wpAny_buffer_ba ho ?_)
  show wpAny _ _ (rule "bytes.__new__.bytes-like" >>= fun _ => mkBytes b >>= fun v => _) _ _ s
  refine wpAny_bind (wpAny_rule (wpAny_bind (wpAny_mkBytes ?_ hz)))
  show wpAny _ _ (if (Value.type "bytes" == Value.type "bytes") = true then _ else _) _ _ _
  refine bm_if_true (by decide) ?_
  first
    | exact wpAny_pure (hQ _ _)
    | exact wpAny_bind (wpAny_pure (wpAny_pure (hQ _ _)))
theorem ba_to_bytes {D : Addr} {b : Array UInt8} {Q : Value → Shared → Prop} (ho : s.heap.get? D = some (baOf b)) (hz : b.size ≤ sizeLine)
    (hQ : ∀ t k, Q (.bytes b t) { s with toks := k }) :
    wpAny (model prog w) A (call (.type "bytes") [.ref D]) Q E s := by
  refine callType_codes (Q₁ := fun obj s₁ => s₁.TypeIs obj "bytes" ∧ Q obj s₁) F.bm_called (F.bm_typeCall _) F.entry_object_init
    (ba_new_bytes ho hz fun t k => ⟨PySem.W.typeIs_bytes _ _ _, hQ t k⟩) fun obj s₁ h₁ => ?_
  exact ⟨h₁.1, F.args_object_init_2 obj _, object_init_meets F.bm_called.init.lookup F.bm_called.made (by decide) prog w A.in1 _ s₁ ⟨h₁.1, rfl, h₁.2⟩⟩
end
end Mine

end

section -- By2
open PySem PySem.W PySem.Calls PyProof.Rows Builtin
set_option maxRecDepth 100000
set_option maxHeartbeats 4000000
namespace Mine
def octs (x : PySem.Str) : Array UInt8 := x.cps.map Nat.toUInt8
def textOf (b : Array UInt8) : PySem.Str := ⟨b.map (·.toNat)⟩
theorem enc_fold (l : List Nat) : ∀ acc : Array UInt8, l.foldl (fun acc y => acc ++ (_codecs.asciiCodec.bytesOf y).toArray) acc = acc ++ (l.map Nat.toUInt8).toArray := by
  induction l with
  | nil => intro acc; simp
  | cons c l ih =>
    intro acc
    rw [List.foldl_cons, ih]
    show acc ++ [c.toUInt8].toArray ++ _ = _
    simp
theorem enc_find (x : PySem.Str) (hx : ∀ c ∈ x.cps, c < 128) : (x.cps.findIdx? _codecs.asciiCodec.bad) = none := by
  rw [Array.findIdx?_eq_none_iff]
  intro c hc
  have := hx c hc
  show decide (c ≥ 128) = false
  simp; omega
theorem loop2 {σ : Type} {N n : Nat} {st st' : σ} {f : Nat → σ → Sem (ForInStep σ)} (hN : N = n + 1) (h1 : ∀ k, f k st = pure (.yield st')) (h2 : ∀ k, f k st' = pure (.done st')) :
    forIn [:N] st f = pure st' := by
  subst hN
  rw [Std.Legacy.Range.forIn_eq_forIn_range']
  show forIn (List.range' 0 ((n + 1 - 0 + 1 - 1) / 1) 1) st f = pure st'
  have e : (n + 1 - 0 + 1 - 1) / 1 = n + 1 := by simp
  rw [e, List.range'_succ, List.forIn_cons, h1, pure_bind]
  show forIn (List.range' (0 + 1) n 1) st' f = pure st'
  cases n with
  | zero => rfl
  | succ n => rw [List.range'_succ, List.forIn_cons, h2, pure_bind]
theorem loop0 {σ : Type} {N : Nat} {st : σ} {f : Nat → σ → Sem (ForInStep σ)} (hN : N = 0) : forIn [:N] st f = pure st := by
  subst hN
  rw [Std.Legacy.Range.forIn_eq_forIn_range']
  rfl
theorem encodeNarrow_ascii {id : String} {self : Value} {x : PySem.Str} (hx : ∀ c ∈ x.cps, c < 128) (hz : x.length ≤ sizeLine) : _codecs.encodeNarrow id _codecs.asciiCodec none self x = pure (octs x) := by
  unfold _codecs.encodeNarrow
  cases hn : x.length with
  | zero =>
    have hx0 : octs x = #[] := by
      unfold octs
      apply Array.eq_empty_of_size_eq_zero
      rw [Array.size_map]; exact hn
    rw [hx0]
    dsimp only
    rw [loop0 rfl]
    rfl
  | succ n =>
    dsimp only
    rw [loop2 (st' := (x.length, octs x, ({} : _codecs.Faults))) rfl (fun k => ?_) (fun k => ?_)]
    · rfl
    · dsimp only
      rw [if_neg (by simp)]
      have h0 : x.cps[0]? = some (x.cps[0]'(by show 0 < x.length; omega)) := by simp
      rw [h0]
      dsimp only
      have hb : _codecs.asciiCodec.bad (x.cps[0]'(by show 0 < x.length; omega)) = false := by
        show decide (_ ≥ 128) = false
        have := hx _ (Array.getElem_mem (i := 0) (by show 0 < x.length; omega))
        simp; omega
      rw [hb]
      have he2 : x.cps.extract 0 x.cps.size = x.cps := by simp
      rw [if_pos (show (!false) = true from rfl), he2, enc_find x hx]
      show pure (ForInStep.yield (0 + x.cps.size, Array.foldl _ #[] (x.cps.extract 0 x.cps.size), _)) = _
      rw [he2, ← Array.foldl_toList, enc_fold]
      have : #[] ++ (List.map Nat.toUInt8 x.cps.toList).toArray = octs x := by
        apply Array.toList_inj.mp
        simp [octs]
      rw [this, Nat.zero_add]
      rfl
    · dsimp only
      rw [if_neg (by simp only [octs, Array.size_map]; exact Nat.not_lt.mpr hz)]
      have h0 : x.cps[x.length]? = none := by simp [PySem.Str.length]
      rw [h0]

theorem dec_loop {b : Array UInt8} {f : Nat → Nat × Array Nat × _codecs.Faults → Sem (ForInStep (Nat × Array Nat × _codecs.Faults))} {st : _codecs.Faults}
    (hf : ∀ k p out, p < b.size → out.size = p → f k (p, out, st) = pure (.yield (p + 1, out ++ #[(b.getD p 0).toNat], st))) :
    ∀ n a p (out : Array Nat), p + n = b.size → out.size = p → forIn (List.range' a n 1) (p, out, st) f = (pure (b.size, out ++ (((b.toList.drop p).map (·.toNat)).toArray), st) : Sem (Nat × Array Nat × _codecs.Faults))
  | 0, a, p, out, h, _ => by
    have e : b.toList.drop p = [] := List.drop_eq_nil_of_le (by rw [Array.length_toList]; omega)
    rw [e, ← h]
    simp
  | n + 1, a, p, out, h, ho => by
    rw [List.range'_succ, List.forIn_cons, hf a p out (by omega) ho, pure_bind]
    show forIn _ _ _ = _
    rw [dec_loop hf n (a + 1) (p + 1) _ (by omega) (by simp [ho])]
    have hp : p < b.toList.length := by rw [Array.length_toList]; omega
    have e : b.toList.drop p = b.getD p 0 :: b.toList.drop (p + 1) := by
      rw [List.drop_eq_getElem_cons hp]
      congr 1
      have : p < b.size := by omega
      simp [Array.getD, this]
    rw [e]
    simp
theorem runDecoder_ascii {id : String} {b : Array UInt8} (hb : ∀ p, p < b.size → (b.getD p 0).toNat < 128) (hz : b.size ≤ sizeLine) :
    _codecs.runDecoder id _codecs.asciiDecoder none true b 0 [] = pure ((textOf b).cps, b.size) := by
  unfold _codecs.runDecoder
  dsimp only
  rw [Std.Legacy.Range.forIn_eq_forIn_range']
  have e : ([:b.size] : Std.Legacy.Range).size = b.size := by simp [Std.Legacy.Range.size]
  rw [e]
  rw [dec_loop (b := b) (fun k p out hp ho => ?_) b.size 0 0 #[] (by simp) rfl]
  · rw [pure_bind]
    have e2 : (#[] ++ (List.map (fun x : UInt8 => x.toNat) (b.toList.drop 0)).toArray) = (textOf b).cps := by
      apply Array.toList_inj.mp
      simp [textOf]
    rw [← e2]
  · dsimp only
    rw [if_neg (by rw [ho]; omega), if_neg (by omega)]
    have h1 := hb p hp
    have h2 : _codecs.asciiDecoder.find true b p = .text [(b.getD p 0).toNat] (p + 1) := by
      show (if (b.getD p 0).toNat < 128 then _ else _) = _
      rw [if_pos h1]
      rfl
    rw [h2]

theorem enc_road {id : String} {self : Value} {x : PySem.Str} : _codecs.encodeRoad id self x (PySem.Str.ofString "ascii") none = (_codecs.encodeNarrow id _codecs.asciiCodec none self x >>= fun b => mkBytes b) := by kernel_rfl
theorem dec_road {id : String} {b : Array UInt8} : _codecs.decodeRoad id b (PySem.Str.ofString "ascii") none [] = (_codecs.runDecoder id _codecs.asciiDecoder none true b 0 [] >>= fun r => mkStr ⟨r.1⟩) := by kernel_rfl
theorem enc_entry {x : PySem.Str} {t u : Tok} : «str.encode» ⟨[.str x t, .str (PySem.Str.ofString "ascii") u], []⟩ = (_codecs.encodeRoad "str.encode" (.str x t) x (PySem.Str.ofString "ascii") none >>= fun v => ret v) := by kernel_rfl
theorem dec_entry {c : UInt8} {cs : List UInt8} {t u : Tok} : «bytes.decode» ⟨[.bytes (c :: cs).toArray t, .str (PySem.Str.ofString "ascii") u], []⟩ = (mkStr (PySem.Str.ofString "utf-8") >>= fun _ => mkStr (PySem.Str.ofString "ascii") >>= fun e => mkStr (PySem.Str.ofString "bytes.decode") >>= fun d =>
    call (.builtin "_codecs.decode.text") [.bytes (c :: cs).toArray t, e, .none, d] >>= fun v => ret v) := by kernel_rfl
theorem dec_entry0 {t u : Tok} : «bytes.decode» ⟨[.bytes #[] t, .str (PySem.Str.ofString "ascii") u], []⟩ = (rule "bytes.decode.empty" >>= fun _ => retStr Str.empty) := by kernel_rfl
section
variable {b : Array UInt8} {c : UInt8} {cs : List UInt8} {t u : Tok} {x : PySem.Str}
theorem args_decode2 (a b : Value) : argsOk "bytes.decode" ⟨[a, b], []⟩ := by unfold argsOk; kernel_rfl
theorem meets_encode (hx : ∀ c ∈ x.cps, c < 128) (hz : x.length ≤ sizeLine) :
    Meets («str.encode» ⟨[.str x t, .str (PySem.Str.ofString "ascii") u], []⟩) (fun _ R s => ∀ t' k, R (.ok (.ret (.bytes (octs x) t'))) { s with toks := k }) := by
  refine .of_wp fun prog w A R s hS => ?_
  rw [enc_entry, enc_road, encodeNarrow_ascii hx hz, pure_bind]
  refine wpAny_bind (wpAny_mkBytes ?_ (by simp only [octs, Array.size_map]; exact hz))
  exact wpAny_pure ⟨_, rfl, hS _ _⟩
theorem meets_text_ascii {t1 t2 : Tok} {d : PySem.Str} (hb : ∀ p, p < b.size → (b.getD p 0).toNat < 128) (hz : b.size ≤ sizeLine) :
    Meets («_codecs.decode.text» ⟨[.bytes b t, .str (PySem.Str.ofString "ascii") t1, .none, .str d t2], []⟩) (fun _ R s => R (.ok (.ret (.str (textOf b) s.toks))) { s with toks := s.toks + 1 }) := by
  refine .of_wp fun prog w A R s h => ?_
  show wpAny _ _ (Bytes.bytesLike _ (.bytes b t) >>= fun r => _) _ _ s
  refine wpAny_bind (wpAny_of_eq KBd.like_eq ?_)
  refine wpAny_bind (wpAny_of_eq KBd.held_eq ?_)
  show wpAny _ _ (_codecs.decodeRoad _ b (PySem.Str.ofString "ascii") none [] >>= fun v => _) _ _ s
  rw [dec_road, runDecoder_ascii hb hz, pure_bind]
  refine wpAny_bind ?_
  exact wpAny_mkStr (wpAny_pure ⟨_, rfl, h⟩) (by show (Array.map _ b).size ≤ sizeLine; rw [Array.size_map]; exact hz)
theorem meets_decode_ascii (hb : ∀ p, p < b.size → (b.getD p 0).toNat < 128) (hz : b.size ≤ sizeLine) :
    Meets («bytes.decode» ⟨[.bytes b t, .str (PySem.Str.ofString "ascii") u], []⟩) (fun _ R s => ∀ t' k, R (.ok (.ret (.str (textOf b) t'))) { s with toks := k }) := by
  refine .of_wp fun prog w A R s h => ?_
  obtain ⟨l⟩ := b
  cases l with
  | nil =>
    rw [show (⟨[]⟩ : Array UInt8) = #[] from rfl, dec_entry0]
    refine wpAny_bind (wpAny_rule ?_)
    show wpAny _ _ (mkStr Str.empty >>= fun v => ret v) _ _ s
    have e : textOf (⟨[]⟩ : Array UInt8) = Str.empty := by simp [textOf, Str.empty]
    rw [e] at h
    exact wpAny_bind (wpAny_mkStr (wpAny_pure ⟨_, rfl, h _ _⟩) (by decide))
  | cons c cs =>
    rw [show (⟨c :: cs⟩ : Array UInt8) = (c :: cs).toArray from rfl, dec_entry]
    refine wpAny_bind (wpAny_mkStr ?_ (by decide))
    refine wpAny_bind (wpAny_mkStr ?_ (by decide))
    refine wpAny_bind (wpAny_mkStr ?_ (by decide))
    exact wpAny_bind (call_function_meets KBd.kind_text KBd.plain_text KBd.entry_text (KBd.args_text _ _ _ _) (meets_text_ascii hb hz) (wpAny_pure ⟨_, rfl, h _ _⟩))
end
section
variable {prog : Program} {w : World} {A : Around} {E : Value → Shared → Prop} {s : Shared} {t u : Tok} {x : PySem.Str} {b : Array UInt8} {Q : Value → Shared → Prop}
theorem call_encode (hx : ∀ c ∈ x.cps, c < 128) (hz : x.length ≤ sizeLine) (h : ∀ t' k, Q (.bytes (octs x) t') { s with toks := k }) :
    wpAny (model prog w) A (call (.builtin "str.encode") [.str x t, .str (PySem.Str.ofString "ascii") u]) Q E s :=
  call_meets F.slot_str_encode (typeIs_str _ _ _) F.entry_str_encode (F.args_str_encode_2 _ _) (meets_encode hx hz) h
theorem call_decode (hb : ∀ p, p < b.size → (b.getD p 0).toNat < 128) (hz : b.size ≤ sizeLine) (h : ∀ t' k, Q (.str (textOf b) t') { s with toks := k }) :
    wpAny (model prog w) A (call (.builtin "bytes.decode") [.bytes b t, .str (PySem.Str.ofString "ascii") u]) Q E s :=
  call_meets FB.slot_bytes_decode (typeIs_bytes _ _ _) FB.entry_bytes_decode (args_decode2 _ _) (meets_decode_ascii hb hz) h
end
end Mine

end

section -- Rng
open PySem PySem.W PySem.Calls PyProof.Rows
set_option maxRecDepth 100000
set_option maxHeartbeats 4000000
namespace Mine
def itRc (x left c : Int) : Obj := { cls := .type "range_iterator", data := .fields #[rawInt x, rawInt left, rawInt c] }
theorem range_iter {prog : Program} {w : World} {A : Around} {E : Value → Shared → Prop} {s : Shared} {env : Env} {h₀ : Heap} {x : Str} {body : List Stmt} {Q : Flow → Shared → Prop}
    {r : Addr} {a₀ b₀ c₀ : Int} {t₀ u₀ v₀ : Tok} {n : Nat} {m₀ : Str → Option Value} {news : List (Addr × Obj)} (Inv : Nat → (Str → Option Value) → List (Addr × Obj) → Prop)
    (hh : A.handled = none) (hr : IsRange s.heap r a₀ b₀ c₀ t₀ u₀ v₀) (hsmall : Builtin.Range.small a₀ b₀ c₀ = true) (hn : Builtin.Range.rangeSize a₀ b₀ c₀ = (n : Int)) (F : Fr h₀ env.locals s.heap m₀) (N : News h₀ env.locals s.heap news)
    (h0 : Inv 0 m₀ news)
    (nil : ∀ m' news', Inv n m' news' → ∀ h tk, Fr h₀ env.locals h m' → News h₀ env.locals h news' → Q .next { s with heap := h, toks := tk })
    (cons : ∀ (Q' : Flow → Shared → Prop) (I : Addr) (it : Obj) (i : Nat) (t : Tok) (m' : Str → Option Value) (news' : List (Addr × Obj)) (h : Heap) (tk : Nat), i < n → Inv i m' news' → (∀ p ∈ news', p.1 ≠ I) →
      Fr h₀ env.locals h (fun z => if z = x then some (.int (a₀ + (i : Int) * c₀) t) else m' z) → News h₀ env.locals h ((I, it) :: news') →
      (∀ v s', Q (.ret v) s' → Q' (.ret v) s') →
      (∀ h' tk' m'' news'', (∀ p ∈ news'', p.1 ≠ I) → Inv (i + 1) m'' news'' → Fr h₀ env.locals h' m'' → News h₀ env.locals h' ((I, it) :: news'') → Q' .next { s with heap := h', toks := tk' }) →
      wpAny (model prog w) A (execs body env) Q' E { s with heap := h, toks := tk }) :
    wpAny (model prog w) A (pyIter (.ref r)) (fun it s₂ => LoopAtV prog w A h₀ env x body Q E it s₂) E s := by
  refine wpAny_pyIter_range hr hsmall ?_
  have W := Walks.range (prog := prog) (w := w) hh s.heap.objs.size a₀ c₀ n
  have W : Walks prog w A s.heap.objs.size [s.heap.objs.size] [s.heap.objs.size] n (fun i v => i < n ∧ ∃ t, v = .int (a₀ + i * c₀) t)
      (fun i h => IsRangeIter h s.heap.objs.size (a₀ + (i : Nat) * c₀) ((n : Int) - (i : Nat)) c₀) := (Walks.range hh _ a₀ c₀ n).bound
  have hnew := next_is_new F
  refine ⟨_, _, _, n, _, _, m₀, news, Inv, rfl, W, ?_, ?_, ?_, (by show IsRangeIter _ _ _ _ _; rw [hn]; simpa using Heap.get?_push_size _ rfl), F.push _, (fun p hp => ⟨Heap.get?_push_of_some _ (N p hp).1, (N p hp).2⟩), h0, ?_, ?_⟩
  · intro hm
    exact absurd F.ns.lt ((List.mem_singleton.mp hm) ▸ Nat.lt_irrefl _)
  · intro b hb
    rw [List.mem_singleton.mp hb]
    exact hnew
  · intro p hp hI
    exact absurd (Heap.lt_size (N p hp).1) ((List.mem_singleton.mp hI) ▸ Nat.lt_irrefl _)
  · rintro i v m₁ news₁ s₁ own ⟨hh', tk', rfl⟩ hin ⟨_, t, rfl⟩ hJ hoff hown hget hall hst F₁ N₁
    have hst' : hh'.get? s.heap.objs.size = some (itRc (a₀ + ((i + 1 : Nat) : Int) * c₀) ((n : Int) - ((i + 1 : Nat) : Int)) c₀) := hst
    have hmem := hall s.heap.objs.size (List.mem_singleton.mpr rfl) hnew _ hst'
    have N₂ : News h₀ env.locals hh' ((s.heap.objs.size, itRc (a₀ + ((i + 1 : Nat) : Int) * c₀) ((n : Int) - ((i + 1 : Nat) : Int)) c₀) :: news₁) := fun p hp => by
      rcases List.mem_cons.mp hp with rfl | hp
      · exact N₁ _ (List.mem_append_left _ hmem)
      · exact N₁ _ (List.mem_append_right _ hp)
    refine cons _ s.heap.objs.size _ i t m₁ news₁ hh' tk' hin hJ (fun p hp e => hoff p hp (List.mem_singleton.mpr e)) F₁ N₂ (fun v s' q => .ret q) (fun h' tk m' news' ho hI F' N' => .next ?_)
    refine ⟨rfl, h', tk, m', news', rfl, F', fun p hp => ?_, fun p hp hI => ho p hp (List.mem_singleton.mp hI), hI⟩
    rcases List.mem_append.mp hp with hp | hp
    · have h1 : p.1 = s.heap.objs.size := List.mem_singleton.mp (hown p hp)
      have h2 : hh'.get? p.1 = some p.2 := hget p hp
      have h3 : p = (s.heap.objs.size, itRc (a₀ + ((i + 1 : Nat) : Int) * c₀) ((n : Int) - ((i + 1 : Nat) : Int)) c₀) := by
        rw [h1, hst'] at h2
        exact Prod.ext h1 (Option.some.inj h2).symm
      rw [h3]; exact N' _ (List.mem_cons_self ..)
    · exact N' _ (List.mem_cons_of_mem _ hp)
  · rintro h' tk m' news' F' N' _ hJ
    exact nil m' news' hJ h' tk F' N'
end Mine

end

section -- Bs
open PySem PySem.W PySem.Calls PyProof.Rows Builtin Builtin.Str
set_option maxRecDepth 100000
set_option maxHeartbeats 8000000
namespace Mine
theorem fill3 : (PySem.Challenge.rw_gk0002_01, hd.heap_39) = (PySem.Challenge.rw_gk0002_01, hd.heap_39) := by k_fill; rfl
def pj (b : Array UInt8) (j : Nat) : Array UInt8 := ((List.range b.size).map fun k => if b.size - 1 - k < j then b.getD (b.size - 1 - k) 0 else 0).toArray
structure LB (m : Str → Option Value) (b : Array UInt8) (t : Tok) (u : Tok) (D : Addr) : Prop where
  d : m (Str.ofString "data") = some (.bytes b t)
  w : m (Str.ofString "width") = some (.int (b.size : Int) u)
  s : m (Str.ofString "swapped_data") = some (.ref D)
structure LB2 (m : Str → Option Value) (b : Array UInt8) (t : Tok) (u : Tok) (D : Addr) (ti : Tok) : Prop where
  d : m (Str.ofString "data") = some (.bytes b t)
  w : m (Str.ofString "width") = some (.int (b.size : Int) u)
  s : m (Str.ofString "swapped_data") = some (.ref D)
  i : m (Str.ofString "i") = some (.int 0 ti)
local macro_rules | `(tactic| walk_at "eval Name") => `(tactic| (k_here; (with_reducible rename LB _ _ _ _ _ => lf'); k_dflt (refine' ld ?k1 ?k2 ?_; (case k1 => k_asm); (case k2 => first | with_unfolding_all exact rfl | with_unfolding_all exact LB.d lf' | with_unfolding_all exact LB.w lf' | with_unfolding_all exact LB.s lf'))))
local macro_rules | `(tactic| walk_at "eval Name") => `(tactic| (k_here; (with_reducible rename LB2 _ _ _ _ _ _ => lf'); k_dflt (refine' ld ?k1 ?k2 ?_; (case k1 => k_asm); (case k2 => first | with_unfolding_all exact rfl | with_unfolding_all exact LB2.d lf' | with_unfolding_all exact LB2.w lf' | with_unfolding_all exact LB2.s lf' | with_unfolding_all exact LB2.i lf'))))
def Halt (P : Prop) : Prop := P
theorem Halt.out {P : Prop} (h : Halt P) : P := h
local macro_rules | `(tactic| walk_at "pyIter ref") => `(tactic| ((with_reducible show wpAny _ _ (pyIter (Value.ref _)) (fun it s₂ => LoopAtV _ _ _ _ _ _ _ _ _ it s₂) _ _); (refine Halt.out ?_)))
theorem range_one {n : Nat} (h : 1 ≤ n) : Builtin.Range.rangeSize 0 n n = ((1 : Nat) : Int) := by
  unfold Builtin.Range.rangeSize
  rw [if_pos (by omega), if_pos (by omega)]
  have : ((n : Int) - 0 - 1) / (n : Int) = 0 := Int.ediv_eq_zero_of_lt (by omega) (by omega)
  rw [this]; rfl
theorem range_all {n : Nat} : Builtin.Range.rangeSize 0 n 1 = (n : Int) := by
  unfold Builtin.Range.rangeSize
  rw [if_pos (by omega)]
  split
  · rw [Int.ediv_one]; omega
  · omega
theorem fits {n : Int} (h0 : 0 ≤ n) (h1 : n ≤ 3000) : Builtin.Range.rangeFitsLong n = true := by
  unfold Builtin.Range.rangeFitsLong
  simp only [Bool.and_eq_true, decide_eq_true_eq]
  omega
theorem small_of {b c s : Int} (hb0 : 0 ≤ b) (hb : b ≤ 1000) (hc0 : 1 ≤ c) (hc : c ≤ 1000) (hs : Builtin.Range.rangeSize 0 b c = s) (hs0 : 0 ≤ s) (hs1 : s ≤ 1000) : Builtin.Range.small 0 b c = true := by
  unfold Builtin.Range.small
  rw [hs, fits (by omega) (by omega), fits hb0 (by omega), fits (by omega) (by omega), fits hs0 (by omega), if_pos (by omega), fits (n := b + (c - 1)) (by omega) (by omega)]
  simp
theorem pj_zero (b : Array UInt8) : Array.replicate b.size 0 = pj b 0 := by
  apply Array.toList_inj.mp
  simp only [pj, Array.toList_replicate]
  apply List.ext_getElem
  · simp
  · intro i h1 h2
    simp
theorem pj_full (b : Array UInt8) : pj b b.size = b.reverse := by
  apply Array.toList_inj.mp
  apply List.ext_getElem
  · simp [pj]
  · intro i h1 h2
    have hi : i < b.size := by simpa [pj] using h1
    have hk : b.size - 1 - i < b.size := by omega
    simp [pj, hk, Array.getD]
theorem pj_step (b : Array UInt8) {j : Nat} (hj : j < b.size) : (pj b j).setIfInBounds (b.size - 1 - j) (b.getD j 0) = pj b (j + 1) := by
  apply Array.toList_inj.mp
  apply List.ext_getElem
  · simp [pj]
  · intro i h1 h2
    have hi : i < b.size := by simpa [pj] using h2
    simp only [pj, Array.toList_setIfInBounds, List.getElem_set, List.getElem_map, List.getElem_range]
    by_cases h : b.size - 1 - j = i
    · subst h
      have : b.size - 1 - (b.size - 1 - j) = j := by omega
      simp [this]
    · have : (b.size - 1 - i < j + 1) ↔ (b.size - 1 - i < j) := by omega
      simp [h, this]
theorem fr_kept {h₀ h h' : Heap} {L : Addr} {m : Str → Option Value} (F : Fr h₀ L h m) (hk : ∀ b o, h.get? b = some o → h'.get? b = some o) : Fr h₀ L h' m :=
  ⟨F.ns.at' fun o e => hk _ o e, fun b o e => hk b o (F.keep b o e), F.above⟩
theorem news_made {h₀ h h' : Heap} {L : Addr} {m : Str → Option Value} {o : Obj} {news : List (Addr × Obj)} (F : Fr h₀ L h m) (N : News h₀ L h news) (hk : ∀ b o, h.get? b = some o → h'.get? b = some o) (hD : h'.get? h.objs.size = some o) : News h₀ L h' ((h.objs.size, o) :: news) := fun p hp => by
  rcases List.mem_cons.mp hp with rfl | hp
  · exact ⟨hD, fun e => absurd F.ns.lt (e ▸ Nat.lt_irrefl _), next_is_new F⟩
  · exact ⟨hk _ _ (N p hp).1, (N p hp).2⟩
theorem ba_setU {prog : Program} {w : World} {A : Around} {E : Value → Shared → Prop} {s : Shared} {h₀ : Heap} {L : Addr} {m : Str → Option Value} {news news' : List (Addr × Obj)} {D : Addr} {b b' : Array UInt8} {k x : Int} {u t : Tok} {Q : Unit → Shared → Prop}
    (F : Fr h₀ L s.heap m) (N : News h₀ L s.heap news) (U : Upd D (baOf b) (baOf b') news news') (hb' : b.setIfInBounds k.toNat x.toNat.toUInt8 = b') (h0 : 0 ≤ k) (hk : k < b.size) (hz : b.size ≤ 1000) (hx0 : 0 ≤ x) (hx1 : x < 256)
    (h : ∀ h', Fr h₀ L h' m → News h₀ L h' news' → Q () { s with heap := h' }) :
    wpAny (model prog w) A (setItem (.ref D) (.int k u) (.int x t)) Q E s := by
  obtain ⟨pre, post, rfl, rfl, a, c⟩ := U.split
  have z := N (D, _) (List.mem_append.mpr (.inr (.head _)))
  refine ba_setItem z.1 h0 hk ?_ hx0 hx1 (by have : sizeLine = 16777216 := (by decide); omega) ?_
  · unfold Builtin.Bytes.fitsIndex
    simp only [Bool.and_eq_true, decide_eq_true_eq]
    omega
  · obtain ⟨F', N'⟩ := news_upd (o' := baOf b') (f := Obj.mapBytearray (·.setIfInBounds k.toNat x.toNat.toUInt8)) F N a c (by rw [← hb']; rfl) rfl
    exact h _ F' N'
theorem bs_call {w : World} {mean : ExcName → Option Value} {mg mb : Str → Option Value} {b : Array UInt8} {t u : Tok}
    {dp un : Nat} {gd : Option (List Code)} {cn : Str} {cs : Scope} {a : Addr} {ccd : Value} {cl : List (Str × Addr)} {outer : List Env} {L : Addr} {s : Shared} {Q E : Value → Shared → Prop}
    (hdp : dp + 1 < recursionLimit) (hu : un + 8 < cLine) (X : (hd.heap_39 w.params).In s.heap) (T : Top hd.view_39 [] mean mg mb s.heap)
    (h1 : 1 ≤ b.size) (h2 : b.size ≤ 1000)
    (hret : ∀ h' tk t', (∀ b o, s.heap.get? b = some o → h'.get? b = some o) → Q (.bytes b.reverse t') { s with heap := h', toks := tk }) :
      wpC (model PySem.Challenge.pw_gk0002_01 w) (ktrTop dp un gd cn cs L a ccd cl outer) (call (.ref 28) [.bytes b t, .int (b.size : Int) u]) Q E s := by
  k_dflt (refine' enterC (K := hd.heap_39) (binds := [(Str.ofString "data", .bytes b t), (Str.ofString "width", .int (b.size : Int) u)]) X T ?h1 ?h2 ?h3 ?h4 ?h5 ?h6 ?h7 ?h8 ?h9 ?h10; (case h2 => k_is); (case h3 => k_is); (case h4 => rfl); (case h5 => rfl); (case h7 => rfl); (case h8 => rfl); (case h9 => rfl); (case h10 => decide))
  · show dp < recursionLimit; omega
  intro h₁ F' N'
  refine wpC_execs_cons (wpC_Assign_Name (wpC_Call_Name rfl ?_))
  k_steps
  refine wpC_callWith_type1 ?_
  k_steps
  refine callC_bytearray (by omega) (by have : sizeLine = 16777216 := (by decide); omega) (fun h' hk' hD' hl' => ?_)
  rename Fr _ _ _ _ => F1
  rename News _ _ _ _ => N1
  rw [show (b.size : Int).toNat = b.size from rfl, pj_zero] at hD'
  have F2 := fr_kept F1 hk'
  have N2 := news_made (o := baOf (pj b 0)) F1 N1 hk' hD'
  clear F1 N1
  k_steps
  refine wpC_any ?_
  k_steps
  unfold Halt
  rename IsRange _ _ _ _ _ _ _ _ => hR
  rename Fr _ _ _ _ => F3
  rename News _ _ _ _ => N3
  refine range_iter (n := 1) (fun i m' news' => LB m' b t u h₁.objs.size ∧ news' = [(h₁.objs.size, baOf (pj b (if i = 0 then 0 else b.size)))]) (by rfl) hR (small_of (by omega) (by omega) (by omega) (by omega) (range_one h1) (by omega) (by omega)) (range_one h1) F3 N3 ⟨⟨by with_unfolding_all exact rfl, by with_unfolding_all exact rfl, by with_unfolding_all exact rfl⟩, rfl⟩ ?_ ?_
  · rintro m' _ ⟨lf, rfl⟩ h tk F N
    rw [if_neg (by decide), pj_full] at N
    have hN : h.get? h₁.objs.size = some (baOf b.reverse) := (N _ (List.mem_singleton.mpr rfl)).1
    k_steps
    refine ba_to_bytes (b := b.reverse) ?_ ?_ (fun t' k' => ?_)
    · exact hN
    · have : sizeLine = 16777216 := (by decide)
      simp; omega
    · rename Fr _ _ _ _ => F
      exact hret _ _ _ F.keep
  · rintro Q' I it i ti m' _ h tk hi ⟨lf, rfl⟩ hoff F N hq hn
    obtain rfl : i = 0 := by omega
    rw [show (0 + ((0 : Nat) : Int) * (b.size : Int)) = 0 by simp] at F
    rw [if_pos rfl] at N
    k_steps
    unfold Halt
    rename IsRange _ _ _ _ _ _ _ _ => hR2
    rename Fr _ _ _ _ => F4
    rename News _ _ _ _ => N4
    rename LB _ _ _ _ _ => lf
    refine range_iter (n := b.size) (fun j m'' news'' => LB2 m'' b t u h₁.objs.size ti ∧ news'' = [(I, it), (h₁.objs.size, baOf (pj b j))]) (by rfl) hR2 (small_of (by omega) (by omega) (by omega) (by omega) range_all (by omega) (by omega)) range_all F4 N4 ⟨⟨by with_unfolding_all exact lf.d, by with_unfolding_all exact lf.w, by with_unfolding_all exact lf.s, by with_unfolding_all exact rfl⟩, rfl⟩ ?_ ?_
    · rintro m'' _ ⟨lf2, rfl⟩ h' tk' F' N'
      show wpAny _ _ (execs [] _) _ _ _
      k_steps
      rename LB2 _ _ _ _ _ _ => lf2
      exact hn _ _ _ _ (fun p hp => by have e := List.mem_singleton.mp hp; subst e; have q := hoff _ (List.mem_singleton.mpr rfl); exact q) ⟨⟨lf2.d, lf2.w, lf2.s⟩, rfl⟩ F' N'
    · rintro Q'' I2 it2 j tj m'' _ h' tk' hj ⟨lf2, rfl⟩ hoff2 F' N' hq' hn'
      rw [show (0 + (j : Int) * 1) = (j : Int) by simp] at F'
      clear F4 N4 lf
      k_steps
      refine bytes_item_K (x := b.toList) (i := 0 + (j : Int)) (k := ((b.getD j 0).toNat : Int)) (by rw [Array.length_toList]; omega) (by omega) (by rw [Array.length_toList]; omega) ?_ ?_
      · rw [show (0 + (j : Int)).toNat = j by omega]
        simp [Array.getD, List.getD, hj]
      k_steps
      have hpz : (pj b j).size = b.size := by simp [pj]
      have hne1 : h₁.objs.size ≠ I := hoff _ (List.mem_singleton.mpr rfl)
      have hne2 : h₁.objs.size ≠ I2 := hoff2 _ (List.Mem.tail _ (List.Mem.head _))
      have hne3 : I ≠ I2 := hoff2 _ (List.Mem.head _)
      have hne4 : I ≠ h₁.objs.size := Ne.symm hne1
      have hne5 : I2 ≠ h₁.objs.size := Ne.symm hne2
      have hx1 : (b.getD j 0).toNat < 256 := UInt8.toNat_lt _
      refine ba_setU (b := pj b j) (b' := pj b (j + 1)) (by k_asm) (by k_asm) (by k_upd) ?_ ?_ ?_ (by rw [hpz]; exact h2) ?_ ?_ ?_
      · rw [show (0 + (b.size : Int) - 1 - (j : Int)).toNat = b.size - 1 - j by omega, Int.toNat_natCast]
        have e : (b.getD j 0).toNat.toUInt8 = b.getD j 0 := by simp
        rw [e, pj_step b hj]
      · omega
      · rw [hpz]; omega
      · omega
      · omega
      intro h5 F5 N5
      k_steps
      rename LB2 _ _ _ _ _ _ => lf2
      rename Fr _ _ _ _ => F6
      rename News _ _ _ _ => N6
      exact hn' _ _ _ _ (fun p hp => by
        rcases List.mem_cons.mp hp with e | hp
        · subst e
          have q := hoff2 _ (List.Mem.head _)
          exact q
        · have e := List.mem_singleton.mp hp
          subst e
          have q := hoff2 _ (List.Mem.tail _ (List.Mem.head _))
          exact q) ⟨⟨by with_unfolding_all exact lf2.d, by with_unfolding_all exact lf2.w, by with_unfolding_all exact lf2.s, by with_unfolding_all exact lf2.i⟩, rfl⟩ F6 N6
end Mine

end

section -- Lt
open PySem PySem.W PySem.Calls PyProof.Rows Builtin Builtin.Str
set_option maxRecDepth 100000
set_option maxHeartbeats 8000000
namespace Mine
theorem fill4 : (PySem.Challenge.rw_gk0002_01, hd.heap_39) = (PySem.Challenge.rw_gk0002_01, hd.heap_39) := by k_fill; rfl
def revS (x : Str) : Str := ⟨x.cps.reverse⟩
theorem textOf_rev {x : Str} (hx : ∀ c ∈ x.cps, c < 128) : textOf (octs x).reverse = revS x := by
  unfold textOf octs revS
  congr 1
  apply Array.toList_inj.mp
  simp only [Array.toList_map, Array.toList_reverse, List.map_reverse, List.map_map]
  congr 1
  have : ∀ l : List Nat, (∀ c ∈ l, c < 128) → l.map ((fun y : UInt8 => y.toNat) ∘ Nat.toUInt8) = l := by
    intro l hl
    induction l with
    | nil => rfl
    | cons c l ih =>
      rw [List.map_cons, ih fun d hd => hl d (List.mem_cons_of_mem _ hd)]
      congr 1
      have := hl c (List.mem_cons_self ..)
      simp [Function.comp]; omega
  exact this _ fun c hc => hx c (Array.mem_toList_iff.mp hc)
theorem octs_small {x : Str} (hx : ∀ c ∈ x.cps, c < 128) : ∀ p, p < (octs x).reverse.size → ((octs x).reverse.getD p 0).toNat < 128 := by
  intro p hp
  have hp' : p < (octs x).size := by simpa using hp
  have : (octs x).reverse.getD p 0 = (octs x)[(octs x).size - 1 - p]'(by omega) := by simp [Array.getD, hp']
  rw [this]
  have hs : (octs x).size = x.cps.size := by simp [octs]
  have : (octs x)[(octs x).size - 1 - p]'(by omega) = (x.cps[(octs x).size - 1 - p]'(by omega)).toUInt8 := by simp [octs]
  rw [this]
  have h := hx _ (Array.getElem_mem (i := (octs x).size - 1 - p) (by omega : _ < x.cps.size))
  simp; omega
theorem wpC_callK {prog : Program} {w : World} {A : Around} {E : Value → Shared → Prop} {s : Shared} {env : Env} {K : Params → Frag} {base : Heap} {oc : Value} {od : Option Addr} {osl : Array (Option Value)} {fd : FuncData} {f : Addr} {pos : Pos} {e : Expr} {rest : List Expr} {Q : Value → Shared → Prop}
    (X : (K w.params).In base) (ho : (K w.params).lookup f = some ⟨oc, od, .func fd, osl⟩)
    (h : wpAny (model prog w) A (spliced (backTo pos (starEach (e :: rest) env))) (fun vs s₁ => (∀ b o, base.get? b = some o → s₁.heap.get? b = some o) ∧ wpC (model prog w) A (call (.ref f) vs) Q E s₁) E s)
    (he : starEach (e :: rest) env = (false, eval e env) :: starEach rest env) :
    wpC (model prog w) A (callWith pos (.ref f) [] (backTo pos (starEach (e :: rest) env)) []) Q E s :=
  wpC_callWith_def (o := ⟨oc, od, .func fd, osl⟩) rfl (wpAny_mono h (fun _ _ q => ⟨q.1 _ _ (X _ _ ho), q.2⟩) fun _ _ x => x) he
theorem method_encode {M : Model} {A : Around} {E : Value → Shared → Prop} {s : Shared} {x : Str} {t : Tok} {pl : Sem Bool} {Q : Value × List Value → Shared → Prop} (h : Q (.builtin "str.encode", [.str x t]) s) : wpAny M A (getMethod (.str x t) (Str.ofString "encode") pl) Q E s :=
  getMethod_builtin (typeIs_str _ _ _) F.plainAttrs_str F.slot_str_encode F.type_str_encode (fun a e => nomatch e) h
local macro_rules | `(tactic| walk_at "getMethod str") => `(tactic| (k_here; (with_reducible refine method_encode ?_)))
local macro_rules | `(tactic| walk_at "call builtin:str.encode") => `(tactic| (k_here; (refine call_encode (by assumption) (by first | assumption | (have hsl : sizeLine = 16777216 := (by decide); omega)) ?_); intro t' k'))
theorem lt_call {w : World} {mean : ExcName → Option Value} {mg mb : Str → Option Value} {x : Str} {t : Tok}
    {dp un : Nat} {gd : Option (List Code)} {cn : Str} {cs : Scope} {a : Addr} {ccd : Value} {cl : List (Str × Addr)} {outer : List Env} {L : Addr} {s : Shared} {Q E : Value → Shared → Prop}
    (hdp : dp + 2 < recursionLimit) (hu : un + 16 < cLine) (X : (hd.heap_39 w.params).In s.heap) (T : Top hd.view_39 [] mean mg mb s.heap)
    (hx : ∀ c ∈ x.cps, c < 128) (hz : x.length ≤ 1000)
    (hret : ∀ h' tk t', (∀ b o, s.heap.get? b = some o → h'.get? b = some o) → Q (.str (revS x) t') { s with heap := h', toks := tk }) :
      wpC (model PySem.Challenge.pw_gk0002_01 w) (ktrTop dp un gd cn cs L a ccd cl outer) (call (.ref 35) [.str x t]) Q E s := by
  k_dflt (refine' enterC (K := hd.heap_39) (binds := [(Str.ofString "word", .str x t)]) X T ?h1 ?h2 ?h3 ?h4 ?h5 ?h6 ?h7 ?h8 ?h9 ?h10; (case h2 => k_is); (case h3 => k_is); (case h4 => rfl); (case h5 => rfl); (case h7 => rfl); (case h8 => rfl); (case h9 => rfl); (case h10 => decide))
  · show dp < recursionLimit; omega
  intro h₁ F' N'
  refine wpC_execs_step ?_
  k_steps
  refine wpC_execs_cons (wpC_Return_some (wpC_MethodCall (wpC_IfExp (wpC_any ?_))))
  k_steps
  · rename _ = true => hne
    have hpos : 1 ≤ (octs x).size := by
      rcases Nat.eq_zero_or_pos (octs x).size with h0 | h0
      · rw [Array.eq_empty_of_size_eq_zero h0] at hne
        simp at hne
      · exact h0
    have hoz : (octs x).size = x.length := by simp [octs, Str.length]
    have hz2 : (octs x).size ≤ 1000 := by rw [hoz]; exact hz
    refine wpC_Call_Name rfl ?_
    k_steps
    k_dflt (refine' wpC_callK X ?ho ?hh ?he; (case ho => k_is); (case he => rfl))
    k_steps
    rename Fr _ _ _ _ => lF
    refine bs_call (by omega) (by show un + 3 + 8 < cLine; omega) (X.keeps lF.keep) (T.keeps lF.keep) hpos hz2 ?_
    intro h' tk t' hk
    have F7 := fr_kept lF hk
    have N7 := News.nil (h₀ := s.heap) (h := h') (L := s.heap.objs.size)
    clear lF
    k_steps
    refine call_decode (octs_small hx) (by rw [Array.size_reverse]; have hsl : sizeLine = 16777216 := (by decide); omega) (fun t5 k5 => ?_)
    rw [textOf_rev hx]
    exact hret _ _ _ F7.keep
  · rename _ = false => hne
    refine wpC_any ?_
    k_steps
    have hem : octs x = #[] := by
      apply Array.toList_inj.mp
      simpa using hne
    refine call_decode (fun p hp => absurd hp (Nat.not_lt_zero _)) (Nat.zero_le _) (fun t5 k5 => ?_)
    rename Fr _ _ _ _ => lF
    have e : textOf #[] = revS x := by
      rw [← textOf_rev hx, hem]; simp
    rw [e]
    exact hret _ _ _ lF.keep
end Mine

end

section -- Law
open PySem PySem.W PySem.Calls PyProof.Rows Builtin Builtin.Str
set_option maxRecDepth 100000
namespace Mine
open PySem.StrLaws (At subAt_eq)
/-! the plain law, on lists of numbers -/
def Mid : List (List Nat) → List Nat → Prop
  | [], _ => True
  | p :: r, t => ∃ u v, t = u ++ (p ++ v) ∧ Mid r v
theorem Mid.more : ∀ (ws : List (List Nat)) (t x : List Nat), Mid ws t → Mid ws (x ++ t)
  | [], _, _, _ => trivial
  | _ :: _, _, x, ⟨u, v, e, h⟩ => ⟨x ++ u, v, by rw [e]; simp, h⟩
theorem Mid.tail : ∀ (ws : List (List Nat)) (t x : List Nat), Mid ws t → Mid ws (t ++ x)
  | [], _, _, _ => trivial
  | _ :: r, _, x, ⟨u, v, e, h⟩ => ⟨u, v ++ x, by rw [e]; simp, Mid.tail r v x h⟩
theorem Mid.append : ∀ (a b : List (List Nat)) (t : List Nat), Mid (a ++ b) t ↔ ∃ u v, t = u ++ v ∧ Mid a u ∧ Mid b v
  | [], b, t => ⟨fun h => ⟨[], t, rfl, trivial, h⟩, fun ⟨u, v, e, _, h⟩ => by rw [e]; exact Mid.more b v u h⟩
  | p :: a, b, t => by
    constructor
    · rintro ⟨u, v, e, h⟩
      obtain ⟨u', v', e', h1, h2⟩ := (Mid.append a b v).mp h
      exact ⟨u ++ (p ++ u'), v', by rw [e, e']; simp, ⟨u, u', rfl, h1⟩, h2⟩
    · rintro ⟨_, v, e, ⟨u, v', e', h1⟩, h2⟩
      exact ⟨u, v' ++ v, by rw [e, e']; simp, (Mid.append a b _).mpr ⟨v', v, rfl, h1, h2⟩⟩
theorem Mid.one (p t : List Nat) : Mid [p] t ↔ ∃ u v, t = u ++ (p ++ v) := ⟨fun ⟨u, v, e, _⟩ => ⟨u, v, e⟩, fun ⟨u, v, e⟩ => ⟨u, v, e, trivial⟩⟩
theorem Mid.rev1 : ∀ (ws : List (List Nat)) (t : List Nat), Mid ws t → Mid (ws.map List.reverse).reverse t.reverse
  | [], _, _ => trivial
  | p :: r, _, ⟨u, v, e, h⟩ => by
    rw [List.map_cons, List.reverse_cons]
    refine (Mid.append _ _ _).mpr ⟨v.reverse, p.reverse ++ u.reverse, by rw [e]; simp, Mid.rev1 r v h, (Mid.one _ _).mpr ⟨[], u.reverse, by simp⟩⟩
theorem map_rev_rev (ws : List (List Nat)) : ((((ws.map List.reverse).reverse).map List.reverse).reverse) = ws := by
  rw [List.map_reverse, List.reverse_reverse, List.map_map]
  exact (List.map_congr_left (g := _root_.id) fun x _ => List.reverse_reverse x).trans (List.map_id ws)
theorem Mid.rev (ws : List (List Nat)) (t : List Nat) : Mid (ws.map List.reverse).reverse t.reverse ↔ Mid ws t := by
  refine ⟨fun h => ?_, Mid.rev1 ws t⟩
  have := Mid.rev1 _ _ h
  rwa [map_rev_rev, List.reverse_reverse] at this
/-- a text fits the pieces -/
def Fits (a : List Nat) (ws : List (List Nat)) (z w : List Nat) : Prop := ∃ t, w = a ++ (t ++ z) ∧ Mid ws t
theorem Fits.rev (a z w : List Nat) (ws : List (List Nat)) : Fits z.reverse (ws.map List.reverse).reverse a.reverse w.reverse ↔ Fits a ws z w := by
  constructor
  · rintro ⟨t, e, h⟩
    refine ⟨t.reverse, ?_, ?_⟩
    · have := congrArg List.reverse e
      simpa using this
    · have := (Mid.rev ws t.reverse).mp (by rwa [List.reverse_reverse])
      exact this
  · rintro ⟨t, e, h⟩
    exact ⟨t.reverse, by rw [e]; simp, (Mid.rev ws t).mpr h⟩
theorem Fits.inner {a z w : List Nat} {ws : List (List Nat)} {t : List Nat} (e : w = a ++ (t ++ z)) : Fits a ws z w ↔ Mid ws t := by
  constructor
  · rintro ⟨t', e', h⟩
    rw [e] at e'
    have h1 := List.append_cancel_left e'
    have h2 := List.append_cancel_right h1
    rw [h2]; exact h
  · exact fun h => ⟨t, e, h⟩
theorem Fits.nil (ws : List (List Nat)) (t : List Nat) : Fits [] ws [] t ↔ Mid ws t := Fits.inner (by simp)
/-! texts as lists -/
def L (x : Str) : List Nat := x.cps.toList
theorem L_len (x : Str) : (L x).length = x.length := by simp [L, Str.length]
theorem L_inj {x y : Str} (h : L x = L y) : x = y := by
  obtain ⟨⟨a⟩⟩ := x; obtain ⟨⟨b⟩⟩ := y
  simp only [L] at h
  rw [h]
theorem At_iff {x y : Str} {hi i : Nat} (hx : hi ≤ x.length) : At x y hi i ↔ i + y.length ≤ hi ∧ ∃ u v, L x = u ++ (L y ++ v) ∧ u.length = i := by
  unfold At
  rw [subAt_eq]
  constructor
  · rintro ⟨h1, h2⟩
    refine ⟨h1, (L x).take i, (L x).drop (i + y.length), ?_, by rw [List.length_take, L_len]; omega⟩
    have h3 : ((L x).drop i).take y.length = L y := eq_of_beq h2
    rw [← h3]
    have : (L x).drop (i + y.length) = ((L x).drop i).drop y.length := by rw [List.drop_drop]
    rw [this, List.take_append_drop, List.take_append_drop]
  · rintro ⟨h1, u, v, e, h2⟩
    refine ⟨h1, ?_⟩
    show ((L x).drop i).take y.length == L y
    rw [e, ← h2, List.drop_left, ← L_len y, List.take_left]
    exact beq_self_eq_true _
theorem starts_iff (x y : Str) : Txt.startswith x y = true ↔ ∃ v, L x = L y ++ v := by
  have e : Txt.startswith x y = true ↔ At x y x.length 0 := by
    show (decide (0 + y.length ≤ x.length) && subAt x y 0) = true ↔ _
    rw [Bool.and_eq_true, decide_eq_true_eq]; rfl
  rw [e, At_iff (Nat.le_refl _)]
  constructor
  · rintro ⟨_, u, v, e, hu⟩
    rw [List.length_eq_zero_iff.mp hu] at e
    exact ⟨v, e⟩
  · rintro ⟨v, e⟩
    refine ⟨?_, [], v, e, rfl⟩
    have := congrArg List.length e
    rw [List.length_append, L_len, L_len] at this
    omega
theorem ends_iff (x y : Str) : Txt.endswith x y = true ↔ ∃ u, L x = u ++ L y := by
  have e : Txt.endswith x y = true ↔ y.length ≤ x.length ∧ At x y x.length (x.length - y.length) := by
    show (decide (0 + y.length ≤ x.length) && subAt x y (x.length - y.length)) = true ↔ _
    rw [Bool.and_eq_true, decide_eq_true_eq]
    unfold At
    constructor
    · rintro ⟨h1, h2⟩
      exact ⟨by omega, by omega, h2⟩
    · rintro ⟨h1, _, h2⟩
      exact ⟨by omega, h2⟩
  rw [e, At_iff (Nat.le_refl _)]
  constructor
  · rintro ⟨h1, _, u, v, e, hu⟩
    have := congrArg List.length e
    rw [List.length_append, List.length_append, L_len, L_len, hu] at this
    rw [List.length_eq_zero_iff.mp (show v.length = 0 by omega), List.append_nil] at e
    exact ⟨u, e⟩
  · rintro ⟨u, e⟩
    have := congrArg List.length e
    rw [List.length_append, L_len, L_len] at this
    exact ⟨by omega, by omega, u, [], by rw [List.append_nil]; exact e, by omega⟩
theorem go_sound (x : Str) (hi : Nat) (hx : hi ≤ x.length) : ∀ (ws : List Str) (i f : Nat), go x hi i ws = some f → i ≤ hi → i ≤ f ∧ f ≤ hi ∧ ∀ e, f ≤ e → Mid (ws.map L) (((L x).take e).drop i)
  | [], i, f, h, hi' => by cases h; exact ⟨Nat.le_refl _, hi', fun _ _ => trivial⟩
  | w :: r, i, f, h, hi' => by
    unfold go at h
    cases ho : occurrences x w i hi 1 with
    | nil => rw [ho] at h; cases h
    | cons k q =>
      rw [ho] at h
      obtain ⟨hk, hat, _⟩ := occ_hit ho
      obtain ⟨hk2, u, v, e, hu⟩ := (At_iff hx).mp hat
      obtain ⟨h1, h2, h3⟩ := go_sound x hi hx r _ f h hk2
      refine ⟨by omega, h2, fun e' he => ?_⟩
      refine ⟨((L x).take k).drop i, ((L x).take e').drop (k + w.length), ?_, h3 e' he⟩
      have hl : (L x).take k = u := by rw [e, ← hu, List.take_left]
      have h4 : (L x).take e' = u ++ (L w ++ v.take (e' - k - w.length)) := by
        rw [e, List.take_append, List.take_of_length_le (by omega), hu, List.take_append, List.take_of_length_le (by rw [L_len]; omega), L_len]
      rw [hl, h4, List.drop_append_of_le_length (by omega)]
      congr 1
      congr 1
      rw [List.drop_append, List.drop_eq_nil_of_le (by omega), List.nil_append, hu]
      have : k + w.length - k = (L w).length := by rw [L_len]; omega
      rw [this, List.drop_left]
theorem go_complete (x : Str) (hi : Nat) (hx : hi ≤ x.length) : ∀ (ws : List Str) (i j e : Nat), i ≤ j → j ≤ e → e ≤ hi → Mid (ws.map L) (((L x).take e).drop j) → ∃ f, go x hi i ws = some f ∧ f ≤ e
  | [], i, j, e, hij, hje, _, _ => ⟨i, rfl, by omega⟩
  | w :: r, i, j, e, hij, hje, he, ⟨u, v, e1, h⟩ => by
    have hlen : ((L x).take e).length = e := by rw [List.length_take, L_len]; omega
    have hsplit : L x = ((L x).take j ++ u) ++ (L w ++ (v ++ (L x).drop e)) := by
      have h1 : L x = (L x).take e ++ (L x).drop e := (List.take_append_drop _ _).symm
      have h2 : (L x).take e = ((L x).take e).take j ++ ((L x).take e).drop j := (List.take_append_drop _ _).symm
      rw [List.take_take, Nat.min_eq_left hje, e1] at h2
      conv => lhs; rw [h1, h2]
      simp
    have hdl : u.length + (w.length + v.length) = e - j := by
      have := congrArg List.length e1
      simp only [List.length_drop, List.length_append, hlen, L_len] at this
      omega
    have hat : At x w hi (j + u.length) := (At_iff hx).mpr ⟨by omega, _, _, hsplit, by rw [List.length_append, List.length_take, L_len]; omega⟩
    unfold go
    cases ho : occurrences x w i hi 1 with
    | nil => exact absurd hat (occ_miss ho _ (by omega))
    | cons k q =>
      obtain ⟨hk, hatk, hmin⟩ := occ_hit ho
      have hle : k ≤ j + u.length := by
        rcases Nat.lt_or_ge (j + u.length) k with h' | h'
        · exact absurd hat (hmin _ (by omega) h')
        · exact h'
      have hv : v = ((L x).take e).drop (j + u.length + w.length) := by
        have : ((L x).take e).drop (j + u.length + w.length) = (((L x).take e).drop j).drop (u.length + w.length) := by rw [List.drop_drop]; congr 1; omega
        rw [this, e1, ← List.drop_drop, List.drop_left, ← L_len w, List.drop_left]
      refine go_complete x hi hx r (k + w.length) (j + u.length + w.length) e (by omega) (by omega) he ?_
      rw [← hv]; exact h

/-- the text between a first and a last piece -/
theorem between {x p q : Str} (h1 : Txt.startswith x p = true) (h2 : Txt.endswith x q = true) (h3 : p.length + q.length ≤ x.length) : L x = L p ++ (((L x).take (x.length - q.length)).drop p.length ++ L q) := by
  obtain ⟨v, e⟩ := (starts_iff x p).mp h1
  obtain ⟨u, e'⟩ := (ends_iff x q).mp h2
  have hl := congrArg List.length e'
  rw [List.length_append, L_len, L_len] at hl
  have e2 : (L x).take (x.length - q.length) = u := by rw [e', hl, Nat.add_sub_cancel, List.take_left]
  have e3 : u = L p ++ u.drop p.length := by
    have : u.take p.length = L p := by
      rw [← e2, List.take_take, Nat.min_eq_left (by omega), e, ← L_len p, List.take_left]
    rw [← this]
    exact (List.take_append_drop _ _).symm
  rw [e2, ← List.append_assoc, ← e3]
  exact e'
theorem fits_of {x p q : Str} {ws : List Str} (h1 : Txt.startswith x p = true) (h2 : Txt.endswith x q = true) (h3 : p.length + q.length ≤ x.length)
    (h : Mid (ws.map L) (((L x).take (x.length - q.length)).drop p.length)) : Fits (L p) (ws.map L) (L q) (L x) := ⟨_, between h1 h2 h3, h⟩
theorem of_fits {x p q : Str} {ws : List Str} (h : Fits (L p) (ws.map L) (L q) (L x)) :
    Txt.startswith x p = true ∧ Txt.endswith x q = true ∧ p.length + q.length ≤ x.length ∧ Mid (ws.map L) (((L x).take (x.length - q.length)).drop p.length) := by
  obtain ⟨t, e, h⟩ := h
  have hl := congrArg List.length e
  rw [List.length_append, List.length_append, L_len, L_len, L_len] at hl
  refine ⟨(starts_iff _ _).mpr ⟨_, e⟩, (ends_iff _ _).mpr ⟨L p ++ t, by rw [e]; simp⟩, by omega, ?_⟩
  have e2 : (L x).take (x.length - q.length) = L p ++ t := by
    have h' : x.length - q.length = (L p ++ t).length := by rw [List.length_append, L_len]; omega
    rw [h', e, ← List.append_assoc, List.take_left]
  rw [e2, ← L_len p, List.drop_left]
  exact h
theorem mid_empty {e : Str} (he : e.length = 0) : ∀ (ws : List Str) (t : List Nat), Mid ((e :: ws).map L) t ↔ Mid (ws.map L) t := by
  intro ws t
  have : L e = [] := List.length_eq_zero_iff.mp (by rw [L_len]; exact he)
  constructor
  · rintro ⟨u, v, e', h⟩
    rw [this, List.nil_append] at e'
    rw [e']; exact Mid.more _ _ _ h
  · exact fun h => ⟨[], t, by rw [this]; rfl, h⟩
theorem mid_empty_last {e : Str} (he : e.length = 0) (ws : List Str) (t : List Nat) : Mid ((ws ++ [e]).map L) t ↔ Mid (ws.map L) t := by
  have : L e = [] := List.length_eq_zero_iff.mp (by rw [L_len]; exact he)
  rw [List.map_append]
  constructor
  · intro h
    obtain ⟨u, v, e', h1, _⟩ := (Mid.append _ _ _).mp h
    rw [e']; exact Mid.tail _ _ _ h1
  · exact fun h => (Mid.append _ _ _).mpr ⟨t, [], by simp, h, [], [], by simp [this], trivial⟩
/-- the greedy match answers the question -/
theorem firstP_iff (p0 : Str) (mid : List Str) (pl word : Str) : firstP p0 mid pl word = true ↔ Fits (L p0) (mid.map L) (L pl) (L word) := by
  unfold firstP
  rw [Bool.and_eq_true]
  constructor
  · rintro ⟨h1, h2⟩
    cases hg : go word word.length p0.length mid with
    | none => rw [hg] at h2; cases h2
    | some f =>
      rw [hg] at h2
      simp only [Bool.and_eq_true, decide_eq_true_eq] at h2
      have hp : p0.length ≤ word.length := by
        obtain ⟨v, e⟩ := (starts_iff _ _).mp h1
        have := congrArg List.length e
        rw [List.length_append, L_len, L_len] at this
        omega
      obtain ⟨a, b, c⟩ := go_sound word word.length (Nat.le_refl _) mid _ f hg hp
      exact fits_of h1 h2.2 (by omega) (c _ (by omega))
  · intro h
    obtain ⟨h1, h2, h3, h4⟩ := of_fits h
    refine ⟨h1, ?_⟩
    obtain ⟨f, hf, hle⟩ := go_complete word word.length (Nat.le_refl _) mid p0.length p0.length (word.length - pl.length) (Nat.le_refl _) (by omega) (by omega) h4
    rw [hf]
    simp only [Bool.and_eq_true, decide_eq_true_eq]
    exact ⟨by omega, h2⟩
theorem emP_iff (p0 : Str) (mid : List Str) (pl got : Str) : emP p0 mid pl got = true ↔ Fits (L p0) (mid.map L) (L pl) (L got) := by
  have hmid : ∀ t, Mid (((if p0.length = 0 then [p0] else []) ++ mid ++ (if pl.length = 0 then [pl] else [])).map L) t ↔ Mid (mid.map L) t := by
    intro t
    by_cases h0 : p0.length = 0 <;> by_cases h1 : pl.length = 0 <;> simp only [h0, h1, if_true, if_false, List.nil_append, List.append_nil, List.cons_append]
    · rw [mid_empty h0, mid_empty_last h1]
    · rw [mid_empty h0]
    · rw [mid_empty_last h1]
  have hst : ∀ x y : Str, y.length = 0 → Txt.startswith x y = true := fun x y h => (starts_iff x y).mpr ⟨L x, by rw [List.length_eq_zero_iff.mp (show (L y).length = 0 by rw [L_len]; exact h)]; rfl⟩
  have hen : ∀ x y : Str, y.length = 0 → Txt.endswith x y = true := fun x y h => (ends_iff x y).mpr ⟨L x, by rw [List.length_eq_zero_iff.mp (show (L y).length = 0 by rw [L_len]; exact h)]; simp⟩
  unfold emP
  simp only [Bool.and_eq_true, Bool.or_eq_true, decide_eq_true_eq, beq_iff_eq]
  rw [loopE_go]
  constructor
  · rintro ⟨⟨⟨h1, h2⟩, h3⟩, h4⟩
    obtain ⟨f, hf⟩ := Option.isSome_iff_exists.mp h4
    rw [Nat.min_eq_left (Nat.sub_le _ _)] at hf
    obtain ⟨_, b, c⟩ := go_sound got _ (Nat.sub_le _ _) _ _ f hf (by omega)
    refine fits_of (h1.elim (hst _ _) _root_.id) (h2.elim (hen _ _) _root_.id) h3 ((hmid _).mp (c _ b))
  · intro h
    obtain ⟨h1, h2, h3, h4⟩ := of_fits h
    refine ⟨⟨⟨.inr h1, .inr h2⟩, h3⟩, ?_⟩
    obtain ⟨f, hf, _⟩ := go_complete got (got.length - pl.length) (Nat.sub_le _ _) _ p0.length p0.length (got.length - pl.length) (Nat.le_refl _) (by omega) (Nat.le_refl _) ((hmid _).mpr h4)
    rw [Nat.min_eq_left (Nat.sub_le _ _), hf]; rfl
end Mine

end

section -- Cel
open PySem PySem.W PySem.Calls PyProof.Rows Builtin Builtin.Str
set_option maxRecDepth 100000
set_option maxHeartbeats 4000000
namespace Mine
/-- a def of the text whose block has cells is entered -/
theorem enterCells {prog : Program} {w : World} {A : Around} {s : Shared} {Q : Value → Shared → Prop} {E : Value → Shared → Prop} {K : Params → Frag} {p : Program} {loose : List Str} {mean : ExcName → Option Value} {mg mb : Str → Option Value}
    {oc : Value} {od : Option Addr} {osl : Array (Option Value)} {name : Str} {params : Arguments} {body : List Stmt} {scope : Scope} {pm cd doc ct dV kV : Value} {an : Option Addr} {f : Addr} {args : List Value} {binds : List (Str × Value)}
    (X : (K w.params).In s.heap) (T : Top p loose mean mg mb s.heap) (hroom : A.depth < recursionLimit)
    (ho : (K w.params).lookup f = some ⟨oc, od, .func (fnOf name name params body scope dV kV doc pm an cd ct), osl⟩) (hcd : codeIn (K w.params) cd name = true)
    (hbind : bindArgs (fnOf name name params body scope dV kV doc pm an cd ct) ⟨args, []⟩ = pure binds)
    (hkind : (binds.all fun y => scope.names.lookup y.1 == some .local || scope.names.lookup y.1 == some .cell) = true)
    (hnd : ((cellsFrom 0 scope.names []).map (·.1)).Nodup)
    (h : ∀ h₁ tk cells, Fr s.heap s.heap.objs.size h₁ (bindL (envOfC name scope s.heap.objs.size f cd).kindOf binds fun _ => none) → News s.heap s.heap.objs.size h₁ cells →
      CellsAre (bindC (envOfC name scope s.heap.objs.size f cd).kindOf binds fun _ => none) (cellsFrom (s.heap.objs.size + 1) scope.names []) cells →
      wpAny (model prog w) (A.deeper (envOfC name scope s.heap.objs.size f cd)) (execs body (envOfC name scope s.heap.objs.size f cd))
        (fun fl s' => Q (match fl with | .ret v => v | _ => .none) s') (fun _ _ => False) { s with heap := h₁, toks := tk })
    (hco : scope.isCoroutine = false) (hgen : scope.isGenerator = false) (hk : scope.kind = .function) :
    wpAny (model prog w) A (call (.ref f) args) Q E s := by
  refine wpAny_call (codeAny_call_function (fd := fnOf name name params body scope dV kV doc pm an cd ct) (body := body) hroom (X _ _ ho) rfl hco hgen rfl (codeRec_of X hcd) ?_)
  rw [hbind]
  refine wpAny_pure ?_
  refine wpAny_newFunctionEnv_cells hk (kindsX hkind _) fun env' he s' x => ?_
  subst he
  refine ⟨T.nolimit.keeps x.toInCall.keep, codeAny_func ?_⟩
  obtain ⟨h₁, tk, rfl, _⟩ := x.done
  have hk₁ := x.toInCall.keep
  obtain ⟨cells, NC, Y⟩ := Cl.news (h₀ := s.heap) (Nat.le_refl _) fun n c hm => ⟨x.cell n c (lookup_of_mem_nodup (cellsFrom_names scope.names 0 (s.heap.objs.size + 1) [] [] rfl ▸ hnd) hm), x.above n c hm⟩
  exact wpAny_mono (h h₁ tk cells ⟨x.toInCall.ns, hk₁, Nat.le_refl _⟩ NC Y) (fun fl s' hl => hl) fun _ _ y => y.elim

theorem enterCellsC {prog : Program} {w : World} {A : Around} {s : Shared} {Q : Value → Shared → Prop} {E : Value → Shared → Prop} {K : Params → Frag} {p : Program} {loose : List Str} {mean : ExcName → Option Value} {mg mb : Str → Option Value}
    {oc : Value} {od : Option Addr} {osl : Array (Option Value)} {name : Str} {params : Arguments} {body : List Stmt} {scope : Scope} {pm cd doc ct dV kV : Value} {an : Option Addr} {f : Addr} {args : List Value} {binds : List (Str × Value)}
    (X : (K w.params).In s.heap) (T : Top p loose mean mg mb s.heap) (hroom : A.depth < recursionLimit)
    (ho : (K w.params).lookup f = some ⟨oc, od, .func (fnOf name name params body scope dV kV doc pm an cd ct), osl⟩) (hcd : codeIn (K w.params) cd name = true)
    (hbind : bindArgs (fnOf name name params body scope dV kV doc pm an cd ct) ⟨args, []⟩ = pure binds)
    (hkind : (binds.all fun y => scope.names.lookup y.1 == some .local || scope.names.lookup y.1 == some .cell) = true)
    (hnd : ((cellsFrom 0 scope.names []).map (·.1)).Nodup)
    (h : ∀ h₁ tk cells, Fr s.heap s.heap.objs.size h₁ (bindL (envOfC name scope s.heap.objs.size f cd).kindOf binds fun _ => none) → News s.heap s.heap.objs.size h₁ cells →
      CellsAre (bindC (envOfC name scope s.heap.objs.size f cd).kindOf binds fun _ => none) (cellsFrom (s.heap.objs.size + 1) scope.names []) cells →
      wpC (model prog w) (A.deeper (envOfC name scope s.heap.objs.size f cd)) (execs body (envOfC name scope s.heap.objs.size f cd))
        (fun fl s' => Q (match fl with | .ret v => v | _ => .none) s') (fun _ _ => False) { s with heap := h₁, toks := tk })
    (hco : scope.isCoroutine = false) (hgen : scope.isGenerator = false) (hk : scope.kind = .function) :
    wpC (model prog w) A (call (.ref f) args) Q E s := by
  refine wpC_call (codeC_call_function (fd := fnOf name name params body scope dV kV doc pm an cd ct) (body := body) hroom (X _ _ ho) rfl hco hgen rfl (codeRec_of X hcd) ?_)
  rw [hbind]
  refine wpAny_pure ?_
  refine wpAny_newFunctionEnv_cells hk (kindsX hkind _) fun env' he s' x => ?_
  subst he
  refine ⟨T.nolimit.keeps x.toInCall.keep, codeC_func ?_⟩
  obtain ⟨h₁, tk, rfl, _⟩ := x.done
  have hk₁ := x.toInCall.keep
  obtain ⟨cells, NC, Y⟩ := Cl.news (h₀ := s.heap) (Nat.le_refl _) fun n c hm => ⟨x.cell n c (lookup_of_mem_nodup (cellsFrom_names scope.names 0 (s.heap.objs.size + 1) [] [] rfl ▸ hnd) hm), x.above n c hm⟩
  exact wpC_mono (h h₁ tk cells ⟨x.toInCall.ns, hk₁, Nat.le_refl _⟩ NC Y) (fun fl s' hl => hl) fun _ _ y => y
end Mine

end

section -- Dl
open PySem PySem.W PySem.Calls PyProof.Rows
set_option maxRecDepth 100000
set_option maxHeartbeats 4000000
namespace Mine
section
variable {prog : Program} {w : World} {A : Around} {E : Value → Shared → Prop} {s : Shared} {h₀ : Heap} {L D : Addr} {m : Str → Option Value} {news : List (Addr × Obj)} {ws : List Value} {ns : List Int} {value slice : PySem.Expr} {u u' : Tok} {Q : Value → Shared → Prop}
theorem item_int {k : Int} (F : Fr h₀ L s.heap m) (hl : h₀.IsList D ws.toArray) (hi : IntsAre ws ns) (h0 : 0 ≤ k) (h1 : k < ns.length) (hz : ns.length ≤ 1000)
    (h : ∀ n t, Q (.int n t) s)
    (hs : subscripted slice false (.ref D) (.int k u) = operate [.ref D, .int k u] (getItem (.ref D) (.int k u)) := by with_unfolding_all rfl) :
    wpAny (model prog w) A (subscriptTail value slice (.ref D) (.int k u)) Q E s := by
  have hlen : ws.length = ns.length := hi.length
  obtain ⟨v, hv⟩ : ∃ v, ws[k.toNat]? = some v := ⟨_, List.getElem?_eq_getElem (show k.toNat < ws.length by omega)⟩
  obtain ⟨n, t, rfl, _⟩ := IntsAre.at hi _ v hv
  exact item_litK (Fr.lst F hl) h0 (by omega) hv (h n t) hs
theorem slice_mod {x n c : Int} (F : Fr h₀ L s.heap m) (N : News h₀ L s.heap news) (hl : h₀.IsList D ws.toArray) (hi : IntsAre ws ns) (h0 : 0 ≤ x) (hc : 0 < c) (hz : ns.length ≤ 1000)
    (h : ∀ D' zs ms h', IntsAre zs ms → ms.length ≤ c.toNat → Fr h₀ L h' m → News h₀ L h' ((D', W.listOf zs.toArray 0) :: news) → (∀ p ∈ news, p.1 < D') → (∀ b o, s.heap.get? b = some o → h'.get? b = some o) → Q (.ref D') { s with heap := h' })
    (hs : subscripted slice false (.ref D) (.ref s.heap.objs.size) = operate [.ref s.heap.objs.size, .ref D] (getItem (.ref D) (.ref s.heap.objs.size))) (ht : ∀ r, letTemporaryGo value (.ref D) r = pure ()) :
    wpAny (model prog w) A (subscriptTail value slice (.ref D) (.ref s.heap.objs.size)) Q E { s with heap := s.heap.push { cls := .type "slice", data := .fields #[.int x u, .int (x + n.fmod c) u', .none] } } := by
  have hf := Int.fmod_nonneg_of_pos n hc
  have hf2 := Int.fmod_lt_of_pos n hc
  have hm := kmk_run (x := x) (y := x + n.fmod c) hi h0 (by omega)
  have hl' := Fr.lst F hl
  have hsz : ws.toArray.size ≤ sizeLine := by have : sizeLine = 16777216 := (by decide); rw [List.size_toArray, hi.length]; omega
  have pl : IsPart (.int x u) (some x) := .int _ _
  have pu : IsPart (.int (x + n.fmod c) u') (some (x + n.fmod c)) := .int _ _
  refine subscriptTail_ops (Heap.IsList.typeIs (s := { s with heap := s.heap.push { cls := .type "slice", data := .fields #[.int x u, .int (x + n.fmod c) u', .none] } }) (hl'.push _)) list_getitem_lookup
    (wpAny_getItem_list_slice (hl'.push _) (Heap.IsSliceOf.new ..) pl pu .none (by simp) ?_ hsz) hs ht
  have N1 := News.push (F.push { cls := .type "slice", data := .fields #[.int x u, .int (x + n.fmod c) u', .none] }) (N.grown fun _ _ e => Heap.get?_push_of_some _ e) { cls := .type "list", data := .seq (slicePick ws.toArray (some x) (some (x + n.fmod c)) none) }
  rw [Heap.size_push] at N1
  show Q (.ref (s.heap.push _).objs.size) _
  rw [Heap.size_push]
  refine h _ _ _ _ hm ?_ ((F.push _).push _) ?_ (fun p hp => Nat.lt_succ_of_lt (Heap.lt_size (N p hp).1)) fun b o e => Heap.get?_push_of_some _ (Heap.get?_push_of_some _ e)
  · rw [List.length_take]; omega
  · rw [Array.toArray_toList]; exact N1
end
end Mine

end

section -- Cl
open PySem PySem.W PySem.Calls PyProof.Rows
set_option maxRecDepth 100000
set_option maxHeartbeats 4000000
namespace Mine
/-- what a comprehension over a list asks of the list -/
def CompL (prog : Program) (w : World) (A : Around) (env : Env) (scope : Scope) (cl : List (Str × Addr)) (x : Str) (elt : Expr) (F : Value → Value → Prop) (Q : Value → Shared → Prop) (xv : Value) (s₁ : Shared) : Prop :=
  True → ∃ (l : Addr) (items : Array Value), xv = .ref l ∧ s₁.heap.IsList l items ∧ items.size ≤ sizeLine ∧
    (∀ (C : Addr) (i : Nat) (v : Value) (s₃ : Shared) (m₃ : Str → Option Value), s₁.heap.objs.size ≤ C → items[i]? = some v → s₃.heap.Ns C m₃ → m₃ x = some v → (∀ b o, s₁.heap.get? b = some o → s₃.heap.get? b = some o) →
      wpC (model prog w) A (eval elt (compEnvC scope cl C env)) (fun y s₄ => F v y ∧ Keeps s₃ s₄) (fun _ _ => False) s₃) ∧
    (∀ (D : Addr) (h' : Heap) (tk : Nat) (ys : Array Value), s₁.heap.get? D = none → h'.PlainList D ys → Paired F items.toList ys.toList → (∀ b o, s₁.heap.get? b = some o → h'.get? b = some o) → Q (.ref D) { s₁ with heap := h', toks := tk })
theorem wpC_ListComp_L {prog : Program} {w : World} {A : Around} {E : Value → Shared → Prop} {s : Shared} {env : Env} {elt iter : Expr} {x : Str} {px : Pos} {scope : Scope} {cl : List (Str × Addr)} {pos : Pos} {Q : Value → Shared → Prop} (F : Value → Value → Prop)
    (hh : A.handled = none) (hclos : closureFor scope env = pure cl) (hcell : ∀ y ∈ scope.names, y.2 ≠ .cell) (hkind : scope.kind = .function)
    (hnames : ∀ y ∈ scope.names, y.2 = .local → scope.names.lookup y.1 = some .local) (hx : scope.names.lookup x = some .local)
    (h : wpAny (model prog w) A (eval iter env) (CompL prog w A env scope cl x elt F Q) E s)
    (hs : ∀ x, foldedSetIterable iter env x = pure x := by intro _; rfl) :
    wpC (model prog w) A (eval (.ListComp elt [⟨.Name x px, iter, [], 0⟩] scope pos) env) Q E s := wpC_ListComp_walk F hh hclos hcell hkind hnames hx (wpAny_mono h (fun _ _ q => q trivial) fun _ _ e => e) hs
end Mine

end

section -- Ab
open PySem PySem.W PySem.Calls PyProof.Rows
set_option maxRecDepth 100000
set_option maxHeartbeats 4000000
namespace Mine
def Ab (x : Str) : Prop := ∀ c ∈ x.cps, c = 97 ∨ c = 98
theorem ab_item {k : Int} (h0 : 0 ≤ k) (h1 : k < 2) : ∃ c, (seqIndex? k (Str.ofString "ab").length).bind ((Str.ofString "ab").cps[·]?) = some c ∧ (c = 97 ∨ c = 98) := by
  have : k = 0 ∨ k = 1 := by omega
  rcases this with rfl | rfl
  · exact ⟨97, by decide, .inl rfl⟩
  · exact ⟨98, by decide, .inr rfl⟩
theorem str_ab {prog : Program} {w : World} {A : Around} {E : Value → Shared → Prop} {s : Shared} {value slice : PySem.Expr} {k : Int} {t u : Tok} {Q : Value → Shared → Prop} (h0 : 0 ≤ k) (h1 : k < 2)
    (h : ∀ x t' k', Ab x → x.length = 1 → Q (.str x t') { s with toks := k' })
    (hs : subscripted slice false (.str (Str.ofString "ab") t) (.int k u) = operate [.str (Str.ofString "ab") t, .int k u] (getItem (.str (Str.ofString "ab") t) (.int k u)) := by with_unfolding_all rfl) :
    wpAny (model prog w) A (subscriptTail value slice (.str (Str.ofString "ab") t) (.int k u)) Q E s := by
  obtain ⟨c, hc, hab⟩ := ab_item h0 h1
  refine tail_any (typeIs_str _ _ _) F.slot_str_getitem.lookup (P.getItem_str ?_ hc (h _ _ _ ?_ rfl)) hs
  · simp only [Bool.or_eq_false_iff, decide_eq_false_iff_not]
    omega
  · intro d hd
    have : d = c := by simpa using hd
    rw [this]; exact hab

theorem ab_append {x y : Str} (hx : Ab x) (hy : Ab y) : Ab (x ++ y) := fun c hc => by
  rw [Str.cps_append, Array.mem_append] at hc
  exact hc.elim (hx c) (hy c)
theorem ab_empty : Ab (Str.ofString "") := fun c hc => by
  have e : (Str.ofString "").cps = #[] := rfl
  rw [e] at hc
  simp at hc
theorem ab_join : ∀ texts : List Str, (∀ x ∈ texts, Ab x) → Ab (Str.join (Str.ofString "") texts)
  | [], _ => ab_empty
  | [x], h => h x (List.mem_cons_self ..)
  | x :: y :: r, h => by
    have h2 := ab_join (y :: r) fun z hz => h z (List.mem_cons_of_mem _ hz)
    show Ab (x ++ Str.ofString "" ++ Str.join (Str.ofString "") (y :: r))
    exact ab_append (ab_append (h x (List.mem_cons_self ..)) ab_empty) h2
theorem sum_le {l : List Nat} {B : Nat} (h : ∀ x ∈ l, x ≤ B) : l.sum ≤ l.length * B := by
  induction l with
  | nil => simp
  | cons a l ih =>
    have h1 := h a (List.mem_cons_self ..)
    have h2 := ih fun x hx => h x (List.mem_cons_of_mem _ hx)
    simp only [List.sum_cons, List.length_cons, Nat.succ_mul]
    omega
theorem join_made {texts : List Str} {n : Nat} (h : ∀ x ∈ texts, Ab x ∧ x.length = 1) (hn : texts.length ≤ n) (hn2 : n ≤ 1000) :
    JoinOk (Str.ofString "") texts = true ∧ Ab (Txt.join (Str.ofString "") texts) ∧ (Txt.join (Str.ofString "") texts).length ≤ n := by
  have h0 : (Str.ofString "").length = 0 := rfl
  have hs : (texts.map (·.length)).sum ≤ texts.length * 1 := by
    have := sum_le (l := texts.map (·.length)) (B := 1) fun k hk => by
      obtain ⟨x, hx, rfl⟩ := List.mem_map.mp hk
      exact Nat.le_of_eq (h x hx).2
    simpa using this
  refine ⟨?_, ?_, ?_⟩
  · unfold JoinOk
    rw [StrLaws.joinTotal, h0]
    have : Builtin.Str.tooLong ((texts.map (·.length)).sum + texts.length * 0) = false := by
      unfold Builtin.Str.tooLong
      have : sizeLine = 16777216 := by decide
      simp only [decide_eq_false_iff_not]
      omega
    rw [this]; rfl
  · show Ab (Builtin.Str.glued _ _)
    rw [StrLaws.glued_eq_join]
    exact ab_join _ fun x hx => (h x hx).1
  · show (Builtin.Str.glued _ _).length ≤ n
    rw [StrLaws.glued_eq_join]
    have := StrLaws.join_length_le (Str.ofString "") texts
    rw [h0] at this
    omega
end Mine

end

section -- Dr
open PySem PySem.W PySem.Calls PyProof.Rows Builtin Builtin.Str
set_option maxRecDepth 100000
set_option maxHeartbeats 8000000
namespace Mine
theorem fill5 : (PySem.Challenge.rw_gk0002_01, hd.heap_39) = (PySem.Challenge.rw_gk0002_01, hd.heap_39) := by k_fill; rfl
def Halt2 (P : Prop) : Prop := P
theorem Halt2.out {P : Prop} (h : Halt2 P) : P := h
local macro_rules | `(tactic| walk_at "exec Assign cons ListComp") => `(tactic| refine Halt2.out ?_)
local macro_rules | `(tactic| walk_at "eval ListComp") => `(tactic| refine Halt2.out ?_)
local macro_rules | `(tactic| walk_at "pyIter ref") => `(tactic| refine Halt2.out ?_)
def FC1 (_ y : Value) : Prop := ∃ x t, y = .str x t ∧ Ab x ∧ x.length = 1
def FP (_ y : Value) : Prop := ∃ x t, y = .str x t ∧ Ab x ∧ x.length ≤ 3
theorem paired_texts {F : Value → Value → Prop} {R : Str → Prop} (hF : ∀ v y, F v y → ∃ x t, y = .str x t ∧ R x) : ∀ {vs ys : List Value}, Paired F vs ys → ∃ l : List (Str × Tok), ys = strValues l ∧ l.length = vs.length ∧ ∀ p ∈ l, R p.1
  | _, _, .nil => ⟨[], rfl, rfl, fun p hp => nomatch hp⟩
  | _, _, .cons h r => by
    obtain ⟨x, t, rfl, hx⟩ := hF _ _ h
    obtain ⟨l, rfl, hl, hp⟩ := paired_texts hF r
    refine ⟨(x, t) :: l, rfl, by simp [hl], fun p h' => ?_⟩
    rcases List.mem_cons.mp h' with rfl | h'
    · exact hx
    · exact hp p h'
theorem comp_frame {base h : Heap} {C D : Addr} {items : Array Value} {m : Str → Option Value} (_ : base.IsList D items) (hns : h.Ns C m) (hk : ∀ b o, base.get? b = some o → h.get? b = some o) (hC : base.objs.size ≤ C) : Fr base C h m ∧ News base C h [] :=
  ⟨⟨hns, hk, hC⟩, News.nil⟩
theorem size_small {zs : List Value} {ms : List Int} {c : Int} (hZ : IntsAre zs ms) (hl : ms.length ≤ c.toNat) (hc : c ≤ 1000) : zs.toArray.size ≤ sizeLine := by
  have : sizeLine = 16777216 := by decide
  rw [List.size_toArray, hZ.length]
  omega
theorem ints_at {zs : List Value} {ms : List Int} {j : Nat} {v : Value} (hZ : IntsAre zs ms) (hv : zs.toArray[j]? = some v) : ∃ n t, v = .int n t := by
  obtain ⟨n, t, e, _⟩ := IntsAre.at hZ j v (by simpa using hv)
  exact ⟨n, t, e⟩
theorem fmod3 (n : Int) : 0 ≤ n.fmod 3 ∧ n.fmod 3 < 3 := ⟨Int.fmod_nonneg_of_pos _ (by decide), Int.fmod_lt_of_pos _ (by decide)⟩
theorem kind_local {scope : Scope} {cl : List (Str × Addr)} {C : Addr} {env : Env} {x : Str} (h : scope.names.lookup x = some .local) : (compEnvC scope cl C env).kindOf x = some .local := lookup_relabel_local h
theorem lookup_relabel_cell {env : Env} : ∀ {names : List (Str × NameKind)} {x : Str}, names.lookup x = some .free → env.scope.kind = .function → env.kindOf x = some .cell →
    (names.map fun (n, k) => if (k == NameKind.free && env.scope.kind == .function && env.kindOf n == some .cell) then (n, NameKind.cell) else (n, k)).lookup x = some .cell
  | [], _, h, _, _ => by simp at h
  | (n, k) :: r, x, h, hk, he => by
    have ih := @lookup_relabel_cell env r x
    show List.lookup x ((if (k == NameKind.free && env.scope.kind == .function && env.kindOf n == some .cell) = true then (n, NameKind.cell) else (n, k)) :: _) = _
    cases hx : x == n with
    | true =>
      simp only [List.lookup_cons, hx] at h
      cases h
      have : n = x := (beq_iff_eq.mp hx).symm
      subst this
      rw [if_pos (by rw [hk, he]; rfl)]
      simp [List.lookup_cons]
    | false =>
      simp only [List.lookup_cons, hx] at h
      by_cases hc : (k == NameKind.free && env.scope.kind == .function && env.kindOf n == some .cell) = true
      · rw [if_pos hc]; simp only [List.lookup_cons, hx]; exact ih h hk he
      · rw [if_neg hc]; simp only [List.lookup_cons, hx]; exact ih h hk he
theorem kind_cell {scope : Scope} {cl : List (Str × Addr)} {C : Addr} {env : Env} {x : Str} (h : scope.names.lookup x = some .free) (hk : env.scope.kind = .function) (he : env.kindOf x = some .cell) : (compEnvC scope cl C env).kindOf x = some .cell := lookup_relabel_cell h hk he
theorem name_comp {M : Model} {A : Around} {E : Value → Shared → Prop} {s : Shared} {scope : Scope} {cl : List (Str × Addr)} {C : Addr} {env : Env} {x : Str} {pos : Pos} {v : Value} {h₀ : Heap} {m : Str → Option Value} {Q : Value → Shared → Prop}
    (hl : scope.names.lookup x = some .local) (hd : (x == ("__debug__" : Str)) = false) (hk : scope.kind = .function) (F : Fr h₀ C s.heap m) (hm : m x = some v) (h : Q v s) :
    wpAny M A (PySem.eval (.Name x pos) (compEnvC scope cl C env)) Q E s := wpAny_Name (wpAny_loadName_local hk (kind_local hl) F.ns hm h) hd
theorem name_comp_cell {M : Model} {A : Around} {E : Value → Shared → Prop} {s : Shared} {scope : Scope} {cl : List (Str × Addr)} {C c : Addr} {env : Env} {x : Str} {pos : Pos} {v : Value} {h₀ : Heap} {m : Str → Option Value} {Q : Value → Shared → Prop}
    (hl : scope.names.lookup x = some .free) (hd : (x == ("__debug__" : Str)) = false) (hk : scope.kind = .function) (hek : env.scope.kind = .function) (he : env.kindOf x = some .cell) (hc : cl.lookup x = some c) (F : Fr h₀ C s.heap m) (hv : h₀.IsCell c (some v)) (h : Q v s) :
    wpAny M A (PySem.eval (.Name x pos) (compEnvC scope cl C env)) Q E s := wpAny_Name (wpAny_loadName_cell hk (kind_cell hl hek he) hc (hv.keeps F.keep) h) hd
local macro_rules | `(tactic| walk_at "eval Name") => `(tactic| ((with_reducible show wpAny _ _ (PySem.eval (Expr.Name _ _) (compEnvC _ _ _ _)) _ _ _); k_dflt (refine' name_comp ?n1 ?n2 ?n3 ?n4 ?n5 ?_; (case n1 => decide); (case n2 => decide); (case n3 => rfl); (case n4 => k_asm); (case n5 => assumption))))
local macro_rules | `(tactic| walk_at "eval Name") => `(tactic| ((with_reducible show wpAny _ _ (PySem.eval (Expr.Name _ _) (compEnvC _ _ _ _)) _ _ _); k_dflt (refine' name_comp_cell ?n1 ?n2 ?n3 ?n4 ?n5 ?n6 ?n7 ?n8 ?_; (case n1 => decide); (case n2 => decide); (case n3 => rfl); (case n4 => rfl); (case n5 => rfl); (case n6 => rfl); (case n7 => k_asm); (case n8 => assumption))))
local macro_rules | `(tactic| walk_at "subscriptTail Name BinOp ref int") => `(tactic| (k_dflt (refine item_int (by k_asm) (by assumption) (by assumption) (by omega) (by omega) (by omega) ?_ (by with_unfolding_all rfl)); intro n' t'))
local macro_rules | `(tactic| walk_at "subscriptTail Name Slice ref ref") => `(tactic| (k_dflt (refine slice_mod (by k_asm) (by k_asm) (by assumption) (by assumption) (by omega) (by decide) (by omega) ?_ (by with_unfolding_all rfl) (by kmk_pure)); intro D' zs ms h' hI' hm' F' N' l1 kk'))
theorem keeps_refl (s : Shared) : Keeps s s := ⟨s.heap, s.toks, rfl, fun _ _ e => e⟩
theorem keeps_step {s S : Shared} {k : Nat} (h : Keeps s S) : Keeps s { S with toks := k } := by
  obtain ⟨h', tk, rfl, hk⟩ := h
  exact ⟨h', k, rfl, hk⟩
theorem keeps_heap {s S : Shared} {k : Nat} {h' : Heap} (h : Keeps s S) (hk : ∀ b o, S.heap.get? b = some o → h'.get? b = some o) : Keeps s { S with heap := h', toks := k } := by
  obtain ⟨h1, tk, rfl, hk1⟩ := h
  exact ⟨h', k, rfl, fun b o e => hk b o (hk1 b o e)⟩
theorem keeps_heap0 {s S : Shared} {h' : Heap} (h : Keeps s S) (hk : ∀ b o, S.heap.get? b = some o → h'.get? b = some o) : Keeps s { S with heap := h' } := keeps_heap h hk
theorem plain_strs {h : Heap} {D : Addr} {ys : Array Value} {l : List (Str × Tok)} (hp : h.PlainList D ys) (e : ys.toList = strValues l) : h.IsList D (strValues l).toArray := by
  have : ys = (strValues l).toArray := by rw [← e]
  rw [← this]; exact hp.isList
theorem after_comp {base h1 h' : Heap} {Lc D : Addr} {m m' : Str → Option Value} {o od : Obj} {news : List (Addr × Obj)} (F : Fr base Lc h1 m) (N : News base Lc h1 news) (hns : h'.Ns Lc m') (hpl : h'.get? D = some od)
    (hD : (h1.push o).get? D = none) (hk : ∀ b o', b ≠ Lc → b ∉ [h1.objs.size] → (h1.push o).get? b = some o' → h'.get? b = some o') : Fr base Lc h' m' ∧ News base Lc h' ((D, od) :: news) := by
  have up : ∀ b o', b ≠ Lc → h1.get? b = some o' → h'.get? b = some o' := fun b o' hb e =>
    hk b o' hb (fun hm => Nat.ne_of_lt (Heap.lt_size e) (List.mem_singleton.mp hm)) (Heap.get?_push_of_some _ e)
  refine ⟨⟨hns, fun b o' e => up b o' (Nat.ne_of_lt (Nat.lt_of_lt_of_le (Heap.lt_size e) F.above)) (F.keep b o' e), F.above⟩, fun p hp => ?_⟩
  rcases List.mem_cons.mp hp with rfl | hp
  · refine ⟨hpl, ?_, ?_⟩
    · rintro rfl
      obtain ⟨ol, _, _, hol, _⟩ := F.ns
      rw [Heap.get?_push_of_some _ hol] at hD
      cases hD
    · cases e : base.get? D with
      | none => rfl
      | some o' =>
        rw [Heap.get?_push_of_some _ (F.keep D o' e)] at hD
        cases hD
  · exact ⟨up _ _ (N p hp).2.1 (N p hp).1, (N p hp).2⟩
theorem fp_texts {vs : List Value} {ys : Array Value} (h : Paired FP vs ys.toList) : ∃ l, ys = (strValues l).toArray ∧ l.length = vs.length ∧ ∀ p ∈ l, Ab p.1 ∧ p.1.length ≤ 3 := by
  obtain ⟨l, h1, h2, h3⟩ := paired_texts (R := fun x => Ab x ∧ x.length ≤ 3) (fun v y h => h) h
  exact ⟨l, by rw [← h1], h2, h3⟩
theorem len9 (n : Int) (nsr : List Int) (k : Nat) : (List.take (Min.min (10 + n.fmod 9).toNat k - 10) (List.drop 10 nsr)).length ≤ Int.toNat 9 := by
  have h1 := Int.fmod_nonneg_of_pos n (b := 9) (by decide)
  have h2 := Int.fmod_lt_of_pos n (b := 9) (by decide)
  have h3 : Int.toNat 9 = 9 := rfl
  rw [List.length_take]
  omega
def Same (s S : Shared) : Prop := ∃ h tk, S = { s with heap := h, toks := tk }
theorem same_refl (s : Shared) : Same s s := ⟨s.heap, s.toks, rfl⟩
theorem same_tok {s S : Shared} {k : Nat} (h : Same s S) : Same s { S with toks := k } := by obtain ⟨h', tk, rfl⟩ := h; exact ⟨h', k, rfl⟩
theorem same_heap {s S : Shared} {h' : Heap} (h : Same s S) : Same s { S with heap := h' } := by obtain ⟨h1, tk, rfl⟩ := h; exact ⟨h', tk, rfl⟩
theorem same_both {s S : Shared} {h' : Heap} {k : Nat} (h : Same s S) : Same s { S with heap := h', toks := k } := by obtain ⟨h1, tk, rfl⟩ := h; exact ⟨h', k, rfl⟩
def IterF (s : Shared) (D : Addr) (od : Obj) (xv : Value) (s₁ : Shared) : Prop := ∃ (Dz : Addr) (zs : List Value) (ms : List Int), xv = .ref Dz ∧ Same s s₁ ∧ (∀ b o, s.heap.get? b = some o → s₁.heap.get? b = some o) ∧ s₁.heap.get? D = some od ∧ s.heap.get? D = none ∧
  s₁.heap.IsList Dz zs.toArray ∧ IntsAre zs ms ∧ ms.length ≤ Int.toNat 9
/-- what the iterator of a comprehension is left with -/
def IterP (s₀ : Shared) (xv : Value) (s₁ : Shared) : Prop := ∃ (D : Addr) (zs : List Value) (ms : List Int), xv = .ref D ∧ s₁.heap.IsList D zs.toArray ∧ IntsAre zs ms ∧ ms.length ≤ Int.toNat 3 ∧ Keeps s₀ s₁
theorem fmod2 (n : Int) : 0 ≤ n.fmod 2 ∧ n.fmod 2 < 2 := ⟨Int.fmod_nonneg_of_pos _ (by decide), Int.fmod_lt_of_pos _ (by decide)⟩
local macro_rules | `(tactic| walk_at "subscriptTail Constant BinOp str int") => `(tactic| (k_dflt (refine str_ab (fmod2 _).1 (fmod2 _).2 ?_ (by with_unfolding_all rfl)); intro x' t' k' hx' hx1'))
theorem fc1_texts {items ys : Array Value} (h : Paired FC1 items.toList ys.toList) : ∃ l, ys.toList = strValues l ∧ l.length = items.size ∧ ∀ p ∈ l, Ab p.1 ∧ p.1.length = 1 := by
  obtain ⟨l, h1, h2, h3⟩ := paired_texts (R := fun x => Ab x ∧ x.length = 1) (fun v y h => h) h
  exact ⟨l, h1, by simpa using h2, h3⟩
theorem dr_join {zs : List Value} {ms : List Int} {ys : Array Value} {c : Int} {h : Heap} {D : Addr} (hZ : IntsAre zs ms) (hZl : ms.length ≤ c.toNat) (hc : c ≤ 1000) (hF : Paired FC1 zs.toArray.toList ys.toList) (hp : h.PlainList D ys) :
    ∃ l : List (Str × Tok), h.IsList D (strValues l).toArray ∧ JoinOk (Str.ofString "") (l.map (·.1)) = true ∧ Ab (Txt.join (Str.ofString "") (l.map (·.1))) ∧ (Txt.join (Str.ofString "") (l.map (·.1))).length ≤ c.toNat := by
  obtain ⟨l, hys, hll, hl2⟩ := fc1_texts hF
  have hll3 : (l.map (·.1)).length ≤ c.toNat := by
    rw [List.length_map, hll, List.size_toArray, hZ.length]; exact hZl
  obtain ⟨j1, j2, j3⟩ := join_made (fun x hx => by obtain ⟨p, hp, rfl⟩ := List.mem_map.mp hx; exact hl2 p hp) hll3 (by omega)
  exact ⟨l, plain_strs hp hys, j1, j2, j3⟩
theorem dr_call {w : World} {mean : ExcName → Option Value} {mg mb : Str → Option Value} {S : Addr} {vs : List Value} {ns : List Int}
    {dp un : Nat} {gd : Option (List Code)} {cn : Str} {cs : Scope} {a : Addr} {ccd : Value} {cl : List (Str × Addr)} {outer : List Env} {L : Addr} {s : Shared} {Q E : Value → Shared → Prop}
    (hdp : dp + 1 < recursionLimit) (hu : un + 8 < cLine) (X : (hd.heap_39 w.params).In s.heap) (T : Top hd.view_39 [] mean mg mb s.heap)
    (hS : s.heap.IsList S vs.toArray) (hi : IntsAre vs ns) (hz : ns.length ≤ 63)
    (hret : ∀ R P l word tw nD h' tk, (∀ b o, s.heap.get? b = some o → h'.get? b = some o) → 2 ≤ l.length → l.length ≤ 4 → (∀ p ∈ l, Ab p.1 ∧ p.1.length ≤ 3) → Ab word → word.length ≤ 9 →
      h'.get? R = some { cls := .type "tuple", data := .seq #[.ref P, .str word tw] } → h'.get? P = some { cls := .type "list", data := .seq (strValues l).toArray nD } → s.heap.get? P = none → s.heap.get? R = none → P ≠ R → Q (.ref R) { s with heap := h', toks := tk }) :
      wpC (model PySem.Challenge.pw_gk0002_01 w) (ktrTop dp un gd cn cs L a ccd cl outer) (call (.ref 40) [.ref S]) Q E s := by
  k_dflt (refine' enterCellsC (K := hd.heap_39) (binds := [(Str.ofString "script", .ref S)]) X T ?h1 ?h2 ?h3 ?h4 ?h5 ?h6 ?h7 ?h8 ?h9 ?h10; (case h2 => k_is); (case h3 => k_is); (case h4 => rfl); (case h5 => rfl); (case h6 => decide +kernel); (case h8 => rfl); (case h9 => rfl); (case h10 => rfl))
  · show dp < recursionLimit; omega
  intro h₁ tk cells F' N' Y'
  k_cells Y'
  refine wpC_execs_step ?_
  k_steps
  have hlen : (List.take 18 (ns ++ (List.replicate 18 [(0 : Int)]).flatten)).length = 18 := by
    simp
  generalize (List.take 18 (ns ++ (List.replicate 18 [(0 : Int)]).flatten)) = nsr at *
  refine wpC_execs_cons (wpC_Assign_ListComp FP (cl := [(Str.ofString "row", s.heap.objs.size + 1)]) (by rfl) (by with_unfolding_all rfl) (by decide) (by rfl) (by decide) (by rfl) (by rfl) (by rfl) ?_)
  k_steps
  unfold Halt2
  rename IsRange _ _ _ _ _ _ _ _ => hR
  rename Fr _ _ _ _ => F1
  rename News _ _ _ _ => N1
  rename IntsAre _ nsr => hI
  obtain ⟨n, hn, hn2, hn4⟩ : ∃ n : Nat, 2 + (nsr.getD (Int.toNat 0) 0).fmod 3 = (n : Int) ∧ 2 ≤ n ∧ n ≤ 4 := by
    have := fmod3 (nsr.getD (Int.toNat 0) 0)
    refine ⟨(2 + (nsr.getD (Int.toNat 0) 0).fmod 3).toNat, ?_, ?_, ?_⟩ <;> omega
  rw [hn] at hR
  have hrow := News.isList N1 (List.Mem.head _)
  rename Obj.data _ = Data.cell _ => hdc
  have hcell : Heap.IsCell _ (s.heap.objs.size + 1) _ := ⟨_, (N1 _ (by k_mem : (s.heap.objs.size + 1, _) ∈ _)).1, hdc⟩
  refine wpAny_pyIter_range hR (small_of (by omega) (by omega) (by omega) (by omega) range_all (by omega) (by omega)) ?_
  rw [range_all]
  refine ⟨_, _, _, n, _, _, _, rfl, (Walks.range (by rfl) _ 0 1 n).bound, (by have : sizeLine = 16777216 := (by decide); omega), (by simpa using Heap.get?_push_size _ rfl), (fun b hb => by rw [List.mem_singleton.mp hb]; exact (Heap.size_push ..).symm ▸ Nat.lt_succ_self _), (fun hm => absurd F1.ns.lt ((List.mem_singleton.mp hm) ▸ Nat.lt_irrefl _)), (F1.push _).ns, ?_, ?_⟩
  · intro C i v s₃ m₃ hC hP hns hm hk
    obtain ⟨hi', t', rfl⟩ := hP
    have hk1 := fun b o e => hk b o (fun hm => Nat.ne_of_lt (Heap.lt_size e) (List.mem_singleton.mp hm)) (Heap.get?_push_of_some _ e)
    obtain ⟨FC, NC⟩ := comp_frame hrow hns hk1 (Nat.le_of_succ_le (by simpa [Heap.size_push] using hC))
    rw [show (0 + (i : Int) * 1) = (i : Int) by simp] at hm
    have hi4 : i < 4 := Nat.lt_of_lt_of_le hi' hn4
    clear F1 N1 hk hk1 hret hR hn hn2 hi' hn4 hdc hS hi hC hns
    refine wpC_MethodCall2 ?_
    k_steps
    refine wpC_callWith_method1 (wpC_ListComp_L FC1 (cl := []) (by rfl) (by rfl) (by decide) rfl (by decide) rfl (wpAny_mono (Q := IterP s₃) (E := fun _ _ => False) ?_ (fun xv s₁ hp => ?_) (fun _ _ e => e)))
    · k_steps
      rename_i n0 t0 D0 zs ms h0 hZ hZl F2 N2 l0 kk0
      refine ⟨D0, zs, ms, rfl, News.isList N2 (List.Mem.head _), hZ, hZl, ?_⟩
      refine keeps_heap0 ?_ kk0
      repeat (first | exact keeps_refl _ | refine keeps_step ?_)
    obtain ⟨D0, zs, ms, rfl, hlz, hZ, hZl, h0, tk0, rfl, kk0⟩ := hp
    refine fun _ => ⟨_, _, rfl, hlz, ?_, ?_, ?_⟩
    · exact size_small hZ hZl (by decide)
    · intro C2 j v s4 m4 hC2 hv hns2 hm2 hk2
      obtain ⟨nn, tt, rfl⟩ := ints_at hZ hv
      obtain ⟨FC2, NC2⟩ := comp_frame hlz hns2 hk2 hC2
      clear hk2 hv hns2 FC NC kk0
      refine wpC_any ?_
      iterate 9 walk1
      refine str_ab (fmod2 _).1 (fmod2 _).2 (fun x' t' k' hx' hx1' => ?_) (by with_unfolding_all rfl)
      refine ⟨⟨x', t', rfl, hx', hx1'⟩, ?_⟩
      repeat (first | exact keeps_refl _ | refine keeps_step ?_)
    · intro D2 h2 tk2 ys hD2 hpl2 hF2 hk2
      obtain ⟨l, j0, j1, j2, j3⟩ := dr_join hZ hZl (by decide) hF2 hpl2
      refine SC.join (l := l) j0 rfl j1 (fun t5 k5 => ⟨⟨_, t5, rfl, j2, j3⟩, ?_⟩)
      exact ⟨h2, _, rfl, fun b o e => hk2 b o (kk0 b o e)⟩
  · intro D h' tk' ys vs' hD hpl hl hP hF hns hk
    obtain ⟨l, rfl, hll, hl2⟩ := fp_texts hF
    obtain ⟨nD, hpl⟩ := hpl
    obtain ⟨FD, ND⟩ := after_comp F1 N1 hns hpl hD hk
    clear hk hD hns hP hF F1 N1 hR hpl
    refine wpC_execs_cons (wpC_Return_some (wpC_Tuple (wpC_items_cons (wpC_any ?_))))
    k_steps
    refine wpC_items_cons (wpC_MethodCall2 ?_)
    k_steps
    refine wpC_callWith_method1 (wpC_ListComp_L FC1 (cl := []) (by rfl) (by rfl) (by decide) rfl (by decide) rfl (wpAny_mono (Q := IterF s D { cls := .type "list", data := .seq (strValues l).toArray nD }) (E := fun _ _ => False) ?_ (fun xv s₁ hp => ?_) (fun _ _ e => e)))
    · k_steps
      rename_i D9 zs h9 F9 N9 hZ q1 q2 q3
      have hP := N9 _ (List.Mem.tail _ (List.Mem.head _))
      refine ⟨D9, zs, _, rfl, ?_, F9.keep, hP.1, hP.2.2, News.isList N9 (List.Mem.head _), hZ, len9 _ _ _⟩
      repeat (first | exact same_refl _ | refine same_tok ?_ | refine same_heap ?_ | refine same_both ?_)
    obtain ⟨D9, zs, ms, rfl, ⟨h9, tk9, rfl⟩, hkeep, hDo, hDn, hlz, hZ, hZl⟩ := hp
    refine fun _ => ⟨_, _, rfl, hlz, size_small hZ hZl (by decide), ?_, ?_⟩
    · intro C2 j v s4 m4 hC2 hv hns2 hm2 hk2
      obtain ⟨nn, tt, rfl⟩ := ints_at hZ hv
      obtain ⟨FC2, NC2⟩ := comp_frame hlz hns2 hk2 hC2
      clear hk2 hv hns2 hkeep
      refine wpC_any ?_
      iterate 6 walk1
      refine str_ab (fmod2 _).1 (fmod2 _).2 (fun x' t' k' hx' hx1' => ?_) (by with_unfolding_all rfl)
      refine ⟨⟨x', t', rfl, hx', hx1'⟩, ?_⟩
      repeat (first | exact keeps_refl _ | refine keeps_step ?_)
    · intro D2 h2 tk2 ys hD2 hpl2 hF2 hk2
      obtain ⟨lw, j0, j1, j2, j3⟩ := dr_join hZ hZl (by decide) hF2 hpl2
      refine SC.join (l := lw) j0 rfl j1 (fun t5 k5 => wpC_items_nil (wpAny_newTuple ?_ (show 2 ≤ sizeLine by decide)))
      have hlt := Heap.lt_size (hk2 _ _ hDo)
      have hup : ∀ b o, h2.get? b = some o → (h2.push { cls := .type "tuple", data := .seq #[.ref D, .str (Txt.join (Str.ofString "") (lw.map (·.1))) t5] }).get? b = some o := fun b o e => Heap.get?_push_of_some _ e
      exact hret h2.objs.size D l _ t5 nD _ _ (fun b o e => hup b o (hk2 b o (hkeep b o e))) (by omega) (by omega) hl2 j2 j3 (Heap.get?_push_size _ rfl) (hup _ _ (hk2 _ _ hDo)) hDn (by
        cases e : s.heap.get? h2.objs.size with
        | none => rfl
        | some o => exact absurd (Heap.lt_size (hk2 _ _ (hkeep _ _ e))) (Nat.lt_irrefl _)) (Nat.ne_of_lt hlt)
end Mine

end

section -- Sp
open PySem PySem.W PySem.Calls PyProof.Rows Builtin Builtin.Str
set_option maxRecDepth 100000
namespace Mine
open PySem.StrLaws (At subAt_eq occBody occ_eq found_iff)
/-! texts glued by three dots, and cut again -/
def J : List (List Nat) → List Nat
  | [] => []
  | [q] => q
  | q :: q' :: r => q ++ ([46, 46, 46] ++ J (q' :: r))
theorem L_append (x y : Str) : L (x ++ y) = L x ++ L y := by simp [L, PySem.Str.cps_append]
theorem L_dots : L dots = [46, 46, 46] := by decide
theorem L_join : ∀ ps : List Str, L (Txt.join dots ps) = J (ps.map L) := by
  intro ps
  show L (glued dots ps) = _
  rw [StrLaws.glued_eq_join]
  induction ps with
  | nil => rfl
  | cons p r ih =>
    cases r with
    | nil => rfl
    | cons q r =>
      show L (p ++ dots ++ Str.join dots (q :: r)) = _
      rw [L_append, L_append, ih, L_dots, List.append_assoc]
      rfl
def Nd (q : List Nat) : Prop := ∀ c ∈ q, c ≠ 46
def posOf : Nat → List (List Nat) → List Nat
  | _, [] => []
  | _, [_] => []
  | i, q :: q' :: r => (i + q.length) :: posOf (i + q.length + 3) (q' :: r)
theorem scan_skip (s sub : Str) (hi limit : Nat) : ∀ (n a k : Nat) (st : Array Nat × Nat), (∀ i, a ≤ i → i < a + n → ¬ (st.2 ≤ i ∧ At s sub hi i)) →
    (forIn (List.range' a (n + k)) st (occBody s sub hi limit)).run = (forIn (List.range' (a + n) k) st (occBody s sub hi limit)).run
  | 0, a, k, st, _ => by rw [Nat.zero_add, Nat.add_zero]
  | n + 1, a, k, st, h => by
    rw [show n + 1 + k = (n + k) + 1 by omega, List.range'_succ, List.forIn_cons]
    conv => lhs; unfold occBody
    rw [if_neg (fun c => h a (Nat.le_refl _) (by omega) ⟨c.1.1.2, c.1.2, c.2⟩)]
    show (forIn (List.range' (a + 1) (n + k)) st (occBody s sub hi limit)).run = _
    rw [scan_skip s sub hi limit n (a + 1) k st (fun i h1 h2 => h i (by omega) (by omega)), show a + 1 + n = a + (n + 1) by omega]
theorem scan_hit (s sub : Str) (hi limit a k : Nat) (st : Array Nat × Nat) (h1 : At s sub hi a) (h2 : st.2 ≤ a) (h3 : st.1.size < limit) :
    (forIn (List.range' a (k + 1)) st (occBody s sub hi limit)).run = (forIn (List.range' (a + 1) k) (st.1.push a, a + sub.length) (occBody s sub hi limit)).run := by
  rw [List.range'_succ, List.forIn_cons]
  conv => lhs; unfold occBody
  rw [if_pos ⟨⟨⟨h3, h2⟩, h1.1⟩, h1.2⟩]
  rfl
theorem at_dots {x : Str} {i : Nat} (h : At x dots x.length i) : (L x)[i]? = some 46 := by
  have h2 := h.2
  rw [subAt_eq] at h2
  have h3 : ((L x).drop i).take 3 = [46, 46, 46] := eq_of_beq h2
  have h4 := congrArg (fun l => l[0]?) h3
  simpa using h4
theorem dots_at {x : Str} {i : Nat} {r : List Nat} (h : (L x).drop i = [46, 46, 46] ++ r) : At x dots x.length i := by
  refine (At_iff (Nat.le_refl _)).mpr ?_
  have hl := congrArg List.length h
  rw [List.length_drop, List.length_append, L_len] at hl
  have h3 : ([46, 46, 46] : List Nat).length = 3 := rfl
  have hd : dots.length = 3 := rfl
  refine ⟨by omega, (L x).take i, r, ?_, by rw [List.length_take, L_len]; omega⟩
  rw [L_dots, ← h, List.take_append_drop]
theorem J_len (q q' : List Nat) (r : List (List Nat)) : J (q :: q' :: r) = q ++ ([46, 46, 46] ++ J (q' :: r)) := rfl
theorem drop_J {x : Str} {i : Nat} {q q' : List Nat} {r : List (List Nat)} (h : (L x).drop i = J (q :: q' :: r)) :
    (L x).drop (i + q.length) = [46, 46, 46] ++ J (q' :: r) ∧ (L x).drop (i + q.length + 3) = J (q' :: r) := by
  have h1 : (L x).drop (i + q.length) = [46, 46, 46] ++ J (q' :: r) := by rw [← List.drop_drop, h, J_len, List.drop_left]
  refine ⟨h1, ?_⟩
  rw [← List.drop_drop, h1]
  rfl
theorem not_in {x : Str} {i j : Nat} {q r : List Nat} (h : (L x).drop i = q ++ r) (hq : Nd q) (h1 : i ≤ j) (h2 : j < i + q.length) : ¬ At x dots x.length j := by
  intro ha
  have e := at_dots ha
  have e2 : (L x)[j]? = ((L x).drop i)[j - i]? := by rw [List.getElem?_drop]; congr 1; omega
  rw [e2, h, List.getElem?_append_left (by omega), List.getElem?_eq_getElem (by omega)] at e
  exact hq _ (List.getElem_mem (by omega)) (Option.some.inj e)
theorem scan_join (x : Str) (limit : Nat) : ∀ (qs : List (List Nat)) (i : Nat) (arr : Array Nat) (free : Nat), qs ≠ [] → (L x).drop i = J qs → i ≤ x.length → (∀ q ∈ qs, Nd q) → free ≤ i → arr.size + (posOf i qs).length ≤ limit →
    (forIn (List.range' i (x.length + 1 - i)) (arr, free) (occBody x dots x.length limit)).run.1.toList = arr.toList ++ posOf i qs
  | [], _, _, _, h, _, _, _, _, _ => absurd rfl h
  | [z], i, arr, free, _, hd, hi, hn, _, _ => by
    have e := scan_skip x dots x.length limit (x.length + 1 - i) i 0 (arr, free) (fun j h1 h2 h3 => by
      rcases Nat.lt_or_ge j x.length with h4 | h4
      · have hl := congrArg List.length hd
        rw [List.length_drop, L_len] at hl
        have hl' : (J [z]).length = z.length := rfl
        exact not_in (r := []) (hd.trans (List.append_nil _).symm) (hn z (List.mem_cons_self ..)) h1 (by omega) h3.2
      · have := h3.2.1
        have hd3 : dots.length = 3 := rfl
        omega)
    rw [Nat.add_zero] at e
    rw [e]
    show arr.toList = arr.toList ++ []
    rw [List.append_nil]
  | q :: q' :: r, i, arr, free, _, hd, hi, hn, hf, hs => by
    obtain ⟨h1, h2⟩ := drop_J hd
    have hl := congrArg List.length h1
    rw [List.length_drop, L_len, List.length_append] at hl
    have h3 : ([46, 46, 46] : List Nat).length = 3 := rfl
    have hd3 : dots.length = 3 := rfl
    have hs' : arr.size + ((posOf (i + q.length + 3) (q' :: r)).length + 1) ≤ limit := hs
    have e1 : x.length + 1 - i = q.length + ((2 + (x.length + 1 - (i + q.length + 3))) + 1) := by omega
    rw [e1, scan_skip x dots x.length limit q.length i _ (arr, free) (fun j a b c => not_in (hd.trans (J_len q q' r)) (hn q (List.mem_cons_self ..)) a b c.2),
      scan_hit x dots x.length limit _ _ (arr, free) (dots_at h1) (by show free ≤ _; omega) (by show arr.size < _; omega),
      scan_skip x dots x.length limit 2 _ _ _ (fun j a b c => by have := c.1; dsimp only at this; omega),
      show i + q.length + 1 + 2 = i + q.length + 3 by omega,
      scan_join x limit (q' :: r) (i + q.length + 3) _ _ (by simp) h2 (by omega) (fun z hz => hn z (List.mem_cons_of_mem _ hz)) (by omega) (by show (arr.push _).size + _ ≤ _; rw [Array.size_push]; omega)]
    simp [posOf]
theorem posOf_len : ∀ (qs : List (List Nat)) (i : Nat), (posOf i qs).length ≤ (J qs).length
  | [], _ => Nat.le_refl _
  | [_], _ => Nat.zero_le _
  | q :: q' :: r, i => by
    have := posOf_len (q' :: r) (i + q.length + 3)
    simp only [posOf, J, List.length_cons, List.length_append]
    omega
theorem occ_join (x : Str) (qs : List (List Nat)) (h : L x = J qs) (hne : qs ≠ []) (hn : ∀ q ∈ qs, Nd q) : occurrences x dots 0 x.length (x.length + 1) = posOf 0 qs := by
  rw [occ_eq]
  have hp := posOf_len qs 0
  rw [← h, L_len] at hp
  have := scan_join x (x.length + 1) qs 0 #[] 0 hne (by simpa using h) (Nat.zero_le _) hn (Nat.le_refl _) (by show 0 + _ ≤ _; omega)
  simpa using this
theorem parts_join (x : Str) : ∀ (qs : List Str) (i : Nat), qs ≠ [] → (L x).drop i = J (qs.map L) → i ≤ x.length →
    ((i :: (posOf i (qs.map L)).map (· + 3)).zip (posOf i (qs.map L) ++ [x.length])).map (fun (a, b) => strSub x a b) = qs
  | [], _, h, _, _ => absurd rfl h
  | [z], i, _, hd, hi => by
    show [strSub x i x.length] = [z]
    congr 1
    apply L_inj
    show (strSub x i x.length).cps.toList = _
    rw [StrLaws.strSub_toList]
    show ((L x).drop i).take _ = _
    rw [hd, ← L_len x]
    have hl := congrArg List.length hd
    rw [List.length_drop] at hl
    show (L z).take _ = _
    exact List.take_of_length_le (Nat.le_of_eq hl.symm)
  | q :: q' :: r, i, _, hd, hi => by
    obtain ⟨h1, h2⟩ := drop_J (q := L q) (q' := L q') (r := r.map L) hd
    have hl := congrArg List.length h1
    rw [List.length_drop, L_len, List.length_append] at hl
    have h3 : ([46, 46, 46] : List Nat).length = 3 := rfl
    have ih := parts_join x (q' :: r) (i + (L q).length + 3) (by simp) h2 (by omega)
    show strSub x i (i + (L q).length) :: _ = _
    congr 1
    apply L_inj
    show (strSub x i _).cps.toList = _
    rw [StrLaws.strSub_toList]
    show ((L x).drop i).take _ = _
    rw [hd]
    show (L q ++ _).take _ = _
    rw [show i + (L q).length - i = (L q).length by omega, List.take_left]
theorem strKind_pos (x : Str) : 1 ≤ Builtin.Str.strKind x := by
  unfold Builtin.Str.strKind
  split
  · exact Nat.le_refl _
  · split <;> decide
theorem kind_dots : Builtin.Str.strKind dots = 1 := by decide +kernel
theorem J_long : ∀ {qs : List (List Nat)}, 2 ≤ qs.length → 3 ≤ (J qs).length
  | q :: q' :: r, _ => by simp only [J, List.length_append, List.length_cons]; omega
theorem posOf_ne : ∀ {qs : List (List Nat)}, 2 ≤ qs.length → (posOf 0 qs).isEmpty = false
  | _ :: _ :: _, _ => rfl
theorem split_join (ps : List Str) (h : 2 ≤ ps.length) (hn : ∀ p ∈ ps, Nd (L p)) : Txt.split (Txt.join dots ps) dots = ps := by
  have hne : ps ≠ [] := by intro e; rw [e] at h; simp at h
  have hj := L_join ps
  have hocc := occ_join (Txt.join dots ps) (ps.map L) hj (by simpa using hne) (fun q hq => by obtain ⟨p, hp, rfl⟩ := List.mem_map.mp hq; exact hn p hp)
  have hlen : 3 ≤ (Txt.join dots ps).length := by
    rw [← L_len, hj]; exact J_long (by simpa using h)
  unfold Txt.split
  have hd3 : dots.length = 3 := rfl
  have hk := strKind_pos (Txt.join dots ps)
  rw [if_neg (by simp only [Bool.or_eq_true, decide_eq_true_eq, kind_dots]; omega), hocc, if_neg (by rw [posOf_ne (by simpa using h)]; decide)]
  exact parts_join (Txt.join dots ps) ps 0 hne (by simpa using hj) (Nat.zero_le _)
theorem occ_one (ps : List Str) (h : 2 ≤ ps.length) : (occurrences (Txt.join dots ps) dots 0 (Txt.join dots ps).length 1).isEmpty = false := by
  have := (found_iff (Txt.join dots ps) dots).mpr (by
    match ps, h with
    | p :: q :: r, _ =>
      have hj := L_join (p :: q :: r)
      obtain ⟨h1, _⟩ := drop_J (x := Txt.join dots (p :: q :: r)) (i := 0) (q := L p) (q' := L q) (r := r.map L) (by simpa using hj)
      exact ⟨_, dots_at h1⟩)
  simpa using this
end Mine

end

section -- Pt
open PySem PySem.W PySem.Calls PyProof.Rows Builtin Builtin.Str
set_option maxRecDepth 100000
namespace Mine
/-! the pieces as one list -/
def FG : List (List Nat) → List Nat → Prop
  | [], _ => False
  | [q], t => t = q
  | q :: q' :: r, t => ∃ g v, t = q ++ (g ++ v) ∧ FG (q' :: r) v
theorem FG_cons {q q' : List Nat} {r : List (List Nat)} {t : List Nat} : FG (q :: q' :: r) t ↔ ∃ g v, t = q ++ (g ++ v) ∧ FG (q' :: r) v := Iff.rfl
theorem FG_fits : ∀ (ws : List (List Nat)) (a z t : List Nat), FG (a :: (ws ++ [z])) t ↔ Fits a ws z t
  | [], a, z, t => by
    show (∃ g v, t = a ++ (g ++ v) ∧ v = z) ↔ ∃ t', t = a ++ (t' ++ z) ∧ True
    constructor
    · rintro ⟨g, _, e, rfl⟩; exact ⟨g, e, trivial⟩
    · rintro ⟨g, e, _⟩; exact ⟨g, z, e, rfl⟩
  | b :: ws, a, z, t => by
    show (∃ g v, t = a ++ (g ++ v) ∧ FG (b :: (ws ++ [z])) v) ↔ ∃ t', t = a ++ (t' ++ z) ∧ ∃ u v, t' = u ++ (b ++ v) ∧ Mid ws v
    constructor
    · rintro ⟨g, v, e, h⟩
      obtain ⟨t', e', h'⟩ := (FG_fits ws b z v).mp h
      exact ⟨g ++ (b ++ t'), by rw [e, e']; simp, g, t', rfl, h'⟩
    · rintro ⟨_, e, u, v, rfl, h⟩
      exact ⟨u, b ++ (v ++ z), by rw [e]; simp, (FG_fits ws b z _).mpr ⟨v, rfl, h⟩⟩
theorem FG.split : ∀ (pre : List (List Nat)) (q1 q2 : List Nat) (post : List (List Nat)) (t : List Nat), FG (pre ++ (q1 ++ q2) :: post) t → FG (pre ++ q1 :: q2 :: post) t
  | [], q1, q2, [], t, h => ⟨[], q2, by rw [show t = q1 ++ q2 from h]; simp, rfl⟩
  | [], q1, q2, p :: post, t, ⟨g, v, e, h⟩ => ⟨[], q2 ++ (g ++ v), by rw [e]; simp, g, v, rfl, h⟩
  | [p], q1, q2, post, t, ⟨g, v, e, h⟩ => ⟨g, v, e, FG.split [] q1 q2 post v h⟩
  | p :: p' :: pre, q1, q2, post, t, ⟨g, v, e, h⟩ => ⟨g, v, e, FG.split (p' :: pre) q1 q2 post v h⟩
theorem ends_of {α : Type} : ∀ {l : List α}, 2 ≤ l.length → ∃ a m z, l = a :: (m ++ [z])
  | a :: b :: r, _ => ⟨a, (b :: r).dropLast, (b :: r).getLast (by simp), by rw [List.dropLast_concat_getLast]⟩
theorem FG.rev {qs : List (List Nat)} (hl : 2 ≤ qs.length) (t : List Nat) : FG (qs.map List.reverse).reverse t.reverse ↔ FG qs t := by
  obtain ⟨a, ws, z, rfl⟩ := ends_of hl
  rw [FG_fits, ← Fits.rev]
  rw [← FG_fits]
  simp
def fitB (ps : List Str) (got : Str) : Bool := match ps with
  | [] => false
  | p :: r => firstP p r.dropLast (r.getLastD p) got
theorem firstP_fitB (p0 : Str) (mid : List Str) (pl got : Str) : firstP p0 mid pl got = fitB (p0 :: (mid ++ [pl])) got := by
  show _ = firstP p0 (mid ++ [pl]).dropLast ((mid ++ [pl]).getLastD p0) got
  rw [List.dropLast_concat, List.getLastD_concat]
theorem fitB_iff {ps : List Str} (hl : 2 ≤ ps.length) (got : Str) : fitB ps got = true ↔ FG (ps.map L) (L got) := by
  obtain ⟨a, ws, z, rfl⟩ := ends_of hl
  rw [← firstP_fitB, firstP_iff, ← FG_fits]
  simp
theorem emP_fitB (p0 : Str) (mid : List Str) (pl got : Str) : emP p0 mid pl got = fitB (p0 :: (mid ++ [pl])) got := by
  rw [← firstP_fitB, Bool.eq_iff_iff, emP_iff, firstP_iff]
theorem fitB_congr {ps qs : List Str} {x y : Str} (h1 : 2 ≤ ps.length) (h2 : 2 ≤ qs.length) (h : FG (ps.map L) (L x) ↔ FG (qs.map L) (L y)) : fitB ps x = fitB qs y := by
  rw [Bool.eq_iff_iff, fitB_iff h1, fitB_iff h2, h]
/-! turned about -/
theorem L_rev (x : Str) : L (revS x) = (L x).reverse := by simp [L, revS]
theorem rev_rev (x : Str) : revS (revS x) = x := L_inj (by rw [L_rev, L_rev, List.reverse_reverse])
theorem rev_length (x : Str) : (revS x).length = x.length := by rw [← L_len, ← L_len, L_rev, List.length_reverse]
def backS (ps : List Str) : List Str := (ps.map revS).reverse
theorem back_map (ps : List Str) : (backS ps).map L = ((ps.map L).map List.reverse).reverse := by
  unfold backS
  rw [List.map_reverse, List.map_map, List.map_map]
  congr 1
  exact List.map_congr_left fun x _ => L_rev x
theorem back_length (ps : List Str) : (backS ps).length = ps.length := by simp [backS]
theorem fit_back {ps : List Str} (h : 2 ≤ ps.length) (x : Str) : fitB (backS ps) (revS x) = fitB ps x :=
  fitB_congr (by rw [back_length]; exact h) h (by rw [back_map, L_rev]; exact FG.rev (by simpa using h) _)
theorem whole_rev (x : Str) : revS (x ++ revS x) = x ++ revS x := L_inj (by rw [L_rev, L_append, L_rev, List.reverse_append, List.reverse_reverse])
theorem fit_whole {ps : List Str} (h : 2 ≤ ps.length) (x : Str) : fitB (backS ps) (x ++ revS x) = fitB ps (x ++ revS x) := by
  have := fit_back h (x ++ revS x)
  rwa [whole_rev] at this
theorem J_concat : ∀ (qs : List (List Nat)) (z : List Nat), qs ≠ [] → J (qs ++ [z]) = J qs ++ ([46, 46, 46] ++ z)
  | [], _, h => absurd rfl h
  | [q], z, _ => rfl
  | q :: q' :: r, z, _ => by
    show q ++ ([46, 46, 46] ++ J ((q' :: r) ++ [z])) = (q ++ ([46, 46, 46] ++ J (q' :: r))) ++ _
    rw [J_concat (q' :: r) z (by simp)]
    simp
theorem J_rev : ∀ (qs : List (List Nat)), J (qs.map List.reverse).reverse = (J qs).reverse
  | [] => rfl
  | [q] => rfl
  | q :: q' :: r => by
    rw [List.map_cons, List.reverse_cons, J_concat _ _ (by simp), J_rev (q' :: r)]
    show _ = (q ++ ([46, 46, 46] ++ J (q' :: r))).reverse
    simp
theorem rev_join (ps : List Str) : revS (Txt.join dots ps) = Txt.join dots (backS ps) := L_inj (by rw [L_rev, L_join, L_join, back_map, J_rev])
/-! letters -/
theorem ab_nd {x : Str} (h : Ab x) : Nd (L x) := fun c hc => by
  have := h c (Array.mem_toList_iff.mp hc)
  omega
theorem ab_rev {x : Str} (h : Ab x) : Ab (revS x) := fun c hc => h c (by
  have : c ∈ x.cps.reverse := hc
  simpa using this)
theorem ab_ascii {x : Str} (h : Ab x) : ∀ c ∈ x.cps, c < 128 := fun c hc => by
  have := h c hc
  omega
theorem back_ab {ps : List Str} (h : ∀ p ∈ ps, Ab p) : ∀ p ∈ backS ps, Ab p := fun p hp => by
  obtain ⟨q, hq, rfl⟩ := List.mem_map.mp (List.mem_reverse.mp hp)
  exact ab_rev (h q hq)
theorem back_len {ps : List Str} {n : Nat} (h : ∀ p ∈ ps, p.length ≤ n) : ∀ p ∈ backS ps, p.length ≤ n := fun p hp => by
  obtain ⟨q, hq, rfl⟩ := List.mem_map.mp (List.mem_reverse.mp hp)
  rw [rev_length]; exact h q hq
theorem join_len {ps : List Str} {n : Nat} (h : ∀ p ∈ ps, p.length ≤ n) : (Txt.join dots ps).length ≤ ps.length * n + ps.length * 3 := by
  show (glued _ _).length ≤ _
  rw [StrLaws.glued_eq_join]
  have h1 := StrLaws.join_length_le dots ps
  have h2 := sum_le (l := ps.map (·.length)) (B := n) fun k hk => by
    obtain ⟨x, hx, rfl⟩ := List.mem_map.mp hk
    exact h x hx
  rw [List.length_map] at h2
  have h3 : dots.length = 3 := rfl
  rw [h3] at h1
  omega
theorem join_ok {ps : List Str} {n : Nat} (h : ∀ p ∈ ps, p.length ≤ n) (hz : ps.length * n + ps.length * 3 ≤ 1000) : JoinOk dots ps = true := by
  unfold JoinOk
  rw [StrLaws.joinFits h (by have h3 : dots.length = 3 := rfl
                             rw [h3]; omega)]
  rfl
theorem ascii_join {ps : List Str} (h : ∀ p ∈ ps, Ab p) : ∀ c ∈ (Txt.join dots ps).cps, c < 128 := by
  have hJ : ∀ qs : List (List Nat), (∀ q ∈ qs, ∀ c ∈ q, c < 128) → ∀ c ∈ J qs, c < 128 := by
    intro qs
    induction qs with
    | nil => intro _ c hc; cases hc
    | cons q r ih =>
      intro hq c hc
      cases r with
      | nil => exact hq q (List.mem_cons_self ..) c hc
      | cons q' r =>
        rcases List.mem_append.mp hc with hc | hc
        · exact hq q (List.mem_cons_self ..) c hc
        · rcases List.mem_append.mp hc with hc | hc
          · simp at hc; omega
          · exact ih (fun z hz => hq z (List.mem_cons_of_mem _ hz)) c hc
  intro c hc
  have hc' : c ∈ L (Txt.join dots ps) := Array.mem_toList_iff.mpr hc
  rw [L_join] at hc'
  refine hJ _ (fun q hq => ?_) c hc'
  obtain ⟨p, hp, rfl⟩ := List.mem_map.mp hq
  exact fun c hc => ab_ascii (h p hp) c (Array.mem_toList_iff.mp hc)
/-! the beginning and the end taken off -/
theorem fit_rest {p0 pl word rest : Str} {mid : List Str} {e1 e2 : Str} (he1 : e1.length = 0) (he2 : e2.length = 0) (h1 : Txt.startswith word p0 = true) (h2 : Txt.endswith word pl = true) (h3 : p0.length + pl.length ≤ word.length)
    (hr : L rest = ((L word).take (word.length - pl.length)).drop p0.length) : fitB (e1 :: (mid ++ [e2])) rest = fitB (p0 :: (mid ++ [pl])) word := by
  have le : ∀ {e : Str}, e.length = 0 → L e = [] := fun {e} h => List.length_eq_zero_iff.mp (by rw [L_len]; exact h)
  rw [← firstP_fitB, ← firstP_fitB, Bool.eq_iff_iff, firstP_iff, firstP_iff, le he1, le he2, Fits.nil, Fits.inner (between h1 h2 h3), hr]
/-! a piece put in two -/
theorem fit_more {ps : List Str} {x : Str} {k : Nat} {p a b : Str} (h2 : 2 ≤ ps.length) (hk : ps[k]? = some p) (hab : L p = L a ++ L b) (h : fitB ps x = true) : fitB (ps.take k ++ (a :: b :: ps.drop (k + 1))) x = true := by
  obtain ⟨hlt, e⟩ := List.getElem?_eq_some_iff.mp hk
  have hps : ps = ps.take k ++ p :: ps.drop (k + 1) := by
    rw [← e, List.getElem_cons_drop, List.take_append_drop]
  have hl : (ps.take k ++ (a :: b :: ps.drop (k + 1))).length = ps.length + 1 := by
    rw [List.length_append, List.length_take, List.length_cons, List.length_cons, List.length_drop]; omega
  rw [fitB_iff (by rw [hl]; omega)]
  rw [fitB_iff h2] at h
  rw [hps, List.map_append, List.map_cons, hab] at h
  rw [List.map_append, List.map_cons, List.map_cons]
  exact FG.split _ _ _ _ _ h
end Mine

end

section -- Ct
open PySem PySem.W PySem.Calls PyProof.Rows Builtin Builtin.Str
set_option maxRecDepth 100000
set_option maxHeartbeats 4000000
namespace Mine
/-- the contract of _ellipsis_match at joined pieces -/
theorem em_join {w : World} {mean : ExcName → Option Value} {mg mb : Str → Option Value} {ps : List Str} {x got : Str} {tw tg : Tok}
    {dp un : Nat} {gd : Option (List Code)} {cn : Str} {cs : Scope} {a : Addr} {ccd : Value} {cl : List (Str × Addr)} {outer : List Env} {L : Addr} {s : Shared} {Q E : Value → Shared → Prop}
    (hdp : dp + 1 < recursionLimit) (hu : un + 8 < cLine) (X : (hd.heap_39 w.params).In s.heap) (T : Top hd.view_39 [] mean mg mb s.heap)
    (hx : x = Txt.join dots ps) (h2 : 2 ≤ ps.length) (h8 : ps.length ≤ 8) (hab : ∀ p ∈ ps, Ab p) (hlen : ∀ p ∈ ps, p.length ≤ 20) (hg : got.length ≤ 1000)
    (hret : ∀ h' tk, (∀ b o, s.heap.get? b = some o → h'.get? b = some o) → Q (.bool (fitB ps got)) { s with heap := h', toks := tk }) :
      wpAny (model PySem.Challenge.pw_gk0002_01 w) (ktrTop dp un gd cn cs L a ccd cl outer) (call (.ref 21) [.str x tw, .str got tg]) Q E s := by
  subst hx
  obtain ⟨p0, mid, pl, rfl⟩ := ends_of h2
  have hm := hlen p0 (List.mem_cons_self ..)
  have hn := hlen pl (by simp)
  have hj := join_len hlen
  have hmid : mid.length ≤ 8 := by simp only [List.length_cons, List.length_append] at h8; omega
  refine em_call hdp hu X T (occ_one _ h2) (split_join _ h2 fun p hp => ab_nd (hab p hp)) (Nat.le_trans hj (by omega)) hg (by omega) (by omega) hmid (fun h' tk hk => ?_)
  rw [emP_fitB]
  exact hret h' tk hk
/-- the contract of _law_first at a list of pieces -/
theorem lf_list {w : World} {mean : ExcName → Option Value} {mg mb : Str → Option Value} {word : Str} {l : List (Str × Tok)} {P : Addr} {tw : Tok}
    {dp un : Nat} {gd : Option (List Code)} {cn : Str} {cs : Scope} {a : Addr} {ccd : Value} {cl : List (Str × Addr)} {outer : List Env} {L : Addr} {s : Shared} {Q E : Value → Shared → Prop}
    (hdp : dp + 1 < recursionLimit) (hu : un + 8 < cLine) (X : (hd.heap_39 w.params).In s.heap) (T : Top hd.view_39 [] mean mg mb s.heap)
    (hP : s.heap.IsList P (strValues l).toArray) (h2 : 2 ≤ l.length) (h8 : l.length ≤ 8) (hlen : ∀ p ∈ l, p.1.length ≤ 20) (hg : word.length ≤ 1000)
    (hret : ∀ h' tk, (∀ b o, s.heap.get? b = some o → h'.get? b = some o) → Q (.bool (fitB (l.map (·.1)) word)) { s with heap := h', toks := tk }) :
      wpAny (model PySem.Challenge.pw_gk0002_01 w) (ktrTop dp un gd cn cs L a ccd cl outer) (call (.ref 47) [.ref P, .str word tw]) Q E s := by
  obtain ⟨⟨p0, t0⟩, lm, ⟨pl, tl⟩, rfl⟩ := ends_of h2
  have hm := hlen (p0, t0) (List.mem_cons_self ..)
  have hn := hlen (pl, tl) (by simp)
  have hmid : lm.length ≤ 8 := by simp only [List.length_cons, List.length_append] at h8; omega
  rw [← strValues_full] at hP
  refine lf_call hdp hu X T hP hg (by dsimp only at hm; omega) (by dsimp only at hn; omega) hmid (fun h' tk hk => ?_)
  rw [firstP_fitB]
  have e : p0 :: (lm.map (·.1) ++ [pl]) = ((p0, t0) :: (lm ++ [(pl, tl)])).map (·.1) := by simp
  rw [e]
  exact hret h' tk hk
end Mine

end

section -- Lw0
open PySem PySem.W PySem.Calls PyProof.Rows Builtin Builtin.Str
set_option maxRecDepth 100000
set_option maxHeartbeats 4000000
namespace Mine
/-- the law's own body, as it stands in the given row -/
def lawBody : List Stmt := match PySem.Challenge.pw_gk0002_01.main.body.getLast? with
  | some (.FunctionDef _ _ body _ _ _ _ _ _ _) => body
  | _ => []
def lawScope : Scope := match PySem.Challenge.pw_gk0002_01.main.body.getLast? with
  | some (.FunctionDef _ _ _ _ _ _ sc _ _ _) => sc
  | _ => default
def lawSt (i : Nat) : Stmt := lawBody.getD i (.Pass default)
def Stop (P : Prop) : Prop := P
theorem Stop.out {P : Prop} (h : Stop P) : P := h
def LM (known : List (Str × Value)) (m : Str → Option Value) : Prop := ∀ x v, known.lookup x = some v → m x = some v
theorem wpC_Assign_Tuple_swapped {M : Model} {A : Around} {E : Value → Shared → Prop} {s : Shared} {env : Env} {elts : List Expr} {k : Nat} {tpos : Pos} {value : Expr} {pos : Pos} {names : List Str} {Q : Flow → Shared → Prop}
    (h : wpC M A (eval value env) (fun v s₁ => wpAny M A (unpackItems v names.length none) (fun items s₂ =>
      wpAny M A (assignInOrder (names.reverse.map fun n => bindName env n) items.reverse) (fun _ => Q .next) E s₂) E s₁) E s)
    (hs : swapsWithSole [.Tuple elts k tpos] value pos.line env = pure false := by rfl)
    (hw : swappedStores [.Tuple elts k tpos] value env = pure (some names) := by rfl) :
    wpC M A (exec (.Assign [.Tuple elts k tpos] value pos) env) Q E s := by
  rw [exec_Assign]
  refine wpC_step (wpAny_standAt ?_)
  rw [hs]
  refine wpC_step (wpAny_pure ?_)
  rw [if_neg (by decide)]
  refine wpC_bind (wpC_mono h (fun v s₁ h₁ => ?_) fun _ _ x => x)
  rw [hw]
  refine wpC_step (wpAny_pure ?_)
  show wpC M A (do rule "assign.swapped-stores"; let items ← unpackItems v names.length none; assignInOrder (names.reverse.map fun n => bindName env n) items.reverse; pure .next) Q E s₁
  exact wpC_any (wpAny_bind (wpAny_rule (wpAny_bind (wpAny_mono h₁ (fun items s₂ h₂ => wpAny_bind (wpAny_mono h₂ (fun _ _ x => wpAny_pure x) fun _ _ x => x)) fun _ _ x => x))))
section
variable {prog : Program} {w : World} {A : Around} {E : Value → Shared → Prop} {s : Shared} {h₀ : Heap} {L D : Addr} {m : Str → Option Value} {news : List (Addr × Obj)} {vs : List Value} {v v₀ : Value} {value slice : PySem.Expr} {u u' : Tok} {Q : Value → Shared → Prop}
/-- a slice of a made list, its bounds in the written order -/
theorem slice_any {vl vu : Value} {lo hi : Option Int} {zs : List Value}
    (F : Fr h₀ L s.heap m) (N : News h₀ L s.heap news) (hl : s.heap.IsList D vs.toArray) (pl : IsPart vl lo) (pu : IsPart vu hi) (e : kms_pick vs lo hi = zs)
    (h : ∀ D' h', Fr h₀ L h' m → News h₀ L h' ((D', W.listOf zs.toArray 0) :: news) → (∀ p ∈ news, p.1 < D') → Q (.ref D') { s with heap := h' })
    (hs : subscripted slice false (.ref D) (.ref s.heap.objs.size) = operate [.ref s.heap.objs.size, .ref D] (getItem (.ref D) (.ref s.heap.objs.size))) (ht : ∀ r, letTemporaryGo value (.ref D) r = pure ()) (hz : vs.length ≤ 1000) :
    wpAny (model prog w) A (subscriptTail value slice (.ref D) (.ref s.heap.objs.size)) Q E { s with heap := s.heap.push { cls := .type "slice", data := .fields #[vl, vu, .none] } } :=
  kms_slice_lit (zs := zs) F N hl pl pu e h hs ht (by have : sizeLine = 16777216 := (by decide); rw [List.size_toArray]; omega)
theorem pick_mid (vs : List Value) (v v₀ : Value) : kms_pick (v₀ :: (vs ++ [v])) (some 1) (some (-1)) = vs := by
  unfold kms_pick
  have e1 : (v₀ :: (vs ++ [v])).length = vs.length + 2 := by simp
  have e2 : kms_lo (some 1) (vs.length + 2) = 1 := by simp [kms_lo]
  have e3 : kms_hi (some (-1)) (vs.length + 2) = vs.length + 1 := by simp [kms_hi]
  rw [e1, e2, e3]
  simp
theorem add_two {l b : Addr} {xs ys : List Value} (F : Fr h₀ L s.heap m) (N : News h₀ L s.heap news) (hl : s.heap.IsList l xs.toArray) (hb : s.heap.IsList b ys.toArray)
    (h : ∀ D' h', Fr h₀ L h' m → News h₀ L h' ((D', W.listOf (xs ++ ys).toArray 0) :: news) → Q (.ref D') { s with heap := h' })
    (hsz : xs.length + ys.length ≤ 1000) : wpAny (model prog w) A (binaryOp .Add (.ref l) (.ref b)) Q E s :=
  add_lists (vs := xs) (ws := ys) (hsz := by have : sizeLine = 16777216 := (by decide); omega) F N hl hb (fun h' F' N' => h _ h' F' N')
end
theorem LM.skip {known : List (Str × Value)} {m : Str → Option Value} {x : Str} {o : Option Value} (lm : LM known m) (h : known.lookup x = none) : LM known (fun y => if y = x then o else m y) := fun y v e => by
  show (if y = x then o else m y) = some v
  rw [if_neg (fun q => by rw [q, h] at e; cases e)]
  exact lm y v e
theorem LM.left {a b : List (Str × Value)} {m : Str → Option Value} (lm : LM (a ++ b) m) : LM a m := fun x v e => lm x v (by rw [List.lookup_append, e]; rfl)
theorem LM.cons {known : List (Str × Value)} {m : Str → Option Value} {x : Str} {v : Value} (lm : LM known m) (h : known.lookup x = none) : LM (known ++ [(x, v)]) (fun y => if y = x then some v else m y) := fun y u e => by
  show (if y = x then some v else m y) = some u
  rw [List.lookup_append] at e
  by_cases q : y = x
  · subst q
    rw [h] at e
    rw [if_pos rfl]
    simpa using e
  · rw [if_neg q]
    cases e2 : known.lookup y with
    | some u' =>
      rw [e2] at e
      exact (lm y u' e2).trans e
    | none =>
      rw [e2] at e
      have hq : (y == x) = false := beq_eq_false_iff_ne.mpr q
      simp [List.lookup, hq] at e
theorem slice_L (x : Str) {i j : Nat} (hij : i ≤ j) (hj : j ≤ x.length) : L (Txt.slice x (some (i : Int)) (some (j : Int))) = ((L x).drop i).take (j - i) := by
  unfold Txt.slice
  have hp := StrLaws.sliced_plain x hij hj
  split
  · rename_i hc
    rw [StrLaws.strSliceIndices_plain hij hj] at hc
    have hc' : j - i = x.length := by simpa using hc
    have h0 : i = 0 := by omega
    subst h0
    rw [List.drop_zero, List.take_of_length_le (by rw [L_len]; omega)]
  · show (List.toArray _).toList = _
    rw [hp]
    rfl
theorem pick_take (vs : List Value) {i : Nat} (h : i ≤ vs.length) : kms_pick vs none (some (i : Int)) = vs.take i := by
  unfold kms_pick
  have e1 : kms_lo none vs.length = 0 := rfl
  have e2 : kms_hi (some (i : Int)) vs.length = i := by
    unfold kms_hi
    dsimp only
    rw [if_neg (by omega)]
    omega
  rw [e1, e2, List.drop_zero, Nat.sub_zero]
theorem pick_drop (vs : List Value) {i : Nat} (h : i < vs.length) : kms_pick vs (some ((i : Int) + 1)) none = vs.drop (i + 1) := by
  unfold kms_pick
  have e1 : kms_lo (some ((i : Int) + 1)) vs.length = i + 1 := by
    unfold kms_lo
    dsimp only
    rw [if_neg (by omega)]
    omega
  have e2 : kms_hi none vs.length = vs.length := rfl
  rw [e1, e2, List.take_of_length_le (by rw [List.length_drop]; omega)]
theorem slice_some (x : Str) (l u l' u' : Option Int) (h : Builtin.Str.strSliceIndices l u 1 x.length = Builtin.Str.strSliceIndices l' u' 1 x.length) : Txt.slice x l u = Txt.slice x l' u' := by
  unfold Txt.slice
  rw [h]
theorem slice_head (x : Str) : L (Txt.slice x none (some 1)) = (L x).take 1 := by
  have e : Txt.slice x none (some 1) = Txt.slice x (some ((0 : Nat) : Int)) (some ((min 1 x.length : Nat) : Int)) := slice_some _ _ _ _ _ (by
    unfold Builtin.Str.strSliceIndices
    simp only [show (1 : Int) > 0 by decide, if_true]
    congr 1 <;> (try split) <;> (try split) <;> omega)
  rw [e, slice_L x (Nat.zero_le _) (Nat.min_le_right _ _), List.drop_zero, Nat.sub_zero]
  rcases Nat.lt_or_ge 0 x.length with h | h
  · rw [Nat.min_eq_left (by omega)]
  · rw [List.length_eq_zero_iff.mp (show (L x).length = 0 by rw [L_len]; omega)]; simp
theorem slice_tail (x : Str) : L (Txt.slice x (some 1) none) = (L x).drop 1 := by
  have e : Txt.slice x (some 1) none = Txt.slice x (some ((min 1 x.length : Nat) : Int)) (some ((x.length : Nat) : Int)) := slice_some _ _ _ _ _ (by
    unfold Builtin.Str.strSliceIndices
    simp only [show (1 : Int) > 0 by decide, if_true]
    congr 1 <;> (try split) <;> (try split) <;> omega)
  rw [e, slice_L x (Nat.min_le_right _ _) (Nat.le_refl _)]
  rcases Nat.lt_or_ge 0 x.length with h | h
  · rw [Nat.min_eq_left (by omega), List.take_of_length_le (by rw [List.length_drop, L_len]; omega)]
  · rw [List.length_eq_zero_iff.mp (show (L x).length = 0 by rw [L_len]; omega)]; simp
theorem two_halves (x : Str) : L x = L (Txt.slice x none (some 1)) ++ L (Txt.slice x (some 1) none) := by rw [slice_head, slice_tail, List.take_append_drop]
theorem ab_L {x : Str} : Ab x ↔ ∀ c ∈ L x, c = 97 ∨ c = 98 := ⟨fun h c hc => h c (Array.mem_toList_iff.mp hc), fun h c hc => h c (Array.mem_toList_iff.mpr hc)⟩
theorem half_ab {x : Str} (h : Ab x) : Ab (Txt.slice x none (some 1)) ∧ Ab (Txt.slice x (some 1) none) := by
  have h' := ab_L.mp h
  rw [two_halves] at h'
  exact ⟨ab_L.mpr fun c hc => h' c (List.mem_append_left _ hc), ab_L.mpr fun c hc => h' c (List.mem_append_right _ hc)⟩
end Mine

end

section -- Lw1
open PySem PySem.W PySem.Calls PyProof.Rows Builtin Builtin.Str
set_option maxRecDepth 100000
set_option maxHeartbeats 4000000
namespace Mine
theorem fill9 : (PySem.Challenge.rw_gk0002_01, hd.heap_39) = (PySem.Challenge.rw_gk0002_01, hd.heap_39) := by k_fill; rfl
local macro_rules | `(tactic| walk_at "eval Name") => `(tactic| (k_here; (with_reducible rename LM _ _ => lf'); k_dflt (refine' ld ?k1 ?k2 ?_; (case k1 => k_asm); (case k2 => with_unfolding_all exact lf' _ _ rfl))))
theorem law1 {w : World} {mean : ExcName → Option Value} {mg mb : Str → Option Value} {base : Heap} {L fa : Addr} {ccd : Value} {m : Str → Option Value} {s : Shared} {Q : Flow → Shared → Prop} {E : Value → Shared → Prop}
    {S : Addr} {vs : List Value} {ns : List Int}
    (X : (hd.heap_39 w.params).In base) (T : Top hd.view_39 [] mean mg mb base) (F : Fr base L s.heap m) (N : News base L s.heap [])
    (lm : LM [(Str.ofString "script", .ref S)] m)
    (hS : base.IsList S vs.toArray) (hi : IntsAre vs ns) (hz : ns.length ≤ 63)
    (hret : ∀ h' tk P l word tw n, Fr base L h' (fun z => if z = Str.ofString "word" then some (.str word tw) else if z = Str.ofString "pieces" then some (.ref P) else m z) → News base L h' [(P, W.listOf (strValues l).toArray n)] →
      2 ≤ l.length → l.length ≤ 4 → (∀ p ∈ l, Ab p.1 ∧ p.1.length ≤ 3) → Ab word → word.length ≤ 9 → Q .next { s with heap := h', toks := tk }) :
    wpC (model PySem.Challenge.pw_gk0002_01 w) (ktrTop (claimMargin + 2) 7 (some []) (Str.ofString "law") lawScope L fa ccd [] []) (exec (lawSt 0) (envOf (Str.ofString "law") lawScope L fa ccd)) Q E s := by
  rw [show lawSt 0 = Stmt.Assign _ _ _ from rfl, show lawScope = Scope.mk _ _ _ _ _ from rfl]
  refine wpC_Assign_Tuple (wpC_Call_Name rfl ?_)
  k_steps
  k_dflt (refine' wpC_callK X ?ho ?hh ?he; (case ho => k_is); (case he => rfl))
  k_steps
  refine dr_call (by decide) (by decide) (X.keeps F.keep) (T.keeps F.keep) (Fr.lst F hS) hi hz (fun R P l word tw nD h' tk hk h2 h4 hl hw hw9 hR hP hPn hRn hne => ?_)
  have F1 := fr_kept F hk
  have N1 : News base L h' [(R, { cls := .type "tuple", data := .seq #[.ref P, .str word tw] }), (P, W.listOf (strValues l).toArray nD)] := by
    have off : ∀ a, s.heap.get? a = none → a ≠ L ∧ base.get? a = none := fun a ha => by
      refine ⟨?_, ?_⟩
      · rintro rfl
        obtain ⟨o, _, _, ho, _⟩ := F.ns
        rw [ha] at ho
        cases ho
      · cases e : base.get? a with
        | none => rfl
        | some o =>
          rw [F.keep a o e] at ha
          cases ha
    intro p hp
    rcases List.mem_cons.mp hp with rfl | hp
    · exact ⟨hR, off _ hRn⟩
    · rw [List.mem_singleton.mp hp]
      exact ⟨hP, off _ hPn⟩
  clear F N
  k_steps
  rename Fr _ _ _ _ => F2
  rename News _ _ _ _ => N2
  exact hret _ _ P l word tw nD F2 (fun p hp => N2 p (List.Mem.tail _ hp)) h2 h4 hl hw hw9
end Mine

end

section -- Lw2
open PySem PySem.W PySem.Calls PyProof.Rows Builtin Builtin.Str
set_option maxRecDepth 100000
set_option maxHeartbeats 4000000
namespace Mine
theorem fill8 : (PySem.Challenge.rw_gk0002_01, hd.heap_39) = (PySem.Challenge.rw_gk0002_01, hd.heap_39) := by k_fill; rfl
local macro_rules | `(tactic| walk_at "call ref") => `(tactic| refine Stop.out ?_)
local macro_rules | `(tactic| walk_at "eval Name") => `(tactic| (k_here; (with_reducible rename LM _ _ => lf'); k_dflt (refine' ld ?k1 ?k2 ?_; (case k1 => k_asm); (case k2 => with_unfolding_all exact lf' _ _ rfl))))
theorem law2 {w : World} {mean : ExcName → Option Value} {mg mb : Str → Option Value} {base : Heap} {L fa : Addr} {ccd : Value} {m : Str → Option Value} {s : Shared} {Q : Flow → Shared → Prop} {E : Value → Shared → Prop}
    {S P : Addr} {word : Str} {tw : Tok} {l : List (Str × Tok)} {n : Nat}
    (X : (hd.heap_39 w.params).In base) (T : Top hd.view_39 [] mean mg mb base) (F : Fr base L s.heap m) (N : News base L s.heap [(P, W.listOf (strValues l).toArray n)])
    (lm : LM [(Str.ofString "script", .ref S), (Str.ofString "pieces", .ref P), (Str.ofString "word", .str word tw)] m)
    (h2 : 2 ≤ l.length) (h4 : l.length ≤ 4) (hl : ∀ p ∈ l, Ab p.1 ∧ p.1.length ≤ 3) (hw : Ab word) (hw9 : word.length ≤ 9)
    (hret : ∀ h' tk, Fr base L h' (fun z => if z = Str.ofString "due" then some (.bool (fitB (l.map (·.1)) word)) else m z) → News base L h' [(P, W.listOf (strValues l).toArray n)] → Q .next { s with heap := h', toks := tk }) :
    wpC (model PySem.Challenge.pw_gk0002_01 w) (ktrTop (claimMargin + 2) 7 (some []) (Str.ofString "law") lawScope L fa ccd [] []) (exec (lawSt 1) (envOf (Str.ofString "law") lawScope L fa ccd)) Q E s := by
  rw [show lawSt 1 = Stmt.Assign _ _ _ from rfl, show lawScope = Scope.mk _ _ _ _ _ from rfl]
  refine wpC_any ?_
  k_steps
  unfold Stop
  refine lf_list (by decide) (by decide) (X.keeps F.keep) (T.keeps F.keep) (N.isList (List.Mem.head _)) h2 (by omega) (fun p hp => Nat.le_trans (hl p hp).2 (by decide)) (by omega) (fun h' tk hk => ?_)
  have F1 := fr_kept F hk
  have N1 := N.grown hk
  clear F N
  k_steps
  rename Fr _ _ _ _ => F2
  rename News _ _ _ _ => N2
  exact hret _ _ F2 N2
end Mine

end

section -- Lw3
open PySem PySem.W PySem.Calls PyProof.Rows Builtin Builtin.Str
set_option maxRecDepth 100000
set_option maxHeartbeats 4000000
namespace Mine
theorem fill10 : (PySem.Challenge.rw_gk0002_01, hd.heap_39) = (PySem.Challenge.rw_gk0002_01, hd.heap_39) := by k_fill; rfl
local macro_rules | `(tactic| walk_at "eval Name") => `(tactic| (k_here; (with_reducible rename LM _ _ => lf'); k_dflt (refine' ld ?k1 ?k2 ?_; (case k1 => k_asm); (case k2 => with_unfolding_all exact lf' _ _ rfl))))
theorem strs_small {l : List (Str × Tok)} (h : l.length ≤ 4) : (strValues l).toArray.size ≤ sizeLine := by
  have : sizeLine = 16777216 := by decide
  rw [List.size_toArray, len_strValues]; omega
local macro_rules | `(tactic| walk_at "subscriptTail Name Slice ref ref") => `(tactic| (k_here; (with_reducible show wpAny _ _ (subscriptTail _ (PySem.Expr.Slice none none (some _) _) (Value.ref _) (Value.ref _)) _ _ _); k_dflt (refine' krv_lit ?F ?N ?l ?k ?e ?_ ?s ?t ?z; (case F => k_asm); (case N => k_asm); (case l => exact News.isList (by k_asm) (by k_mem)); (case k => exact IsPart.int _ _); (case e => exact rfl); (case s => with_unfolding_all rfl); (case t => kmk_pure); (case z => exact strs_small (by assumption))); intro D' h' F' N' l1; (try k_lt l1)))
theorem rev_at {l : List (Str × Tok)} {i : Nat} {v : Value} (h : (strValues l).toArray.toList.reverse.toArray[i]? = some v) : ∃ p ∈ l, v = .str p.1 p.2 := by
  have h1 : (strValues l).reverse[i]? = some v := by simpa using h
  have h2 := List.mem_reverse.mp (List.mem_of_getElem? h1)
  obtain ⟨p, hp, e⟩ := List.mem_map.mp h2
  exact ⟨p, hp, e.symm⟩
def FT (v y : Value) : Prop := ∃ x t t', v = .str x t ∧ y = .str (revS x) t'
theorem paired_ft : ∀ {l : List (Str × Tok)} {ys : List Value}, Paired FT (strValues l) ys → ∃ lb, ys = strValues lb ∧ lb.map (·.1) = (l.map (·.1)).map revS
  | [], _, .nil => ⟨[], rfl, rfl⟩
  | _ :: l, _, .cons h r => by
    obtain ⟨x, t, t', e, rfl⟩ := h
    obtain ⟨lb, rfl, e2⟩ := paired_ft (l := l) r
    cases e
    exact ⟨(revS _, t') :: lb, rfl, by simp [e2]⟩
theorem back_texts {l : List (Str × Tok)} {ys : Array Value} (h : Paired FT (strValues l).toArray.toList.reverse.toArray.toList ys.toList) : ∃ lb, ys = (strValues lb).toArray ∧ lb.map (·.1) = backS (l.map (·.1)) := by
  have e : (strValues l).toArray.toList.reverse.toArray.toList = strValues l.reverse := by simp [strValues]
  rw [e] at h
  obtain ⟨lb, e1, e2⟩ := paired_ft h
  refine ⟨lb, by rw [← e1], ?_⟩
  rw [e2]
  unfold backS
  rw [List.map_reverse, List.map_reverse]
theorem news_of {base h h' : Heap} {Lc D : Addr} {m : Str → Option Value} {o : Obj} {news : List (Addr × Obj)} (F : Fr base Lc h m) (N : News base Lc h news) (hk : ∀ b o, h.get? b = some o → h'.get? b = some o)
    (hD : h.get? D = none) (ho : h'.get? D = some o) : News base Lc h' ((D, o) :: news) := fun p hp => by
  rcases List.mem_cons.mp hp with rfl | hp
  · refine ⟨ho, ?_, ?_⟩
    · rintro rfl
      obtain ⟨ol, _, _, hol, _⟩ := F.ns
      rw [hol] at hD; cases hD
    · cases e : base.get? D with
      | none => rfl
      | some o' => rw [F.keep D o' e] at hD; cases hD
  · exact ⟨hk _ _ (N p hp).1, (N p hp).2⟩
local macro_rules | `(tactic| walk_at "eval Name") => `(tactic| ((with_reducible show wpAny _ _ (PySem.eval (Expr.Name _ _) (compEnvC _ _ _ _)) _ _ _); k_dflt (refine' name_comp ?n1 ?n2 ?n3 ?n4 ?n5 ?_; (case n1 => decide); (case n2 => decide); (case n3 => rfl); (case n4 => k_asm); (case n5 => assumption))))
theorem law3 {w : World} {mean : ExcName → Option Value} {mg mb : Str → Option Value} {base : Heap} {L fa : Addr} {ccd : Value} {m : Str → Option Value} {s : Shared} {Q : Flow → Shared → Prop} {E : Value → Shared → Prop}
    {S P : Addr} {word : Str} {tw : Tok} {l : List (Str × Tok)} {n : Nat} {due : Bool}
    (X : (hd.heap_39 w.params).In base) (T : Top hd.view_39 [] mean mg mb base) (F : Fr base L s.heap m) (N : News base L s.heap [(P, W.listOf (strValues l).toArray n)])
    (lm : LM [(Str.ofString "script", .ref S), (Str.ofString "pieces", .ref P), (Str.ofString "word", .str word tw), (Str.ofString "due", .bool due)] m)
    (h2 : 2 ≤ l.length) (h4 : l.length ≤ 4) (hl : ∀ p ∈ l, Ab p.1 ∧ p.1.length ≤ 3) (hw : Ab word) (hw9 : word.length ≤ 9)
    (hret : ∀ h' tk B lb nb tm, lb.map (·.1) = backS (l.map (·.1)) → Fr base L h' (fun z => if z = Str.ofString "back" then some (.ref B) else if z = Str.ofString "mirror" then some (.str (revS word) tm) else m z) →
      News base L h' [(B, W.listOf (strValues lb).toArray nb), (P, W.listOf (strValues l).toArray n)] → Q .next { s with heap := h', toks := tk }) :
    wpC (model PySem.Challenge.pw_gk0002_01 w) (ktrTop (claimMargin + 2) 7 (some []) (Str.ofString "law") lawScope L fa ccd [] []) (exec (lawSt 2) (envOf (Str.ofString "law") lawScope L fa ccd)) Q E s := by
  rw [show lawSt 2 = Stmt.Assign _ _ _ from rfl, show lawScope = Scope.mk _ _ _ _ _ from rfl]
  refine wpC_Assign_Tuple_swapped (names := [Str.ofString "back", Str.ofString "mirror"]) (wpC_Tuple (wpC_items_cons (wpC_ListComp_L FT (cl := []) (by rfl) (by rfl) (by decide) rfl (by decide) rfl ?_)))
  k_steps
  rename Fr _ _ _ _ => F1
  rename News _ _ _ _ => N1
  have X1 := X.keeps F1.keep
  have T1 := T.keeps F1.keep
  have hD := News.isList N1 (List.Mem.head _)
  refine fun _ => ⟨_, _, rfl, hD, ?_, ?_, ?_⟩
  · have := strs_small h4
    simpa using this
  · intro C i v s₃ m₃ hC hv hns hm hk
    obtain ⟨p, hp, rfl⟩ := rev_at hv
    obtain ⟨FC, NC⟩ := comp_frame hD hns hk hC
    have hx := hl p hp
    clear F N F1 N1 hret
    refine wpC_Call_Name rfl ?_
    clear hk hns hC hv
    clear X T
    k_steps
    k_dflt (refine' wpC_callK X1 ?ho ?hh ?he; (case ho => k_is); (case he => rfl))
    k_steps
    refine lt_call (by decide) (by decide) (X1.keeps FC.keep) (T1.keeps FC.keep) (ab_ascii hx.1) (Nat.le_trans hx.2 (by decide)) (fun h' tk t' hk => ?_)
    exact ⟨⟨p.1, p.2, t', rfl, rfl⟩, h', tk, rfl, hk⟩
  · intro B h' tk ys hBn hpl hF hk
    obtain ⟨lb, e1, e2⟩ := back_texts hF
    obtain ⟨nb, hpl⟩ := hpl
    have F2 := fr_kept F1 hk
    have N2 := news_of F1 N1 hk hBn hpl
    clear F N F1 N1 hF hk hBn hpl
    rw [e1] at N2
    refine wpC_items_cons (wpC_Call_Name rfl ?_)
    k_steps
    k_dflt (refine' wpC_callK X ?ho2 ?hh2 ?he2; (case ho2 => k_is); (case he2 => rfl))
    k_steps
    refine lt_call (by decide) (by decide) (X.keeps F2.keep) (T.keeps F2.keep) (ab_ascii hw) (by omega) (fun h3 tk3 t3 hk3 => ?_)
    have F3 := fr_kept F2 hk3
    have N3 : News base L h3 [(B, W.listOf (strValues lb).toArray nb), (P, W.listOf (strValues l).toArray n)] := fun p hp => by
      rcases List.mem_cons.mp hp with rfl | hp
      · exact N2.grown hk3 _ (List.Mem.head _)
      · rw [List.mem_singleton.mp hp]
        exact N2.grown hk3 _ (List.Mem.tail _ (List.Mem.tail _ (List.Mem.head _)))
    clear F2 N2 hk3 X1 T1 hD
    refine wpC_items_nil ?_
    k_steps
    rename Fr _ _ _ _ => F4
    rename News _ _ _ _ => N4
    exact hret _ _ B lb nb t3 e2 F4 (fun p hp => N4 p (List.Mem.tail _ hp))
end Mine

end

section -- Lw4
open PySem PySem.W PySem.Calls PyProof.Rows Builtin Builtin.Str
set_option maxRecDepth 100000
set_option maxHeartbeats 4000000
namespace Mine
theorem fill11 : (PySem.Challenge.rw_gk0002_01, hd.heap_39) = (PySem.Challenge.rw_gk0002_01, hd.heap_39) := by k_fill; rfl
local macro_rules | `(tactic| walk_at "call ref") => `(tactic| refine Stop.out ?_)
local macro_rules | `(tactic| walk_at "eval Name") => `(tactic| (k_here; (with_reducible rename LM _ _ => lf'); k_dflt (refine' ld ?k1 ?k2 ?_; (case k1 => k_asm); (case k2 => with_unfolding_all exact lf' _ _ rfl))))
theorem slice_rev (x : Str) (u : Tok) : Txt.sliceBy x none none (-1, u) = revS x := by
  apply L_inj
  show (Txt.sliceBy x none none (-1, u)).cps.toList = _
  rw [step_rev_list, L_rev]
  apply List.ext_getElem
  · rw [List.length_map, List.length_range, List.length_reverse, L_len]
  · intro i h1 h2
    rw [List.length_map, List.length_range] at h1
    rw [List.getElem_map, List.getElem_range, List.getElem_reverse]
    have h3 : x.length - 1 - i < x.cps.size := by unfold Str.length at h1 ⊢; omega
    simp only [L, Array.getElem_toList, Array.length_toList]
    rw [Array.getD_eq_getD_getElem?, Array.getElem?_eq_getElem h3]
    rfl
abbrev known4 (S P B : Addr) (word : Str) (tw tm : Tok) (due : Bool) : List (Str × Value) := [(Str.ofString "script", .ref S), (Str.ofString "pieces", .ref P), (Str.ofString "word", .str word tw), (Str.ofString "due", .bool due), (Str.ofString "mirror", .str (revS word) tm), (Str.ofString "back", .ref B)]
theorem law4 {w : World} {mean : ExcName → Option Value} {mg mb : Str → Option Value} {base : Heap} {L fa : Addr} {ccd : Value} {m : Str → Option Value} {s : Shared} {Q : Flow → Shared → Prop} {E : Value → Shared → Prop}
    {S P B : Addr} {word : Str} {tw tm : Tok} {l lb : List (Str × Tok)} {n nb : Nat} {due : Bool}
    (X : (hd.heap_39 w.params).In base) (T : Top hd.view_39 [] mean mg mb base) (F : Fr base L s.heap m) (N : News base L s.heap [(B, W.listOf (strValues lb).toArray nb), (P, W.listOf (strValues l).toArray n)])
    (lm : LM (known4 S P B word tw tm due) m) (hdue : due = fitB (l.map (·.1)) word) (hb : lb.map (·.1) = backS (l.map (·.1)))
    (h2 : 2 ≤ l.length) (h4 : l.length ≤ 4) (hl : ∀ p ∈ l, Ab p.1 ∧ p.1.length ≤ 3) (hw : Ab word) (hw9 : word.length ≤ 9)
    (hret : ∀ h' tk, Fr base L h' m → News base L h' [(B, W.listOf (strValues lb).toArray nb), (P, W.listOf (strValues l).toArray n)] → Q .next { s with heap := h', toks := tk }) :
    wpC (model PySem.Challenge.pw_gk0002_01 w) (ktrTop (claimMargin + 2) 7 (some []) (Str.ofString "law") lawScope L fa ccd [] []) (exec (lawSt 3) (envOf (Str.ofString "law") lawScope L fa ccd)) Q E s := by
  rw [show lawSt 3 = Stmt.If _ _ _ _ from rfl, show lawScope = Scope.mk _ _ _ _ _ from rfl]
  refine wpC_If (wpC_isTrue_BoolOp (wpC_allTrue_Or_cons (wpC_any ?_)))
  k_steps
  · rename_i hne
    rw [slice_rev] at hne
    simp at hne
  rename_i hne
  clear hne
  rename Fr _ _ _ _ => F1
  rename News _ _ _ _ => N1
  refine wpC_allTrue_Or_cons (wpC_isTrue_Compare1 (wpC_Call_Name rfl ?_))
  k_steps
  k_dflt (refine' wpC_callK X ?ho ?hh ?he; (case ho => k_is); (case he => rfl))
  k_steps
  refine lt_call (by decide) (by decide) (X.keeps F1.keep) (T.keeps F1.keep) (ab_ascii (ab_rev hw)) (by rw [rev_length]; omega) (fun h' tk t' hk => ?_)
  rw [rev_rev]
  have F2 := fr_kept F1 hk
  have N2 := N1.grown hk
  clear F1 N1
  k_steps
  · rename_i hne
    simp at hne
  rename_i hne
  clear hne hk
  rename Fr _ _ _ _ => F1
  rename News _ _ _ _ => N1
  refine wpC_allTrue_Or_cons (wpC_any ?_)
  k_steps
  unfold Stop
  have hlb := congrArg List.length hb
  rw [back_length, List.length_map, List.length_map] at hlb
  have hlen : ∀ p ∈ lb, p.1.length ≤ 20 := fun p hp => by
    have hm : p.1 ∈ backS (l.map (·.1)) := hb ▸ List.mem_map_of_mem hp
    exact Nat.le_trans (back_len (n := 3) (fun q hq => by obtain ⟨r, hr, rfl⟩ := List.mem_map.mp hq; exact (hl r hr).2) _ hm) (by decide)
  refine lf_list (by decide) (by decide) (X.keeps F1.keep) (T.keeps F1.keep) (N1.isList (List.Mem.head _)) (by omega) (by omega) hlen (by rw [rev_length]; omega) (fun h' tk hk => ?_)
  rw [hb, fit_back (by rw [List.length_map]; exact h2), ← hdue]
  have F2 := fr_kept F1 hk
  have N2 := N1.grown hk
  clear F1 N1
  k_steps
  · rename_i hne
    simp at hne
  refine wpC_pure ?_
  refine wpC_any ?_
  show wpAny _ _ (execs [] _) _ _ _
  k_steps
  rename Fr _ _ _ _ => F1
  rename News _ _ _ _ => N1
  exact hret _ _ F1 N1
end Mine

end

section -- Lw5
open PySem PySem.W PySem.Calls PyProof.Rows Builtin Builtin.Str
set_option maxRecDepth 100000
set_option maxHeartbeats 4000000
namespace Mine
theorem fill12 : (PySem.Challenge.rw_gk0002_01, hd.heap_39) = (PySem.Challenge.rw_gk0002_01, hd.heap_39) := by k_fill; rfl
local macro_rules | `(tactic| walk_at "call ref") => `(tactic| refine Stop.out ?_)
local macro_rules | `(tactic| walk_at "call builtin:str.join") => `(tactic| refine Stop.out ?_)
local macro_rules | `(tactic| walk_at "eval Name") => `(tactic| (k_here; (with_reducible rename LM _ _ => lf'); k_dflt (refine' ld ?k1 ?k2 ?_; (case k1 => k_asm); (case k2 => with_unfolding_all exact lf' _ _ rfl))))
theorem law5 {w : World} {mean : ExcName → Option Value} {mg mb : Str → Option Value} {base : Heap} {L fa : Addr} {ccd : Value} {m : Str → Option Value} {s : Shared} {Q : Flow → Shared → Prop} {E : Value → Shared → Prop}
    {S P B : Addr} {word : Str} {tw tm : Tok} {l lb : List (Str × Tok)} {n nb : Nat} {due : Bool}
    (X : (hd.heap_39 w.params).In base) (T : Top hd.view_39 [] mean mg mb base) (F : Fr base L s.heap m) (N : News base L s.heap [(B, W.listOf (strValues lb).toArray nb), (P, W.listOf (strValues l).toArray n)])
    (lm : LM [(Str.ofString "script", .ref S), (Str.ofString "pieces", .ref P), (Str.ofString "word", .str word tw), (Str.ofString "due", .bool due), (Str.ofString "mirror", .str (revS word) tm), (Str.ofString "back", .ref B)] m) (hdue : due = fitB (l.map (·.1)) word) (hb : lb.map (·.1) = backS (l.map (·.1)))
    (h2 : 2 ≤ l.length) (h4 : l.length ≤ 4) (hl : ∀ p ∈ l.map (·.1), Ab p ∧ p.length ≤ 3) (hw : Ab word) (hw9 : word.length ≤ 9)
    (hret : ∀ h' tk, Fr base L h' m → News base L h' [(B, W.listOf (strValues lb).toArray nb), (P, W.listOf (strValues l).toArray n)] → Q .next { s with heap := h', toks := tk }) :
    wpC (model PySem.Challenge.pw_gk0002_01 w) (ktrTop (claimMargin + 2) 7 (some []) (Str.ofString "law") lawScope L fa ccd [] []) (exec (lawSt 4) (envOf (Str.ofString "law") lawScope L fa ccd)) Q E s := by
  rw [show lawSt 4 = Stmt.If _ _ _ _ from rfl, show lawScope = Scope.mk _ _ _ _ _ from rfl]
  have hps : 2 ≤ (l.map (·.1)).length := by rw [List.length_map]; exact h2
  have hps4 : (l.map (·.1)).length ≤ 4 := by rw [List.length_map]; exact h4
  have hbl : (backS (l.map (·.1))).length ≤ 4 := by rw [back_length]; exact hps4
  have hbl2 : 2 ≤ (backS (l.map (·.1))).length := by rw [back_length]; exact hps
  have hl3 : ∀ p ∈ l.map (·.1), p.length ≤ 3 := fun p hp => (hl p hp).2
  have hb3 := back_len hl3
  have hla : ∀ p ∈ l.map (·.1), Ab p := fun p hp => (hl p hp).1
  have hba := back_ab hla
  have hrw : (revS word).length = word.length := rev_length word
  have hfb : fitB (backS (l.map (·.1))) (revS word) = due := by rw [hdue]; exact fit_back hps word
  refine wpC_any ?_
  k_steps
  unfold Stop
  refine SC.join (l := l) (N.isList (List.Mem.tail _ (List.Mem.head _))) rfl (join_ok hl3 (by omega)) (fun t5 k5 => ?_)
  k_steps
  unfold Stop
  refine em_join (by decide) (by decide) (X.keeps F.keep) (T.keeps F.keep) rfl hps (by omega) hla (fun p hp => Nat.le_trans (hl3 p hp) (by decide)) (by omega) (fun h' tk hk => ?_)
  rw [← hdue]
  have F1 := fr_kept F hk
  have N1 := N.grown hk
  clear F N hk
  k_steps
  · rename_i hne
    simp at hne
  rename_i hne
  clear hne
  unfold Stop
  refine SC.join (l := lb) (N1.isList (List.Mem.head _)) hb (join_ok hb3 (by omega)) (fun t6 k6 => ?_)
  k_steps
  unfold Stop
  refine em_join (by decide) (by decide) (X.keeps F1.keep) (T.keeps F1.keep) rfl hbl2 (by omega) hba (fun p hp => Nat.le_trans (hb3 p hp) (by decide)) (by omega) (fun h' tk hk => ?_)
  rw [hfb]
  have F2 := fr_kept F1 hk
  have N2 := N1.grown hk
  clear F1 N1 hk
  k_steps
  · rename_i hne
    simp at hne
  rename Fr _ _ _ _ => F3
  rename News _ _ _ _ => N3
  exact hret _ _ F3 N3
end Mine

end

section -- Lw6
open PySem PySem.W PySem.Calls PyProof.Rows Builtin Builtin.Str
set_option maxRecDepth 100000
set_option maxHeartbeats 4000000
namespace Mine
theorem fill13 : (PySem.Challenge.rw_gk0002_01, hd.heap_39) = (PySem.Challenge.rw_gk0002_01, hd.heap_39) := by k_fill; rfl
local macro_rules | `(tactic| walk_at "call ref") => `(tactic| refine Stop.out ?_)
local macro_rules | `(tactic| walk_at "call builtin:str.join") => `(tactic| refine Stop.out ?_)
local macro_rules | `(tactic| walk_at "eval Name") => `(tactic| (k_here; (with_reducible rename LM _ _ => lf'); k_dflt (refine' ld ?k1 ?k2 ?_; (case k1 => k_asm); (case k2 => with_unfolding_all exact lf' _ _ rfl))))
theorem law6 {w : World} {mean : ExcName → Option Value} {mg mb : Str → Option Value} {base : Heap} {L fa : Addr} {ccd : Value} {m : Str → Option Value} {s : Shared} {Q : Flow → Shared → Prop} {E : Value → Shared → Prop}
    {S P B : Addr} {word : Str} {tw tm : Tok} {l lb : List (Str × Tok)} {n nb : Nat} {due : Bool}
    (X : (hd.heap_39 w.params).In base) (T : Top hd.view_39 [] mean mg mb base) (F : Fr base L s.heap m) (N : News base L s.heap [(B, W.listOf (strValues lb).toArray nb), (P, W.listOf (strValues l).toArray n)])
    (lm : LM [(Str.ofString "script", .ref S), (Str.ofString "pieces", .ref P), (Str.ofString "word", .str word tw), (Str.ofString "due", .bool due), (Str.ofString "mirror", .str (revS word) tm), (Str.ofString "back", .ref B)] m) (hdue : due = fitB (l.map (·.1)) word) (hb : lb.map (·.1) = backS (l.map (·.1)))
    (h2 : 2 ≤ l.length) (h4 : l.length ≤ 4) (hl : ∀ p ∈ l.map (·.1), Ab p ∧ p.length ≤ 3) (hw : Ab word) (hw9 : word.length ≤ 9)
    (hret : ∀ h' tk, Fr base L h' m → News base L h' [(B, W.listOf (strValues lb).toArray nb), (P, W.listOf (strValues l).toArray n)] → Q .next { s with heap := h', toks := tk }) :
    wpC (model PySem.Challenge.pw_gk0002_01 w) (ktrTop (claimMargin + 2) 7 (some []) (Str.ofString "law") lawScope L fa ccd [] []) (exec (lawSt 5) (envOf (Str.ofString "law") lawScope L fa ccd)) Q E s := by
  rw [show lawSt 5 = Stmt.If _ _ _ _ from rfl, show lawScope = Scope.mk _ _ _ _ _ from rfl]
  have hps : 2 ≤ (l.map (·.1)).length := by rw [List.length_map]; exact h2
  have hps4 : (l.map (·.1)).length ≤ 4 := by rw [List.length_map]; exact h4
  have hbl : (backS (l.map (·.1))).length ≤ 4 := by rw [back_length]; exact hps4
  have hbl2 : 2 ≤ (backS (l.map (·.1))).length := by rw [back_length]; exact hps
  have hl3 : ∀ p ∈ l.map (·.1), p.length ≤ 3 := fun p hp => (hl p hp).2
  have hb3 := back_len hl3
  have hla : ∀ p ∈ l.map (·.1), Ab p := fun p hp => (hl p hp).1
  have hba := back_ab hla
  have hrw : (revS word).length = word.length := rev_length word
  have hfb : fitB (backS (l.map (·.1))) (revS word) = due := by rw [hdue]; exact fit_back hps word
  refine wpC_If (wpC_isTrue_Compare1 (wpC_Call_Name rfl ?_))
  k_steps
  k_dflt (refine' wpC_callK X ?ho ?hh ?he; (case ho => k_is); (case he => rfl))
  k_steps
  unfold Stop
  refine SC.join (l := l) (N.isList (List.Mem.tail _ (List.Mem.head _))) rfl (join_ok hl3 (by omega)) (fun t5 k5 => ?_)
  k_steps
  have hj : (Txt.join dots (l.map (·.1))).length ≤ 1000 := Nat.le_trans (join_len hl3) (by omega)
  refine lt_call (by decide) (by decide) (X.keeps F.keep) (T.keeps F.keep) (ascii_join hla) hj (fun h' tk t' hk => ?_)
  rw [rev_join]
  have F1 := fr_kept F hk
  have N1 := N.grown hk
  clear F N hk
  k_steps
  unfold Stop
  refine SC.join (l := lb) (N1.isList (List.Mem.head _)) hb (join_ok hb3 (by omega)) (fun t6 k6 => ?_)
  k_steps
  · rename_i hne
    simp at hne
  refine wpC_any ?_
  show wpAny _ _ (execs [] _) _ _ _
  k_steps
  rename Fr _ _ _ _ => F3
  rename News _ _ _ _ => N3
  exact hret _ _ F3 N3
end Mine

end

section -- Lw7
open PySem PySem.W PySem.Calls PyProof.Rows Builtin Builtin.Str
set_option maxRecDepth 100000
set_option maxHeartbeats 4000000
namespace Mine
theorem fill14 : (PySem.Challenge.rw_gk0002_01, hd.heap_39) = (PySem.Challenge.rw_gk0002_01, hd.heap_39) := by k_fill; rfl
local macro_rules | `(tactic| walk_at "eval Name") => `(tactic| (k_here; (with_reducible rename LM _ _ => lf'); k_dflt (refine' ld ?k1 ?k2 ?_; (case k1 => k_asm); (case k2 => with_unfolding_all exact lf' _ _ rfl))))
local macro_rules | `(tactic| walk_at "subscriptTail") => `(tactic| ((with_reducible show wpAny _ _ (subscriptTail _ _ (Value.ref _) (Value.int 0 _)) _ _ _); (refine item_first (by k_asm) (by k_mem) ?_ (by with_unfolding_all rfl))))
local macro_rules | `(tactic| walk_at "subscriptTail") => `(tactic| ((with_reducible show wpAny _ _ (subscriptTail _ _ (Value.ref _) (Value.int (-1) _)) _ _ _); (refine item_last1 (by k_asm) (by k_mem) ?_ (by with_unfolding_all rfl))))
theorem law7 {w : World} {mean : ExcName → Option Value} {mg mb : Str → Option Value} {base : Heap} {L fa : Addr} {ccd : Value} {m : Str → Option Value} {s : Shared} {Q : Flow → Shared → Prop} {E : Value → Shared → Prop}
    {S P B : Addr} {word p0 pl : Str} {tw tm t0 tl : Tok} {lm lb : List (Str × Tok)} {n nb : Nat} {due : Bool}
    (X : (hd.heap_39 w.params).In base) (T : Top hd.view_39 [] mean mg mb base) (F : Fr base L s.heap m)
    (N : News base L s.heap [(B, W.listOf (strValues lb).toArray nb), (P, W.listOf (.str p0 t0 :: (strValues lm ++ [.str pl tl])).toArray n)])
    (lm' : LM [(Str.ofString "script", .ref S), (Str.ofString "pieces", .ref P), (Str.ofString "word", .str word tw), (Str.ofString "due", .bool due), (Str.ofString "mirror", .str (revS word) tm), (Str.ofString "back", .ref B)] m)
    (hret : ∀ h' tk, Fr base L h' (fun z => if z = Str.ofString "first" then some (.str p0 t0) else if z = Str.ofString "last" then some (.str pl tl) else m z) →
      News base L h' [(B, W.listOf (strValues lb).toArray nb), (P, W.listOf (.str p0 t0 :: (strValues lm ++ [.str pl tl])).toArray n)] → Q .next { s with heap := h', toks := tk }) :
    wpC (model PySem.Challenge.pw_gk0002_01 w) (ktrTop (claimMargin + 2) 7 (some []) (Str.ofString "law") lawScope L fa ccd [] []) (exec (lawSt 6) (envOf (Str.ofString "law") lawScope L fa ccd)) Q E s := by
  rw [show lawSt 6 = Stmt.Assign _ _ _ from rfl, show lawScope = Scope.mk _ _ _ _ _ from rfl]
  refine wpC_any ?_
  k_steps
  rename Fr _ _ _ _ => F3
  rename News _ _ _ _ => N3
  exact hret _ _ F3 (fun p hp => N3 p (List.Mem.tail _ hp))
end Mine

end

section -- Lw8
open PySem PySem.W PySem.Calls PyProof.Rows Builtin Builtin.Str
set_option maxRecDepth 100000
set_option maxHeartbeats 4000000
namespace Mine
theorem fill15 : (PySem.Challenge.rw_gk0002_01, hd.heap_39) = (PySem.Challenge.rw_gk0002_01, hd.heap_39) := by k_fill; rfl
local macro_rules | `(tactic| walk_at "call ref") => `(tactic| refine Stop.out ?_)
local macro_rules | `(tactic| walk_at "call builtin:str.join") => `(tactic| refine Stop.out ?_)
local macro_rules | `(tactic| walk_at "subscriptTail Name Slice ref ref") => `(tactic| refine Stop.out ?_)
local macro_rules | `(tactic| walk_at "binaryOp Add ref ref") => `(tactic| refine Stop.out ?_)
local macro_rules | `(tactic| walk_at "call builtin:len") => `(tactic| ((with_reducible show wpAny _ _ (call (Value.builtin "len") [Value.str _ _]) _ _ _); (refine PySem.P.len_str (by omega) ?_)))
local macro_rules | `(tactic| walk_at "eval Name") => `(tactic| (k_here; (with_reducible rename LM _ _ => lf'); k_dflt (refine' ld ?k1 ?k2 ?_; (case k1 => k_asm); (case k2 => with_unfolding_all exact lf' _ _ rfl))))
theorem rest_due {p0 pl word : Str} {mid : List Str} {due : Bool} (hdue : due = fitB (p0 :: (mid ++ [pl])) word) (h3 : (p0.length : Int) + (pl.length : Int) ≤ (word.length : Int)) (h1 : Txt.startswith word p0 = true) (h2 : Txt.endswith word pl = true) :
    fitB (Str.ofString "" :: (mid ++ [Str.ofString ""])) (Txt.slice word (some (p0.length : Int)) (some ((word.length : Int) - (pl.length : Int)))) = due := by
  rw [hdue]
  refine fit_rest rfl rfl h1 h2 (by omega) ?_
  rw [show (word.length : Int) - (pl.length : Int) = ((word.length - pl.length : Nat) : Int) by omega, slice_L word (by omega) (by omega), List.drop_take]
theorem ends_values (lm : List (Str × Tok)) (t t' : Tok) : [Value.str (Str.ofString "") t] ++ strValues lm ++ [Value.str (Str.ofString "") t'] = strValues ((Str.ofString "", t) :: (lm ++ [(Str.ofString "", t')])) := by simp [strValues]
theorem ends_texts (lm : List (Str × Tok)) (t t' : Tok) : ((Str.ofString "", t) :: (lm ++ [(Str.ofString "", t')])).map (·.1) = Str.ofString "" :: (lm.map (·.1) ++ [Str.ofString ""]) := by simp
theorem ends_all {mid : List Str} (hl : ∀ p ∈ mid, Ab p ∧ p.length ≤ 3) : ∀ p ∈ Str.ofString "" :: (mid ++ [Str.ofString ""]), Ab p ∧ p.length ≤ 3 := fun p hp => by
  rcases List.mem_cons.mp hp with rfl | hp
  · exact ⟨ab_empty, by decide⟩
  · rcases List.mem_append.mp hp with hp | hp
    · exact hl p hp
    · rw [List.mem_singleton.mp hp]
      exact ⟨ab_empty, by decide⟩
theorem law8 {w : World} {mean : ExcName → Option Value} {mg mb : Str → Option Value} {base : Heap} {L fa : Addr} {ccd : Value} {m : Str → Option Value} {s : Shared} {Q : Flow → Shared → Prop} {E : Value → Shared → Prop}
    {S P B : Addr} {word p0 pl : Str} {tw tm t0 tl : Tok} {lm lb : List (Str × Tok)} {n nb : Nat} {due : Bool}
    (X : (hd.heap_39 w.params).In base) (T : Top hd.view_39 [] mean mg mb base) (F : Fr base L s.heap m)
    (N : News base L s.heap [(B, W.listOf (strValues lb).toArray nb), (P, W.listOf (.str p0 t0 :: (strValues lm ++ [.str pl tl])).toArray n)])
    (lm' : LM [(Str.ofString "script", .ref S), (Str.ofString "pieces", .ref P), (Str.ofString "word", .str word tw), (Str.ofString "due", .bool due), (Str.ofString "mirror", .str (revS word) tm), (Str.ofString "back", .ref B), (Str.ofString "last", .str pl tl), (Str.ofString "first", .str p0 t0)] m)
    (hdue : due = fitB (p0 :: (lm.map (·.1) ++ [pl])) word) (h4 : lm.length ≤ 2) (hl : ∀ p ∈ lm.map (·.1), Ab p ∧ p.length ≤ 3) (hp0 : p0.length ≤ 3) (hpl : pl.length ≤ 3) (hw9 : word.length ≤ 9)
    (hret : ∀ S' m', Same s S' → Fr base L S'.heap m' → LM [(Str.ofString "script", .ref S), (Str.ofString "pieces", .ref P), (Str.ofString "word", .str word tw), (Str.ofString "due", .bool due), (Str.ofString "mirror", .str (revS word) tm), (Str.ofString "back", .ref B)] m' →
      News base L S'.heap [(B, W.listOf (strValues lb).toArray nb), (P, W.listOf (.str p0 t0 :: (strValues lm ++ [.str pl tl])).toArray n)] → Q .next S') :
    wpC (model PySem.Challenge.pw_gk0002_01 w) (ktrTop (claimMargin + 2) 7 (some []) (Str.ofString "law") lawScope L fa ccd [] []) (exec (lawSt 7) (envOf (Str.ofString "law") lawScope L fa ccd)) Q E s := by
  rw [show lawSt 7 = Stmt.If _ _ _ _ from rfl, show lawScope = Scope.mk _ _ _ _ _ from rfl]
  have lm6 : Stop (LM [(Str.ofString "script", .ref S), (Str.ofString "pieces", .ref P), (Str.ofString "word", .str word tw), (Str.ofString "due", .bool due), (Str.ofString "mirror", .str (revS word) tm), (Str.ofString "back", .ref B)] m) := LM.left (b := [(Str.ofString "last", .str pl tl), (Str.ofString "first", .str p0 t0)]) lm'
  refine wpC_any ?_
  k_steps
  rotate_right
  · refine hret _ _ ?_ F lm6.out N
    repeat (first | exact same_refl _ | refine same_tok ?_ | refine same_heap ?_ | refine same_both ?_)
  rotate_right
  · refine hret _ _ ?_ F lm6.out N
    repeat (first | exact same_refl _ | refine same_tok ?_ | refine same_heap ?_ | refine same_both ?_)
  rotate_right
  · refine hret _ _ ?_ F lm6.out N
    repeat (first | exact same_refl _ | refine same_tok ?_ | refine same_heap ?_ | refine same_both ?_)
  unfold Stop
  rename Fr _ _ _ _ => F1
  rename News _ _ _ _ => N1
  refine slice_any F1 N1 (News.isList N1 (List.Mem.tail _ (List.Mem.tail _ (List.Mem.head _)))) (.int _ _) (.int _ _) (pick_mid _ _ _) (fun D1 h1 F2 N2 l2 => ?_) (by with_unfolding_all rfl) (by kmk_pure) ?_
  rotate_left
  · simp only [List.length_cons, List.length_append, len_strValues, List.length_nil]; omega
  clear F1 N1
  k_steps
  unfold Stop
  refine add_two F2 N2 (News.isList N2 (List.Mem.tail _ (List.Mem.head _))) (News.isList N2 (List.Mem.head _)) (fun D2 h2 F3 N3 => ?_) ?_
  rotate_left
  · simp only [List.length_cons, len_strValues, List.length_nil]; omega
  clear F2 l2
  have N4 : News base L h2 [(D2, W.listOf ([Value.str (Str.ofString "") _] ++ strValues lm).toArray 0), (B, W.listOf (strValues lb).toArray nb), (P, W.listOf (.str p0 t0 :: (strValues lm ++ [.str pl tl])).toArray n)] := fun p hp => by
    rcases List.mem_cons.mp hp with rfl | hp
    · exact N3 _ (List.Mem.head _)
    · exact N3 p (List.Mem.tail _ (List.Mem.tail _ (List.Mem.tail _ hp)))
  clear N2 N3
  k_steps
  unfold Stop
  rename Fr _ _ _ _ => F5
  rename News _ _ _ _ => N5
  refine add_two F5 N5 (News.isList N5 (List.Mem.tail _ (List.Mem.head _))) (News.isList N5 (List.Mem.head _)) (fun D3 h3 F6 N6 => ?_) ?_
  rotate_left
  · simp only [List.length_cons, List.length_append, len_strValues, List.length_nil]; omega
  rw [ends_values] at N6
  clear F5 N5
  k_steps
  unfold Stop
  have hall := ends_all hl
  have hlen : (Str.ofString "" :: (lm.map (·.1) ++ [Str.ofString ""])).length ≤ 4 := by
    simp only [List.length_cons, List.length_append, List.length_map, List.length_nil]; omega
  have hlen2 : 2 ≤ (Str.ofString "" :: (lm.map (·.1) ++ [Str.ofString ""])).length := by
    simp only [List.length_cons, List.length_append, List.length_map, List.length_nil]; omega
  refine SC.join (N6.isList (List.Mem.head _)) (ends_texts _ _ _) (join_ok (n := 3) (fun p hp => (hall p hp).2) (by omega)) (fun t7 k7 => ?_)
  have N7 : News base L h3 [(B, W.listOf (strValues lb).toArray nb), (P, W.listOf (.str p0 t0 :: (strValues lm ++ [.str pl tl])).toArray n)] := fun p hp => N6 p (List.Mem.tail _ (List.Mem.tail _ (List.Mem.tail _ hp)))
  clear N6
  k_steps
  unfold Stop
  refine em_join (by decide) (by decide) (X.keeps F6.keep) (T.keeps F6.keep) rfl hlen2 (by omega) (fun p hp => (hall p hp).1) (fun p hp => Nat.le_trans (hall p hp).2 (by decide)) (by omega) (fun h' tk hk => ?_)
  rw [rest_due hdue (by assumption) (by assumption) (by assumption)]
  have F8 := fr_kept F6 hk
  have N8 := N7.grown hk
  clear F6 N7 hk
  k_steps
  · rename_i hne
    simp at hne
  refine hret _ _ ?_ F8 (LM.skip lm6.out (by rfl)) N8
  repeat (first | exact same_refl _ | refine same_tok ?_ | refine same_heap ?_ | refine same_both ?_)
end Mine

end

section -- Lw9
open PySem PySem.W PySem.Calls PyProof.Rows Builtin Builtin.Str
set_option maxRecDepth 100000
set_option maxHeartbeats 4000000
namespace Mine
theorem fill16 : (PySem.Challenge.rw_gk0002_01, hd.heap_39) = (PySem.Challenge.rw_gk0002_01, hd.heap_39) := by k_fill; rfl
local macro_rules | `(tactic| walk_at "call ref") => `(tactic| refine Stop.out ?_)
local macro_rules | `(tactic| walk_at "pyIter ref") => `(tactic| ((with_reducible show wpAny _ _ (pyIter (Value.ref _)) (fun it s₂ => LoopAtV _ _ _ _ _ _ _ _ _ it s₂) _ _); (refine Stop.out ?_)))
local macro_rules | `(tactic| walk_at "exec For Name Call cons nil") => `(tactic| (k_here; (rename Fr _ _ _ _ => lF'); (with_unfolding_all refine' For_invVF lF' ?k1 ?k2 ?_; (case k1 => exact rfl); (case k2 => exact rfl); k_whole)))
local macro_rules | `(tactic| walk_at "call builtin:str.join") => `(tactic| refine Stop.out ?_)
local macro_rules | `(tactic| walk_at "subscriptTail Name Slice ref ref") => `(tactic| refine Stop.out ?_)
local macro_rules | `(tactic| walk_at "binaryOp Add ref ref") => `(tactic| refine Stop.out ?_)
local macro_rules | `(tactic| walk_at "subscriptTail") => `(tactic| ((with_reducible show wpAny _ _ (subscriptTail _ _ (Value.ref _) (Value.int _ _)) _ _ _); (refine Stop.out ?_)))
local macro_rules | `(tactic| walk_at "subscriptTail") => `(tactic| ((with_reducible show wpAny _ _ (subscriptTail _ _ (Value.str _ _) (Value.ref _)) _ _ _); (refine Stop.out ?_)))
local macro_rules | `(tactic| walk_at "call builtin:len") => `(tactic| ((with_reducible show wpAny _ _ (call (Value.builtin "len") [Value.ref _]) _ _ _); (refine Stop.out ?_)))
local macro_rules | `(tactic| walk_at "eval Name") => `(tactic| (k_here; (with_reducible rename LM _ _ => lf'); k_dflt (refine' ld ?k1 ?k2 ?_; (case k1 => k_asm); (case k2 => with_unfolding_all exact lf' _ _ rfl))))
abbrev known6 (S P B : Addr) (word : Str) (tw tm : Tok) (due : Bool) : List (Str × Value) := [(Str.ofString "script", .ref S), (Str.ofString "pieces", .ref P), (Str.ofString "word", .str word tw), (Str.ofString "due", .bool due), (Str.ofString "mirror", .str (revS word) tm), (Str.ofString "back", .ref B)]
theorem len_small {l : List (Str × Tok)} (h : l.length ≤ 4) : l.length ≤ sizeLine := by have : sizeLine = 16777216 := (by decide); omega
theorem small_text {p : Str} (h : p.length ≤ 3) : p.length ≤ sizeLine := by have : sizeLine = 16777216 := (by decide); omega
theorem more_values (l : List (Str × Tok)) (i : Nat) (a b : Str) (ta tb : Tok) : (strValues l).take i ++ [Value.str a ta, Value.str b tb] ++ (strValues l).drop (i + 1) = strValues (l.take i ++ ((a, ta) :: (b, tb) :: l.drop (i + 1))) := by
  simp [strValues]
theorem more_texts (l : List (Str × Tok)) (i : Nat) (a b : Str) (ta tb : Tok) : (l.take i ++ ((a, ta) :: (b, tb) :: l.drop (i + 1))).map (·.1) = (l.map (·.1)).take i ++ (a :: b :: (l.map (·.1)).drop (i + 1)) := by
  simp
theorem more_all {ps : List Str} {i : Nat} {p a b : Str} (hl : ∀ p ∈ ps, Ab p ∧ p.length ≤ 3) (hab : Ab a ∧ Ab b) (ha : a.length ≤ p.length) (hb : b.length ≤ p.length) (hp : p.length ≤ 3) : ∀ q ∈ ps.take i ++ (a :: b :: ps.drop (i + 1)), Ab q ∧ q.length ≤ 3 := fun q hq => by
  rcases List.mem_append.mp hq with hq | hq
  · exact hl q (List.mem_of_mem_take hq)
  · rcases List.mem_cons.mp hq with rfl | hq
    · exact ⟨hab.1, by omega⟩
    · rcases List.mem_cons.mp hq with rfl | hq
      · exact ⟨hab.2, by omega⟩
      · exact hl q (List.mem_of_mem_drop hq)
theorem law9 {w : World} {mean : ExcName → Option Value} {mg mb : Str → Option Value} {base : Heap} {L fa : Addr} {ccd : Value} {m : Str → Option Value} {s : Shared} {Q : Flow → Shared → Prop}
    {S P B : Addr} {word : Str} {tw tm : Tok} {l lb : List (Str × Tok)} {n nb : Nat} {due : Bool}
    (X : (hd.heap_39 w.params).In base) (T : Top hd.view_39 [] mean mg mb base) (F : Fr base L s.heap m) (N : News base L s.heap [(B, W.listOf (strValues lb).toArray nb), (P, W.listOf (strValues l).toArray n)])
    (lm : LM (known6 S P B word tw tm due) m) (hdue : due = fitB (l.map (·.1)) word)
    (h2 : 2 ≤ l.length) (h4 : l.length ≤ 4) (hl : ∀ p ∈ l.map (·.1), Ab p ∧ p.length ≤ 3) (hw9 : word.length ≤ 9)
    (hret : ∀ S' m', Same s S' → Fr base L S'.heap m' → LM (known6 S P B word tw tm due) m' → News base L S'.heap [(B, W.listOf (strValues lb).toArray nb), (P, W.listOf (strValues l).toArray n)] → Q .next S') :
    wpC (model PySem.Challenge.pw_gk0002_01 w) (ktrTop (claimMargin + 2) 7 (some []) (Str.ofString "law") lawScope L fa ccd [] []) (exec (lawSt 8) (envOf (Str.ofString "law") lawScope L fa ccd)) Q (fun _ _ => False) s := by
  rw [show lawSt 8 = Stmt.For _ _ _ _ _ from rfl, show lawScope = Scope.mk _ _ _ _ _ from rfl]
  refine wpC_any ?_
  k_steps
  unfold Stop
  refine len_list (N.isList (List.Mem.tail _ (List.Mem.head _))) (by rw [List.size_toArray, len_strValues]; omega) ?_
  rw [List.size_toArray, len_strValues]
  k_steps
  unfold Stop
  rename IsRange _ _ _ _ _ _ _ _ => hR
  rename Fr _ _ _ _ => F3
  rename News _ _ _ _ => N3
  refine range_iter (n := l.length) (fun i m' news' => LM (known6 S P B word tw tm due) m' ∧ news' = [(B, W.listOf (strValues lb).toArray nb), (P, W.listOf (strValues l).toArray n)]) (by rfl) hR (small_of (by omega) (by omega) (by omega) (by omega) range_all (by omega) (by omega)) range_all F3 N3 ⟨‹LM _ _›, rfl⟩ ?_ ?_
  · rintro m' _ ⟨lm1, rfl⟩ h tk F N
    refine hret _ m' ?_ F lm1 N
    repeat (first | exact same_refl _ | refine same_tok ?_ | refine same_heap ?_ | refine same_both ?_)
  · rintro Q' I it i ti m' _ h tk hi ⟨lm1, rfl⟩ hoff F N hq hn
    have lm2 := LM.cons (x := Str.ofString "k") (v := .int (0 + (i : Int) * 1) ti) lm1 (by rfl)
    generalize (fun z => if z = Str.ofString "k" then some (Value.int (0 + (i : Int) * 1) ti) else m' z) = m2 at F lm2
    rw [show (0 + (i : Int) * 1) = (i : Int) by omega] at lm2
    clear F3 N3 hR hret
    rename LM _ m => lm0
    clear lm0
    have lm6 : Stop (LM (known6 S P B word tw tm due) m2) := LM.left lm2
    clear lm1
    have hpi : ∃ p tp, l[i]? = some (p, tp) := ⟨_, _, List.getElem?_eq_getElem hi⟩
    obtain ⟨p, tp, hpi⟩ := hpi
    k_steps
    unfold Stop
    refine slice_any F N (News.isList N (List.Mem.tail _ (List.Mem.tail _ (List.Mem.head _)))) .none (.int _ _) (pick_take _ (by rw [len_strValues]; omega)) (fun D1 h1 F1 N1 l1 => ?_) (by with_unfolding_all rfl) (by kmk_pure) (by rw [len_strValues]; omega)
    clear F N
    k_steps
    unfold Stop
    have hv : (strValues l)[(i : Int).toNat]? = some (.str p tp) := by
      rw [Int.toNat_natCast]
      unfold strValues
      rw [List.getElem?_map, hpi]
      rfl
    refine item_litK (News.isList N1 (List.Mem.tail _ (List.Mem.tail _ (List.Mem.tail _ (List.Mem.head _))))) (by omega) (by omega) hv ?_ (by with_unfolding_all rfl)
    k_steps
    unfold Stop
    have hpm : p ∈ l.map (·.1) := List.mem_map_of_mem (f := fun x => x.1) (List.mem_of_getElem? hpi)
    have hp3 := (hl p hpm).2
    have hpz := small_text hp3
    refine slice_strN_ns_len (hsz := hpz) (s := ⟨_, _, _, _, _⟩) (by k_asm) (by k_asm) (fun h2 ta k2 F2 N2 la => ?_)
    clear F1 N1
    k_steps
    unfold Stop
    refine item_litK (News.isList N2 (List.Mem.tail _ (List.Mem.tail _ (List.Mem.tail _ (List.Mem.head _))))) (by omega) (by omega) hv ?_ (by with_unfolding_all rfl)
    k_steps
    unfold Stop
    refine slice_strN_sn_len (hsz := hpz) (s := ⟨_, _, _, _, _⟩) (by k_asm) (by k_asm) (fun h3 tb k3 F3 N3 lb' => ?_)
    clear F2 N2
    k_steps
    unfold Stop
    rename Fr _ _ _ _ => F4
    rename News _ _ _ _ => N4
    refine add_two F4 N4 (News.isList N4 (List.Mem.tail _ (List.Mem.head _))) (News.isList N4 (List.Mem.head _)) (fun D2 h4' F5 N5 => ?_) (by simp only [List.length_cons, List.length_nil, List.length_take, len_strValues]; omega)
    clear F4 N4
    k_steps
    unfold Stop
    have N6 : News base L h4' [(D2, _), (I, it), (B, W.listOf (strValues lb).toArray nb), (P, W.listOf (strValues l).toArray n)] := fun q hq => by
      rcases List.mem_cons.mp hq with rfl | hq
      · exact N5 _ (List.Mem.head _)
      · exact N5 q (List.Mem.tail _ (List.Mem.tail _ (List.Mem.tail _ hq)))
    clear N5
    refine slice_any F5 N6 (News.isList N6 (List.Mem.tail _ (List.Mem.tail _ (List.Mem.tail _ (List.Mem.head _))))) (.int _ _) .none (pick_drop _ (by rw [len_strValues]; omega)) (fun D3 h5 F7 N7 l7 => ?_) (by with_unfolding_all rfl) (by kmk_pure) (by rw [len_strValues]; omega)
    clear F5 N6
    k_steps
    unfold Stop
    refine add_two F7 N7 (News.isList N7 (List.Mem.tail _ (List.Mem.head _))) (News.isList N7 (List.Mem.head _)) (fun D4 h6 F8 N8 => ?_) (by simp only [List.length_append, List.length_cons, List.length_nil, List.length_take, List.length_drop, len_strValues]; omega)
    rw [more_values] at N8
    have N9 : News base L h6 [(D4, _), (I, it), (B, W.listOf (strValues lb).toArray nb), (P, W.listOf (strValues l).toArray n)] := fun q hq => by
      rcases List.mem_cons.mp hq with rfl | hq
      · exact N8 _ (List.Mem.head _)
      · exact N8 q (List.Mem.tail _ (List.Mem.tail _ (List.Mem.tail _ hq)))
    clear F7 N7 N8
    k_steps
    rotate_left
    · rename Fr _ _ _ _ => Fz
      rename News _ _ _ _ => Nz
      exact hn _ _ _ [(B, W.listOf (strValues lb).toArray nb), (P, W.listOf (strValues l).toArray n)] hoff ⟨LM.skip lm6.out (by rfl), rfl⟩ Fz (fun q hq => Nz q (List.Mem.tail _ hq))
    unfold Stop
    rename Fr _ _ _ _ => Fz
    rename News _ _ _ _ => Nz
    have hall := more_all (i := i) hl (half_ab (hl p hpm).1) la lb' hp3
    have hpt : (l.map (·.1))[i]? = some p := by rw [List.getElem?_map, hpi]; rfl
    have hpsl : (l.map (·.1)).length = l.length := List.length_map ..
    have hmlen : ((l.map (·.1)).take i ++ (Txt.slice p none (some 1) :: Txt.slice p (some 1) none :: (l.map (·.1)).drop (i + 1))).length = l.length + 1 := by
      rw [List.length_append, List.length_take, List.length_cons, List.length_cons, List.length_drop]; omega
    refine SC.join (Nz.isList (List.Mem.head _)) (more_texts l i _ _ _ _) (join_ok (n := 3) (fun q hq => (hall q hq).2) (by omega)) (fun t7 k7 => ?_)
    k_steps
    unfold Stop
    refine em_join (by decide) (by decide) (X.keeps Fz.keep) (T.keeps Fz.keep) rfl (by omega) (by omega) (fun q hq => (hall q hq).1) (fun q hq => Nat.le_trans (hall q hq).2 (by decide)) (by omega) (fun h9 tk9 hk9 => ?_)
    have hdt : fitB (l.map (·.1)) word = true := by rw [← hdue]; assumption
    rw [fit_more (by omega) hpt (two_halves p) hdt]
    have F10 := fr_kept Fz hk9
    have N10 := Nz.grown hk9
    clear Fz Nz hk9
    k_steps
    exact hn _ _ _ [(B, W.listOf (strValues lb).toArray nb), (P, W.listOf (strValues l).toArray n)] hoff ⟨LM.skip lm6.out (by rfl), rfl⟩ F10 (fun q hq => N10 q (List.Mem.tail _ hq))
end Mine

end

section -- Lw10
open PySem PySem.W PySem.Calls PyProof.Rows Builtin Builtin.Str
set_option maxRecDepth 100000
set_option maxHeartbeats 4000000
namespace Mine
theorem fill17 : (PySem.Challenge.rw_gk0002_01, hd.heap_39) = (PySem.Challenge.rw_gk0002_01, hd.heap_39) := by k_fill; rfl
local macro_rules | `(tactic| walk_at "call ref") => `(tactic| refine Stop.out ?_)
local macro_rules | `(tactic| walk_at "call builtin:str.join") => `(tactic| refine Stop.out ?_)
local macro_rules | `(tactic| walk_at "eval Name") => `(tactic| (k_here; (with_reducible rename LM _ _ => lf'); k_dflt (refine' ld ?k1 ?k2 ?_; (case k1 => k_asm); (case k2 => with_unfolding_all exact lf' _ _ rfl))))
theorem law10 {w : World} {mean : ExcName → Option Value} {mg mb : Str → Option Value} {base : Heap} {L fa : Addr} {ccd : Value} {m : Str → Option Value} {s : Shared} {Q : Flow → Shared → Prop}
    {S P B : Addr} {word : Str} {tw tm : Tok} {l lb : List (Str × Tok)} {n nb : Nat} {due : Bool}
    (X : (hd.heap_39 w.params).In base) (T : Top hd.view_39 [] mean mg mb base) (F : Fr base L s.heap m) (N : News base L s.heap [(B, W.listOf (strValues lb).toArray nb), (P, W.listOf (strValues l).toArray n)])
    (lm : LM [(Str.ofString "script", .ref S), (Str.ofString "pieces", .ref P), (Str.ofString "word", .str word tw), (Str.ofString "due", .bool due), (Str.ofString "mirror", .str (revS word) tm), (Str.ofString "back", .ref B)] m) (hb : lb.map (·.1) = backS (l.map (·.1)))
    (h2 : 2 ≤ l.length) (h4 : l.length ≤ 4) (hl : ∀ p ∈ l.map (·.1), Ab p ∧ p.length ≤ 3) (hw9 : word.length ≤ 9)
    (hret : ∀ S' m', Same s S' → Fr base L S'.heap m' → News base L S'.heap [(B, W.listOf (strValues lb).toArray nb), (P, W.listOf (strValues l).toArray n)] → Q (.ret (.bool true)) S') :
    wpC (model PySem.Challenge.pw_gk0002_01 w) (ktrTop (claimMargin + 2) 7 (some []) (Str.ofString "law") lawScope L fa ccd [] []) (execs [lawSt 9, lawSt 10] (envOf (Str.ofString "law") lawScope L fa ccd)) Q (fun _ _ => False) s := by
  rw [show lawSt 9 = Stmt.Assign _ _ _ from rfl, show lawSt 10 = Stmt.Return _ _ from rfl, show lawScope = Scope.mk _ _ _ _ _ from rfl]
  have hps : 2 ≤ (l.map (·.1)).length := by rw [List.length_map]; exact h2
  have hps4 : (l.map (·.1)).length ≤ 4 := by rw [List.length_map]; exact h4
  have hbl : (backS (l.map (·.1))).length ≤ 4 := by rw [back_length]; exact hps4
  have hbl2 : 2 ≤ (backS (l.map (·.1))).length := by rw [back_length]; exact hps
  have hl3 : ∀ p ∈ l.map (·.1), p.length ≤ 3 := fun p hp => (hl p hp).2
  have hb3 := back_len hl3
  have hla : ∀ p ∈ l.map (·.1), Ab p := fun p hp => (hl p hp).1
  have hba := back_ab hla
  have hrw : (revS word).length = word.length := rev_length word
  have hwl : (word ++ revS word).length ≤ 18 := by rw [Str.length_append]; omega
  refine wpC_any ?_
  k_steps
  unfold Stop
  rename Fr _ _ _ _ => F1
  rename News _ _ _ _ => N1
  refine SC.join (l := l) (N1.isList (List.Mem.tail _ (List.Mem.head _))) rfl (join_ok hl3 (by omega)) (fun t5 k5 => ?_)
  k_steps
  unfold Stop
  refine em_join (by decide) (by decide) (X.keeps F1.keep) (T.keeps F1.keep) rfl hps (by omega) hla (fun p hp => Nat.le_trans (hl3 p hp) (by decide)) (by omega) (fun h' tk hk => ?_)
  have F2 := fr_kept F1 hk
  have N2 := N1.grown hk
  clear F1 N1 hk
  k_steps
  unfold Stop
  refine SC.join (l := lb) (N2.isList (List.Mem.head _)) hb (join_ok hb3 (by omega)) (fun t6 k6 => ?_)
  k_steps
  unfold Stop
  refine em_join (by decide) (by decide) (X.keeps F2.keep) (T.keeps F2.keep) rfl hbl2 (by omega) hba (fun p hp => Nat.le_trans (hb3 p hp) (by decide)) (by omega) (fun h3 tk3 hk3 => ?_)
  rw [fit_whole hps word]
  have F3 := fr_kept F2 hk3
  have N3 := N2.grown hk3
  clear F2 N2 hk3
  generalize fitB (l.map (·.1)) (word ++ revS word) = d
  k_steps
  rw [beq_self_eq_true]
  refine hret _ _ ?_ F3 N3
  repeat (first | exact same_refl _ | refine same_tok ?_ | refine same_heap ?_ | refine same_both ?_)
end Mine

end

section -- LwB
open PySem PySem.W PySem.Calls PyProof.Rows Builtin Builtin.Str
set_option maxRecDepth 100000
set_option maxHeartbeats 4000000
namespace Mine
theorem Same.trans {a b c : Shared} (h : Same a b) (k : Same b c) : Same a c := by
  obtain ⟨h1, t1, rfl⟩ := h
  obtain ⟨h2, t2, rfl⟩ := k
  exact ⟨h2, t2, rfl⟩
theorem law_body {w : World} {mean : ExcName → Option Value} {mg mb : Str → Option Value} {base : Heap} {L fa : Addr} {ccd : Value} {m : Str → Option Value} {s : Shared} {Q : Flow → Shared → Prop}
    {S : Addr} {vs : List Value} {ns : List Int}
    (X : (hd.heap_39 w.params).In base) (T : Top hd.view_39 [] mean mg mb base) (F : Fr base L s.heap m) (N : News base L s.heap [])
    (lm : LM [(Str.ofString "script", .ref S)] m)
    (hS : base.IsList S vs.toArray) (hi : IntsAre vs ns) (hz : ns.length ≤ 63)
    (hret : ∀ S' m', Same s S' → Fr base L S'.heap m' → Q (.ret (.bool true)) S') :
    wpC (model PySem.Challenge.pw_gk0002_01 w) (ktrTop (claimMargin + 2) 7 (some []) (Str.ofString "law") lawScope L fa ccd [] []) (execs lawBody (envOf (Str.ofString "law") lawScope L fa ccd)) Q (fun _ _ => False) s := by
  rw [show lawBody = [lawSt 0, lawSt 1, lawSt 2, lawSt 3, lawSt 4, lawSt 5, lawSt 6, lawSt 7, lawSt 8, lawSt 9, lawSt 10] from rfl]
  refine wpC_execs_cons (law1 X T F N lm hS hi hz (fun h1 tk1 P l word tw n F1 N1 h2 h4 hl hw hw9 => ?_))
  have lm1 := LM.cons (x := Str.ofString "word") (v := .str word tw) (LM.cons (x := Str.ofString "pieces") (v := .ref P) lm (by rfl)) (by rfl)
  show wpC _ _ (execs _ _) _ _ _
  refine wpC_execs_cons (law2 X T F1 N1 lm1 h2 h4 hl hw hw9 (fun h2' tk2 F2 N2 => ?_))
  have lm2 := LM.cons (x := Str.ofString "due") (v := .bool (fitB (l.map (·.1)) word)) lm1 (by rfl)
  show wpC _ _ (execs _ _) _ _ _
  generalize hdue : fitB (l.map (·.1)) word = due at F2 lm2
  refine wpC_execs_cons (law3 X T F2 N2 lm2 h2 h4 hl hw hw9 (fun h3 tk3 B lb nb tm hb F3 N3 => ?_))
  have lm3 := LM.cons (x := Str.ofString "back") (v := .ref B) (LM.cons (x := Str.ofString "mirror") (v := .str (revS word) tm) lm2 (by rfl)) (by rfl)
  show wpC _ _ (execs _ _) _ _ _
  refine wpC_execs_cons (law4 X T F3 N3 lm3 hdue.symm hb h2 h4 hl hw hw9 (fun h4' tk4 F4 N4 => ?_))
  show wpC _ _ (execs _ _) _ _ _
  have hlm : ∀ p ∈ l.map (·.1), Ab p ∧ p.length ≤ 3 := fun p hp => by
    obtain ⟨q, hq, rfl⟩ := List.mem_map.mp hp
    exact hl q hq
  refine wpC_execs_cons (law5 X T F4 N4 lm3 hdue.symm hb h2 h4 hlm hw hw9 (fun h5 tk5 F5 N5 => ?_))
  show wpC _ _ (execs _ _) _ _ _
  refine wpC_execs_cons (law6 X T F5 N5 lm3 hdue.symm hb h2 h4 hlm hw hw9 (fun h6 tk6 F6 N6 => ?_))
  show wpC _ _ (execs _ _) _ _ _
  obtain ⟨⟨p0, t0⟩, lmid, ⟨pl, tl⟩, rfl⟩ := ends_of h2
  rw [← strValues_full] at N6
  refine wpC_execs_cons (law7 X T F6 N6 lm3 (fun h7 tk7 F7 N7 => ?_))
  have lm7 := LM.cons (x := Str.ofString "first") (v := .str p0 t0) (LM.cons (x := Str.ofString "last") (v := .str pl tl) lm3 (by rfl)) (by rfl)
  show wpC _ _ (execs _ _) _ _ _
  have hd8 : due = fitB (p0 :: (lmid.map (·.1) ++ [pl])) word := by rw [← hdue]; simp
  refine wpC_execs_cons (law8 X T F7 N7 lm7 hd8 (by simp only [List.length_cons, List.length_append, List.length_nil] at h4; omega) (fun p hp => hlm p (by simp at hp ⊢; exact .inr (.inl hp))) (hlm p0 (by simp)).2 (hlm pl (by simp)).2 hw9 (fun S8 m8 same8 F8 lm8 N8 => ?_))
  rw [strValues_full] at N8
  show wpC _ _ (execs _ _) _ _ _
  refine wpC_execs_cons (law9 X T F8 N8 lm8 hdue.symm h2 h4 hlm hw9 (fun S9 m9 same9 F9 lm9 N9 => ?_))
  show wpC _ _ (execs _ _) _ _ _
  refine law10 X T F9 N9 lm9 hb h2 h4 hlm hw9 (fun S10 m10 same10 F10 N10 => ?_)
  refine hret _ _ (Same.trans ?_ (Same.trans same8 (Same.trans same9 same10))) F10
  repeat (first | exact same_refl _ | refine same_tok ?_ | refine same_heap ?_ | refine same_both ?_)
end Mine

end

section -- LwE
open PySem PySem.W PySem.Calls PyProof.Rows
namespace Mine
theorem end_raises (l : OpenLaw) (args : List WData) (cls : ExcName) : l.row.toRowW.claim.raises args cls = false := rfl
theorem end_post (l : OpenLaw) (args : List WData) : l.row.toRowW.claim.post args (.bool true) args = true := by
  have h1 : WShape.has ([] : WRecords) (.bool true) .bool = true := by simp [WShape.has, WShape.arms]
  have h2 : (WTm.eq .res (.lit (.bool true))).value [] { args := args, res := some (.bool true), after := args } = some (.bool (W.same (.bool true) (.bool true))) := by wtm_val
  exact postW_of (r := l.row.toRowW) (X := W.same (.bool true) (.bool true)) h1 h2 (same_self _)
end Mine

end

section -- La
open PySem PySem.W PySem.Calls PyProof.Rows Builtin Builtin.Str
set_option maxRecDepth 100000
set_option maxHeartbeats 8000000
namespace Mine
theorem fill18 : (PySem.Challenge.rw_gk0002_01, hd.heap_39) = (PySem.Challenge.rw_gk0002_01, hd.heap_39) := by k_fill; rfl
theorem codeC_enter {prog : Program} {w : World} {A : Around} {s : Shared} {R : Result → Shared → Prop} {a : Addr} {o : Obj} {fd : FuncData} {body : List Stmt} {sc : Scope} {args : Args} {binds : List (Str × Value)}
    (hsc : fd.scope = sc) (hroom : A.depth < recursionLimit) (ho : s.heap.get? a = some o) (hdata : o.data = .func fd) (hlim : s.heap.NoLimit) (hcd : s.heap.CodeRec fd.code fd.qualname)
    (hbody : fd.body = .stmts body) (hbind : BindsTo s fd args binds)
    (hcell : (sc.names.all fun x => decide (x.2 ≠ NameKind.cell)) = true) (hloc : (binds.all fun x => decide (sc.names.lookup x.1 = some .local)) = true)
    (h : ∀ h₀, h₀.Ns s.heap.objs.size (fun x => binds.reverse.lookup x) → (∀ b o, s.heap.get? b = some o → h₀.get? b = some o) →
      wpC (model prog w) (A.deeper (callEnv fd s.heap.objs.size a)) (execs body (callEnv fd s.heap.objs.size a)) (fun f s' => R (.ok (.ret (match f with | .ret v => v | _ => .none))) s')
        (fun _ _ => False) { s with heap := h₀, toks := s.toks + binds.length })
    (hco : sc.isCoroutine = false) (hgen : sc.isGenerator = false) (hk : sc.kind = .function) :
    codeC (model prog w) A (.call (.ref a) args) R s := by
  subst hsc
  exact codeC_call_def hroom ho hdata hlim hcd hbody hbind (fun x hx => by have := List.all_eq_true.mp hcell x hx; simpa using this) (locs hloc) h hco hgen hk
theorem end_good (l : OpenLaw) {cl : Str → Option Addr} {mean : ExcName → Option Value} {args : List WData} {s₁ S S' : Shared} {L : Addr} {m : Str → Option Value} (hg : s₁.gens = #[])
    (same : Same { s₁ with heap := S.heap, toks := S.toks } S') (F : Fr s₁.heap L S'.heap m) : GoodWG l.row.toRowW.claim cl mean args s₁ (.ok (.ret (.bool true))) S' := by
  obtain ⟨h', tk, rfl⟩ := same
  exact GoodW.toG (goodW_bool F hg (end_raises l args) (end_post l args) rfl)
theorem la : PySem.Challenge.rw_gk0002_01.Holds := by
  refine hd ?_
  intro w s₀ s₁ mg mb G Y fa o pm cd doc dV kV ho hd' hcd hD hmg hg args vals as hpre hlay hrd hwl hlo
  have KX := kIn_of Y
  have X := (Ground.X G).1
  refine Ground.open G ?_
  intro T B D TE TW
  try (refine guard_noD D (by decide +kernel) ?_; clear D)
  wrow_args hpre hlay hrd hwl hlo
  rename_i S vs0 as0 hL ra w1 r0 hI hr hc1 hc2
  have hS : IntsAre vs0 _ := hI
  have hdV := Dflts.none hD rfl
  have hkV := Dflts.noKw hD
  subst hdV hkV
  refine wpC_call (codeC_enter (o := o) (binds := [(Str.ofString "script", .ref S)]) rfl (by decide +kernel) ho hd' T.nolimit hcd rfl (.of_eq rfl) (by rfl) (by rfl) (fun h₁ hns hk₁ => ?_) rfl rfl rfl)
  refine law_body (base := s₁.heap) (S := S) (fa := fa) (ccd := cd) (L := s₁.heap.objs.size) KX T ⟨hns, hk₁, Nat.le_refl _⟩ News.nil (fun x v e => e) ?_ hI ?_ (fun S' m' same F => ?_)
  · exact hL
  · omega
  · obtain ⟨h', tk, rfl⟩ := same
    exact end_good (S := ⟨h', s₁.gens, s₁.drawn, tk, s₁.os⟩) _ hg (same_refl _) F
end Mine

end

theorem PySem.Challenge.cw_gk0002_01_holds : PySem.Challenge.rw_gk0002_01.Holds := by
  exact Mine.la
