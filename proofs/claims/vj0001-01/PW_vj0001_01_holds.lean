import PyProof.Rows.All
import Wide.All
import OpenK.AllK
import Wide.FinOn
import Open.Split
import KE.KRegrown
import KE.KxPercent
import KE.KIntText
import KE.KBytesWalk
import PyProof.Rows.StrJoin2
import PyProof.ListStr
import PyProof.Rows.CellsRaise
import PyProof.NeKinds
import PyProof.EqKinds
import KE.KBytesAny
import KE.KCat
import PySem.Challenge.RW_vj0001_01
set_option Elab.async false
set_option maxRecDepth 100000

section
set_option maxRecDepth 100000
namespace Mine
open PySem PySem.W PySem.Calls PyProof.Rows

/-! The calm judgement: contexts whose stack holds none of the decoders that hold a buffer. -/
def calmCode : Code → Bool
  | .builtin id _ => !(Builtin.Bytes.decodersThatHold.contains id)
  | _ => true
def calmOf (l : List (Code × Pos)) : Bool := l.all fun x => calmCode x.1

def wpC {α : Type} (M : Model) (A : Around) (t : Sem α) (Q : α → Shared → Prop) (s : Shared) : Prop :=
  ∀ Γ p, Γ.In A → calmCode Γ.code = true → calmOf Γ.below = true → Sem.wp M Γ t (fun a _ s' => Q a s') (fun _ _ _ => False) p s
def onlyOk (R : Flow → Shared → Prop) : Result → Shared → Prop := fun r s => match r with | .ok f => R f s | .error _ => False
def codeC (M : Model) (A : Around) (c : Code) (R : Flow → Shared → Prop) (s : Shared) : Prop :=
  ∀ Γ p, Γ.code = c → Γ.Below A → calmOf Γ.below = true → wpCode M Γ (onlyOk R) p s
abbrev NoE : Value → Shared → Prop := fun _ _ => False

section
variable {α β : Type} {M : Model} {A : Around} {s : Shared}

theorem wpC_of_any {t : Sem α} {Q : α → Shared → Prop} (h : wpAny M A t Q NoE s) : wpC M A t Q s := fun Γ p hΓ _ _ => h Γ p hΓ
theorem wpC_pure {a : α} {Q : α → Shared → Prop} (h : Q a s) : wpC M A (pure a) Q s := fun _ _ _ _ _ => h
theorem wpC_mono {t : Sem α} {Q Q' : α → Shared → Prop} (h : wpC M A t Q s) (hQ : ∀ a s, Q a s → Q' a s) : wpC M A t Q' s :=
  fun Γ p hΓ h1 h2 => Sem.wp_mono M Γ t (fun a _ s => hQ a s) (fun _ _ _ x => x) p s (h Γ p hΓ h1 h2)
theorem wpC_bind {m : Sem α} {f : α → Sem β} {Q : β → Shared → Prop} (h : wpC M A m (fun a s' => wpC M A (f a) Q s') s) :
    wpC M A (m >>= f) Q s := fun Γ p hΓ h1 h2 => by
  rw [Sem.wp_bind']
  exact Sem.wp_mono M Γ m (fun a p' s' h' => h' Γ p' hΓ h1 h2) (fun _ _ _ h' => h') p s (h Γ p hΓ h1 h2)
theorem wpC_leaf {m : Sem α} {f : α → Sem β} {Q : β → Shared → Prop} (h : wpAny M A m (fun a s' => wpC M A (f a) Q s') NoE s) :
    wpC M A (m >>= f) Q s := wpC_bind (wpC_of_any h)
theorem wpC_eq {m : Sem α} {a : α} {f : α → Sem β} {Q : β → Shared → Prop} (e : m = pure a) (h : wpC M A (f a) Q s) :
    wpC M A (m >>= f) Q s := wpC_bind (e ▸ wpC_pure h)
theorem wpC_holding {vs : List Value} {m : Sem α} {Q : α → Shared → Prop} (h : wpC M A m Q s) : wpC M A (holding vs m) Q s :=
  fun Γ p hΓ h1 h2 => by rw [Sem.wp_holding]; exact h Γ p hΓ h1 h2
theorem wpC_keep {vs : List Value} {m : Sem α} {Q : α → Shared → Prop} (h : wpC M A m Q s) : wpC M A (m.keep vs) Q s :=
  fun Γ p hΓ h1 h2 => by rw [Sem.wp_keep]; exact h Γ p hΓ h1 h2
theorem wpC_operate {vs : List Value} {m : Sem Value} {Q : Value → Shared → Prop} (h : wpC M A m Q s) : wpC M A (operate vs m) Q s :=
  fun Γ p hΓ h1 h2 => by rw [Sem.wp_operate]; exact h Γ p hΓ h1 h2
theorem wpC_standAt {pos : Pos} {Q : Unit → Shared → Prop} (h : Q () s) : wpC M A (standAt pos) Q s := fun _ _ _ _ _ => h
theorem wpC_point {Q : Unit → Shared → Prop} (h : Q () s) : wpC M A point Q s := fun _ _ _ _ _ => h
theorem wpC_rule {tag : String} {Q : Unit → Shared → Prop} (h : Q () s) : wpC M A (rule tag) Q s := fun _ _ _ _ _ => h
theorem wpC_onRaise {m : Sem α} {k : Value → Sem Unit} {Q : α → Shared → Prop} (h : wpC M A m Q s) : wpC M A (m.onRaise k) Q s :=
  fun Γ p hΓ h1 h2 => by
    rw [Sem.wp_onRaise]
    exact Sem.wp_mono M Γ m (fun _ _ _ h' => h') (fun _ _ _ h' => h'.elim) p s (h Γ p hΓ h1 h2)
theorem wpC_ite {c : Prop} [Decidable c] {a b : Sem α} {Q : α → Shared → Prop} (h : if c then wpC M A a Q s else wpC M A b Q s) :
    wpC M A (if c then a else b) Q s := by split <;> simp_all

theorem calm_enter {Γ : Ctx} {c : Code} {h : Option Value} {p : Pos} (h1 : calmCode Γ.code = true) (h2 : calmOf Γ.below = true) : calmOf (Γ.enter c h p).below = true := by
  show ((Γ.code, p) :: Γ.below).all _ = true
  rw [List.all_cons]
  exact Bool.and_eq_true_iff.mpr ⟨h1, h2⟩

theorem wpC_run {c : Code} {Q : Flow → Shared → Prop} (hc : codeC M A c Q s) : wpC M A (run c none) Q s := fun Γ p hΓ h1 h2 => by
  rw [Sem.wp_run]
  exact wpCode_mono (fun r s' hr => by cases r <;> exact hr) (hc _ p rfl (hΓ.enter c none p (by intro x; cases x)) (calm_enter h1 h2))
theorem wpC_runValue {c : Code} {Q : Value → Shared → Prop} (hc : codeC M A c (fun f s' => match f with | .ret v => Q v s' | _ => False) s) :
    wpC M A (runValue c) Q s := fun Γ p hΓ h1 h2 => by
  rw [Sem.wp_runValue]
  refine wpCode_mono (fun r s' hr => ?_) (hc _ p rfl (hΓ.enter c none p (by intro x; cases x)) (calm_enter h1 h2))
  cases r with
  | error e => exact hr
  | ok f => cases f <;> exact hr
theorem wpC_call {f : Value} {pos : List Value} {kw : List (Str × Value)} {Q : Value → Shared → Prop}
    (hc : codeC M A (.call f ⟨pos, kw⟩) (fun f s' => match f with | .ret v => Q v s' | _ => False) s) :
    wpC M A (call f pos kw) Q s := wpC_runValue hc
theorem codeC_mono {c : Code} {R R' : Flow → Shared → Prop} (h : codeC M A c R s) (hR : ∀ f s, R f s → R' f s) : codeC M A c R' s :=
  fun Γ p hc hΓ h2 => wpCode_mono (fun r s' hr => by cases r with | ok f => exact hR f s' hr | error e => exact hr) (h Γ p hc hΓ h2)
theorem codeC_of_any {c : Code} {R : Flow → Shared → Prop} (h : codeAny M A c (onlyOk R) s) : codeC M A c R s :=
  fun Γ p hc hΓ _ => h Γ p hc hΓ
def finC (M : Model) (A : Around) (R : Flow → Shared → Prop) : Fin → Shared → Prop :=
  fun fin s' => match fin with | .done f => R f s' | .again c' => c'.quiet = true ∧ codeC M A c' R s'
theorem codeC_of_tree {c : Code} {R : Flow → Shared → Prop} (hk : calmCode c = true)
    (h : wpC M (A.under c) (M.den c) (finC M A R) s) : codeC M A c R s := fun Γ p hc hΓ h2 => by
  rw [wpCode_iff_wp, hc]
  refine Sem.wp_mono M Γ _ (fun fin p' s' h' => ?_) (fun _ _ _ h' => h'.elim) p s (h Γ p (hc ▸ hΓ.in) (hc ▸ hk) h2)
  cases fin with
  | done f => exact h'
  | again c' => exact ⟨h'.1, h'.2 (Γ.goto c') p' rfl (hΓ.goto c') h2⟩
end

section
variable {M : Model} {A : Around} {s : Shared}

theorem calm_free {v : Value} {c : Code} {p : Pos} (hg : c.isGuard = false) (hc : calmCode c = true) :
    ((fun x : Code × Pos => match x with
      | (.builtin "bytearray.__contains__" ⟨w :: _, _⟩, _) | (.builtin "bytearray.__mod__" ⟨w :: _, _⟩, _)
      | (.builtin "bytearray.__rmod__" ⟨_ :: w :: _, _⟩, _) | (.builtin "_struct.pack_into.held" ⟨w :: _, _⟩, _) => Builtin.Bytes.sameRef w v
      | (.builtin "bytearray.find.held" ⟨_ :: _ :: held, _⟩, _) => held.any (Builtin.Bytes.sameRef v)
      | (.builtin id ⟨w :: _, _⟩, _) => Builtin.Bytes.sameRef w v && Builtin.Bytes.decodersThatHold.contains id
      | _ => false) (c, p)) = false := by
  dsimp only
  split
  · rename_i h; cases h; cases hg
  · rename_i h; cases h; cases hg
  · rename_i h; cases h; cases hg
  · rename_i h; cases h; cases hg
  · rename_i h; cases h; cases hg
  · rename_i id _ _ _ _ _ _ _ _ _ h
    cases h
    have : Builtin.Bytes.decodersThatHold.contains id = false := by simpa [calmCode] using hc
    rw [this, Bool.and_false]
  · rfl

theorem wpC_exported {v : Value} {Q : Bool → Shared → Prop} (hg : A.guards = some []) (h : Q false s) : wpC M A (Builtin.Bytes.exported v) Q s := fun Γ p hΓ h1 h2 => by
  have hgs : guardsOf ((Γ.code, p) :: Γ.below) = [] := by rw [guardsOf_cons]; exact hΓ.2.2.2.1 [] hg
  have hall : calmOf ((Γ.code, p) :: Γ.below) = true := by
    show ((Γ.code, p) :: Γ.below).all _ = true
    rw [List.all_cons]
    exact Bool.and_eq_true_iff.mpr ⟨h1, h2⟩
  have key : ∀ l : List (Code × Pos), guardsOf l = [] → calmOf l = true → l.any (fun x : Code × Pos => match x with
      | (.builtin "bytearray.__contains__" ⟨w :: _, _⟩, _) | (.builtin "bytearray.__mod__" ⟨w :: _, _⟩, _)
      | (.builtin "bytearray.__rmod__" ⟨_ :: w :: _, _⟩, _) | (.builtin "_struct.pack_into.held" ⟨w :: _, _⟩, _) => Builtin.Bytes.sameRef w v
      | (.builtin "bytearray.find.held" ⟨_ :: _ :: held, _⟩, _) => held.any (Builtin.Bytes.sameRef v)
      | (.builtin id ⟨w :: _, _⟩, _) => Builtin.Bytes.sameRef w v && Builtin.Bytes.decodersThatHold.contains id
      | _ => false) = false := by
    intro l
    induction l with
    | nil => intro _ _; rfl
    | cons x l ih =>
      obtain ⟨c, q⟩ := x
      intro hg' hc'
      rw [guardsOf_cons] at hg'
      obtain ⟨hg1, hg2⟩ := List.append_eq_nil_iff.mp hg'
      obtain ⟨hc1, hc2⟩ := Bool.and_eq_true_iff.mp (show (calmCode c && calmOf l) = true from hc')
      rw [List.any_cons, ih hg2 hc2, Bool.or_false]
      refine calm_free ?_ hc1
      cases hq : c.isGuard with
      | false => rfl
      | true => simp [Code.guards, hq] at hg1
  show Q (((Γ.code, p) :: Γ.below).any _) s
  have k := key _ hgs hall
  refine Eq.mpr ?_ h
  congr 1
end
end Mine
end

section
set_option maxRecDepth 100000
namespace Mine.FA
open PySem PySem.W

theorem plainAttrs_ba : PlainAttrs "bytearray" :=
  ⟨⟨"bytearray.__getattribute__", by rw [typeLookup_type, builtinLookup_eq_fast]; kernel_rfl, by decide +kernel⟩, by rw [typeLookup_type, builtinLookup_eq_fast]; kernel_rfl⟩
theorem owner_ba : Manifest.owners.lookup (String.ofList ['y', 'a', 'r', 'r', 'a', 'e', 't', 'y', 'b'].reverse) = some Manifest.sig_bytearray := by kernel_rfl
theorem slot_ba_append : Slot "bytearray" "append" "bytearray.append" :=
  .of (owner := "bytearray") (n := "append") (by rw [typeLookup_type, builtinLookup_eq_fast]; kernel_rfl) (by decide +kernel) (by decide +kernel) (by decide +kernel)
    (by first | exact .inl (by decide +kernel) | exact .inr (by decide +kernel)) (by rw [isSubtype_type]; kernel_rfl)
theorem type_ba_append : typeOf (.builtin "bytearray.append") = pure (.type "method_descriptor") := by show builtinType _ = _; rw [builtinType_eq_fast]; kernel_rfl
theorem entry_ba_append : entryFor table "bytearray.append" = some Builtin.«bytearray.append» := entryFor_of_tree (by kernel_rfl)
theorem args_ba_append_2 (a b : Value) : argsOk "bytearray.append" ⟨[a, b], []⟩ := by
  unfold argsOk; rw [signature?_of (id := "bytearray.append") (n := ['d', 'n', 'e', 'p', 'p', 'a']) (o := ['y', 'a', 'r', 'r', 'a', 'e', 't', 'y', 'b']) (by kernel_rfl) owner_ba]; kernel_rfl
theorem slot_ba_reverse : Slot "bytearray" "reverse" "bytearray.reverse" :=
  .of (owner := "bytearray") (n := "reverse") (by rw [typeLookup_type, builtinLookup_eq_fast]; kernel_rfl) (by decide +kernel) (by decide +kernel) (by decide +kernel)
    (by first | exact .inl (by decide +kernel) | exact .inr (by decide +kernel)) (by rw [isSubtype_type]; kernel_rfl)
theorem type_ba_reverse : typeOf (.builtin "bytearray.reverse") = pure (.type "method_descriptor") := by show builtinType _ = _; rw [builtinType_eq_fast]; kernel_rfl
theorem entry_ba_reverse : entryFor table "bytearray.reverse" = some Builtin.«bytearray.reverse» := entryFor_of_tree (by kernel_rfl)
theorem args_ba_reverse_1 (a : Value) : argsOk "bytearray.reverse" ⟨[a], []⟩ := by
  unfold argsOk; rw [signature?_of (id := "bytearray.reverse") (n := ['e', 's', 'r', 'e', 'v', 'e', 'r']) (o := ['y', 'a', 'r', 'r', 'a', 'e', 't', 'y', 'b']) (by kernel_rfl) owner_ba]; kernel_rfl
theorem slot_ba_getitem : Slot "bytearray" "__getitem__" "bytearray.__getitem__" :=
  .of (owner := "bytearray") (n := "__getitem__") (by rw [typeLookup_type, builtinLookup_eq_fast]; kernel_rfl) (by decide +kernel) (by decide +kernel) (by decide +kernel)
    (by first | exact .inl (by decide +kernel) | exact .inr (by decide +kernel)) (by rw [isSubtype_type]; kernel_rfl)
theorem entry_ba_getitem : entryFor table "bytearray.__getitem__" = some Builtin.«bytearray.__getitem__» := entryFor_of_tree (by kernel_rfl)
theorem args_ba_getitem_2 (a b : Value) : argsOk "bytearray.__getitem__" ⟨[a, b], []⟩ := by
  unfold argsOk; rw [signature?_of (id := "bytearray.__getitem__") (n := ['_', '_', 'm', 'e', 't', 'i', 't', 'e', 'g', '_', '_']) (o := ['y', 'a', 'r', 'r', 'a', 'e', 't', 'y', 'b']) (by kernel_rfl) owner_ba]; kernel_rfl
theorem slot_ba_init : Slot "bytearray" "__init__" "bytearray.__init__" :=
  .of (owner := "bytearray") (n := "__init__") (by rw [typeLookup_type, builtinLookup_eq_fast]; kernel_rfl) (by decide +kernel) (by decide +kernel) (by decide +kernel)
    (by first | exact .inl (by decide +kernel) | exact .inr (by decide +kernel)) (by rw [isSubtype_type]; kernel_rfl)
theorem entry_ba_init : entryFor table "bytearray.__init__" = some Builtin.«bytearray.__init__» := entryFor_of_tree (by kernel_rfl)
theorem args_ba_init_1 (a : Value) : argsOk "bytearray.__init__" ⟨[a], []⟩ := by
  unfold argsOk; rw [signature?_of (id := "bytearray.__init__") (n := ['_', '_', 't', 'i', 'n', 'i', '_', '_']) (o := ['y', 'a', 'r', 'r', 'a', 'e', 't', 'y', 'b']) (by kernel_rfl) owner_ba]; kernel_rfl
theorem mro_ba : mroOf (.type "bytearray") = pure [.type "bytearray", .type "object"] := by rw [mroOf_type]; kernel_rfl
theorem lookup_ba_new : typeLookup (.type "bytearray") "__new__" = pure (some (.builtin "bytearray.__new__")) := by rw [typeLookup_type, builtinLookup_eq_fast]; kernel_rfl
theorem sub_ba : isSubtype (.type "bytearray") (.type "bytearray") = pure true := by rw [isSubtype_type]; kernel_rfl
theorem called_ba : TypeCalled "bytearray" "bytearray.__new__" "bytearray.__init__" :=
  ⟨by decide +kernel, by decide +kernel, ⟨_, _, mro_ba⟩, madeBy_type mro_ba lookup_ba_new (by decide +kernel), by decide +kernel, sub_ba, slot_ba_init⟩
theorem typeCall_ba_0 : checkTypeCall "bytearray" ⟨[], []⟩ = pure () := by kernel_rfl
theorem newCall_ba_0 : checkBuiltinCall "bytearray.__new__" ⟨[.type "bytearray"], []⟩ = pure () := by kernel_rfl
theorem entry_ba_new : entryFor table "bytearray.__new__" = some Builtin.«list.__new__» :=
  entryFor_alias (id' := "list.__new__") (by kernel_rfl) (by first | rfl | decide +kernel) (by decide +kernel) (by kernel_rfl)
theorem plain_ba_new : plainId "bytearray.__new__" = true := by decide +kernel
theorem no_bytes_ba : typeLookup (.type "bytearray") "__bytes__" = pure none := by rw [typeLookup_type, builtinLookup_eq_fast]; kernel_rfl
theorem no_index_ba : typeLookup (.type "bytearray") "__index__" = pure none := by rw [typeLookup_type, builtinLookup_eq_fast]; kernel_rfl
theorem buffer_ba : typeLookup (.type "bytearray") "__buffer__" = pure (some (.builtin "bytearray.__buffer__")) := by rw [typeLookup_type, builtinLookup_eq_fast]; kernel_rfl
theorem release_ba : typeLookup (.type "bytearray") "__release_buffer__" = pure (some (.builtin "bytearray.__release_buffer__")) := by rw [typeLookup_type, builtinLookup_eq_fast]; kernel_rfl
end Mine.FA
end

section
set_option maxRecDepth 100000
namespace Mine
open PySem PySem.W PySem.Calls PyProof.Rows

section
variable {prog : Program} {w : World} {A : Around} {s : Shared}
theorem codeC_builtin {id : String} {args : Args} {b : Builtin} {R : Flow → Shared → Prop} (hb : entryFor table id = some b) (hk : Builtin.Bytes.decodersThatHold.contains id = false)
    (h : wpC (model prog w) (A.under (.builtin id args)) (b args) (finC (model prog w) A R) s) : codeC (model prog w) A (.builtin id args) R s := by
  refine codeC_of_tree (by show (!_) = true; rw [hk]; rfl) ?_
  show wpC _ _ (match entryFor table id with | some b => b args | none => unsupported ((withoutEnding? id "#data").getD id)) _ s
  rw [hb]; exact h
theorem codeC_call_builtin {id : String} {args : Args} {b : Builtin} {R : Flow → Shared → Prop} (hq : plainId id = true) (hb : entryFor table id = some b) (hk : Builtin.Bytes.decodersThatHold.contains id = false)
    (h : wpAny (model prog w) A.in1 (checkBuiltinCall id args) (fun _ s₁ => wpC (model prog w) A.in1 (b args) (finC (model prog w) A R) s₁) NoE s) :
    codeC (model prog w) A (.call (.builtin id) args) R s := by
  refine codeC_of_tree rfl ?_
  show wpC _ A.in1 (do checkBuiltinCall id args; again (.builtin id args)) _ s
  refine wpC_leaf (wpAny_mono h (fun _ s₁ h₁ => wpC_pure (And.intro (plainId_quiet hq args) (codeC_builtin hb hk ?_))) fun _ _ h' => h')
  rw [Around.under_plainId hq args]; exact h₁

end

abbrev baObj (b : Array UInt8) : Obj := { cls := .type "bytearray", data := .bytearray b }
theorem ba_type {s : Shared} {a : Addr} {b : Array UInt8} (h : s.heap.get? a = some (baObj b)) : s.TypeIs (.ref a) "bytearray" := by
  first
    | exact Shared.TypeIs.of_get h rfl
    | exact ⟨_, h, rfl⟩
    | (show (s.heap.get? a).any _ = true; rw [h]; rfl)

section
variable {M : Model} {A : Around} {s : Shared} {α : Type}
theorem wpC_if_false {c : Bool} {a b : Sem α} {Q : α → Shared → Prop} (hc : c = false) (h : wpC M A b Q s) : wpC M A (if c = true then a else b) Q s := by
  subst hc; exact h
theorem wpC_if_true {c : Bool} {a b : Sem α} {Q : α → Shared → Prop} (hc : c = true) (h : wpC M A a Q s) : wpC M A (if c = true then a else b) Q s := by
  subst hc; exact h
theorem any_payload {a : Addr} {b : Array UInt8} {E : Value → Shared → Prop} {Q : Array UInt8 → Shared → Prop} (ho : s.heap.get? a = some (baObj b)) (h : Q b s) : wpAny M A (Builtin.Bytes.payload (.ref a)) Q E s := by
  unfold Builtin.Bytes.payload Builtin.Bytes.payload?
  exact wpAny_bind (wpAny_bind (wpAny_load ho (wpAny_pure (wpAny_pure h))))
theorem any_write {a : Addr} {b : Array UInt8} {f : Array UInt8 → Array UInt8} {E : Value → Shared → Prop} {Q : Unit → Shared → Prop} (ho : s.heap.get? a = some (baObj b)) (hz : (f b).size ≤ sizeLine)
    (h : Q () { s with heap := s.heap.update a (Obj.mapBytearray f) }) : wpAny M A (Builtin.Bytes.write (.ref a) f) Q E s := by
  show wpAny _ _ (updateBytearray a f) _ _ _
  unfold updateBytearray
  refine wpAny_bind (wpAny_load ho ?_)
  show wpAny _ _ (update a (Obj.mapBytearray f) >>= fun _ => lookBehind a) _ _ _
  refine wpAny_bind (wpAny_update ho ?_)
  refine wpAny_lookBehind (Heap.get?_update_self (Obj.mapBytearray f) ho rfl) ?_ h
  show (if (f b).size > sizeLine then some "bytearray:memory" else none) = none
  rw [if_neg (Nat.not_lt.mpr hz)]
theorem any_slotIsOwn {a : Addr} {b : Array UInt8} {n : String} {id : String} {E : Value → Shared → Prop} {Q : Bool → Shared → Prop} (ho : s.heap.get? a = some (baObj b))
    (hl : typeLookup (.type "bytearray") (Str.ofString n) = pure (some (.builtin id))) (h1 : id.endsWith ("." ++ n) = true) (h2 : id.dropRight (n.length + 1) = "bytearray") (h : Q true s) :
    wpAny M A (Builtin.Bytes.slotIsOwn (.ref a) n) Q E s := by
  unfold Builtin.Bytes.slotIsOwn
  refine wpAny_bind (wpAny_specialOf (ba_type ho) hl ?_)
  dsimp only
  rw [h1, h2]
  exact wpAny_isInstance (ba_type ho) FA.sub_ba h
theorem any_ownRelease {a : Addr} {b : Array UInt8} {E : Value → Shared → Prop} {Q : Bool → Shared → Prop} (ho : s.heap.get? a = some (baObj b)) (h : Q false s) : wpAny M A (Builtin.Bytes.ownRelease (.ref a)) Q E s := by
  unfold Builtin.Bytes.ownRelease
  exact wpAny_bind (any_slotIsOwn ho FA.release_ba (by decide +kernel) (by decide +kernel) (wpAny_pure h))
end

section
variable {prog : Program} {w : World} {A : Around} {E : Value → Shared → Prop} {s : Shared}

theorem ba_append_code {a : Addr} {b : Array UInt8} {k : Int} {u : Tok} {Q : Value → Shared → Prop} (hg : A.guards = some []) (ho : s.heap.get? a = some (baObj b)) (h0 : 0 ≤ k) (h1 : k < 256) (hz : b.size < sizeLine)
    (h : Q .none { s with heap := s.heap.update a (Obj.mapBytearray (·.push k.toNat.toUInt8)) }) :
    wpC (model prog w) A (call (.builtin "bytearray.append") [.ref a, .int k u]) Q s := by
  refine wpC_call (codeC_call_builtin (by decide +kernel) FA.entry_ba_append (by decide +kernel) ?_)
  refine FA.slot_ba_append.check _ _ _ _ _ _ _ _ (ba_type ho) (FA.args_ba_append_2 _ _) ?_
  unfold Builtin.«bytearray.append»
  refine wpC_eq (a := (Value.ref a, Value.int k u)) rfl ?_
  dsimp only
  have hbv : Builtin.Bytes.byteValue (.int k u) = pure k.toNat.toUInt8 := by
    unfold Builtin.Bytes.byteValue
    show (do let i ← (pure k : Sem Int); _) = _
    rw [pure_bind]
    have : (decide (k < 0) || decide (k ≥ 256)) = false := by simp only [Bool.or_eq_false_iff, decide_eq_false_iff_not]; omega
    rw [this]; rfl
  refine wpC_eq hbv ?_
  refine wpC_bind ?_
  · unfold Builtin.Bytes.checkResize
    refine wpC_bind ?_
    unfold orM
    refine wpC_bind (wpC_exported hg ?_)
    show wpC _ _ (do let n ← Builtin.Bytes.exportsOf (.ref a); pure (decide (n > 0))) _ _
    refine wpC_leaf ?_
    unfold Builtin.Bytes.exportsOf
    refine wpAny_bind (wpAny_load ho ?_)
    refine wpAny_pure (wpC_pure ?_)
    refine wpC_if_false rfl ?_
    refine wpC_pure ?_
    refine wpC_leaf (any_write ho (by rw [Array.size_push]; omega) ?_)
    exact wpC_pure h
end
end Mine
end

section
set_option maxRecDepth 100000
namespace Mine
open PySem PySem.W PySem.Calls PyProof.Rows

theorem owner_ba_new : ("bytearray.__new__".splitOn ".__new__").headD "" = "bytearray" := by rw [PySem.W.split_bytearray]; rfl

section
variable {prog : Program} {w : World} {A : Around} {E : Value → Shared → Prop} {s : Shared}

theorem code_ba_new {Q₁ : Value → Shared → Prop}
    (h : Q₁ (.ref s.heap.objs.size) { s with heap := s.heap.push (baObj #[]) }) :
    codeAny (model prog w) A (.call (.builtin "bytearray.__new__") ⟨[.type "bytearray"], []⟩) (wants Q₁ E) s := by
  refine codeAny_of_tree ?_
  show wpAny _ A.in1 (do checkBuiltinCall "bytearray.__new__" ⟨[.type "bytearray"], []⟩; again (.builtin "bytearray.__new__" ⟨[.type "bytearray"], []⟩)) _ _ s
  refine wpAny_bind (wpAny_of_eq FA.newCall_ba_0 (wpAny_pure ⟨plainId_quiet FA.plain_ba_new _, codeAny_builtin_stack FA.entry_ba_new rfl fun p st => ?_⟩))
  rw [Around.under_plainId FA.plain_ba_new _]
  have hsub := FA.sub_ba
  have hown := owner_ba_new
  obtain ⟨hp, g, d, tk, os⟩ := s
  simp only [hown]
  wp_walk
  exact h

theorem ba_make {Q : Value → Shared → Prop} (hg : A.guards = some [])
    (h : ∀ h', h'.objs.size = s.heap.objs.size + 1 → h'.get? s.heap.objs.size = some (baObj #[]) → (∀ b o, s.heap.get? b = some o → h'.get? b = some o) → Q (.ref s.heap.objs.size) { s with heap := h' }) :
    wpC (model prog w) A (call (.type "bytearray") []) Q s := by
  refine wpC_call (codeC_of_tree rfl ?_)
  show wpC _ _ (callAny (.type "bytearray") _) _ _
  refine wpC_pure ⟨Code.quiet_builtin _ (by decide +kernel), codeC_builtin F.entry_type_call (by decide +kernel) ?_⟩
  rw [Around.under_plain (weight_type_call_type _ _ _) rfl]
  unfold Builtin.«type.__call__»
  dsimp only
  refine wpC_if_false (by decide) ?_
  refine wpC_if_false FA.called_ba.canCreate ?_
  refine wpC_eq FA.typeCall_ba_0 ?_
  refine wpC_eq FA.mro_ba ?_
  refine wpC_if_false rfl ?_
  refine wpC_eq FA.called_ba.made ?_
  dsimp only
  refine wpC_eq rfl ?_
  refine wpC_leaf (wpAny_holding (wpAny_call (codeAny_mono (code_ba_new (E := NoE) (Q₁ := fun v s' => v = .ref s.heap.objs.size ∧ s' = { s with heap := s.heap.push (baObj #[]) }) ⟨rfl, rfl⟩) fun r s' hr => ?_)))
  cases r with
  | error e => exact hr
  | ok f =>
    cases f with
    | ret v =>
      obtain ⟨rfl, rfl⟩ := hr
      have ho : (s.heap.push (baObj #[])).get? s.heap.objs.size = some (baObj #[]) := Heap.get?_push_size _ rfl
      refine wpC_leaf (wpAny_isInstance (ba_type (s := { s with heap := s.heap.push (baObj #[]) }) ho) FA.sub_ba ?_)
      refine wpC_if_false rfl ?_
      refine wpC_bind (wpC_holding ?_)
      unfold callSpecial?
      refine wpC_leaf (wpAny_specialOf (ba_type (s := { s with heap := s.heap.push (baObj #[]) }) ho) FA.slot_ba_init.lookup ?_)
      dsimp only
      refine wpC_holding (wpC_eq (FA.slot_ba_init.bind _) ?_)
      refine wpC_bind (wpC_call (codeC_call_builtin (by decide +kernel) FA.entry_ba_init (by decide +kernel) ?_))
      refine FA.slot_ba_init.check _ _ _ _ _ _ _ _ (ba_type (s := { s with heap := s.heap.push (baObj #[]) }) ho) (FA.args_ba_init_1 _) ?_
      unfold Builtin.«bytearray.__init__»
      dsimp only [List.append_nil]
      refine wpC_leaf (any_ownRelease (s := { s with heap := s.heap.push (baObj #[]) }) ho ?_)
      refine wpC_if_false rfl ?_
      refine wpC_eq (a := [none, none, none]) (by kernel_rfl) ?_
      dsimp only
      refine wpC_eq (a := ()) rfl ?_
      refine wpC_eq (a := ()) rfl ?_
      unfold orM
      refine wpC_bind (wpC_bind (wpC_exported hg ?_))
      show wpC _ _ (do let n ← Builtin.Bytes.exportsOf (.ref s.heap.objs.size); pure (decide (n > 0))) _ _
      refine wpC_leaf ?_
      unfold Builtin.Bytes.exportsOf
      refine wpAny_bind (wpAny_load (s := { s with heap := s.heap.push (baObj #[]) }) ho ?_)
      refine wpAny_pure (wpC_pure ?_)
      refine wpC_if_false rfl ?_
      refine wpC_leaf (any_write (s := { s with heap := s.heap.push (baObj #[]) }) ho (by simp) ?_)
      dsimp only
      refine wpC_bind (wpC_if_false rfl (wpC_if_false rfl (wpC_pure ?_)))
      refine wpC_pure ?_
      show wpC _ _ (pure (some Value.none)) _ _
      refine wpC_pure ?_
      dsimp only
      refine wpC_if_false (by decide) (wpC_pure ?_)
      have ho' : ((s.heap.push (baObj #[])).update s.heap.objs.size (Obj.mapBytearray fun _ => #[])).get? s.heap.objs.size = some (baObj #[]) :=
        Heap.get?_update_self (Obj.mapBytearray fun _ => #[]) ho rfl
      refine h _ (by rw [Heap.size_update]; exact Heap.size_push _ _) ho' fun b o e => ?_
      exact (Heap.get?_update_other _ _ (Nat.ne_of_gt (Heap.lt_size e))).trans (Heap.get?_push_of_some _ e)
    | _ => exact hr.elim

theorem ba_reverse {a : Addr} {b : Array UInt8} {Q : Value → Shared → Prop} (ho : s.heap.get? a = some (baObj b)) (hz : b.size ≤ sizeLine)
    (h : Q .none { s with heap := s.heap.update a (Obj.mapBytearray (·.reverse)) }) :
    wpAny (model prog w) A (call (.builtin "bytearray.reverse") [.ref a]) Q E s := by
  refine wpAny_call (codeAny_call_builtin (by decide +kernel) FA.entry_ba_reverse ?_)
  refine FA.slot_ba_reverse.check _ _ _ _ _ _ _ _ (ba_type ho) (FA.args_ba_reverse_1 _) ?_
  unfold Builtin.«bytearray.reverse»
  refine wpAny_bind (wpAny_of_eq (a := Value.ref a) rfl ?_)
  refine wpAny_bind (any_write ho (by rw [Array.size_reverse]; exact hz) ?_)
  exact wpAny_pure h

theorem ba_item {a : Addr} {b : Array UInt8} {k : Int} {u : Tok} {x : UInt8} {Q : Value → Shared → Prop} (ho : s.heap.get? a = some (baObj b)) (hk : Builtin.Bytes.fitsIndex k = true)
    (hx : (seqIndex? k b.size).bind (b[·]?) = some x)
    (h : Q (.int (x.toNat : Nat) s.toks) { s with toks := s.toks + 1 }) :
    wpAny (model prog w) A (getItem (.ref a) (.int k u)) Q E s := by
  unfold getItem
  try with_reducible refine wpAny_holding ?_
  first | refine wpAny_bind (wpAny_pure ?_) | skip
  refine wpAny_bind (wpAny_sequenceKey (ba_type ho) (by decide) ?_)
  refine wpAny_bind (wpAny_callSpecial?_slot (name := Str.ofString "__getitem__") (ba_type ho) FA.slot_ba_getitem
    (wpAny_call_entry FA.slot_ba_getitem (ba_type ho) FA.entry_ba_getitem ?_ (FA.args_ba_getitem_2 _ _)))
  show wpAny _ _ (Builtin.Bytes.subscript? (.int k u) >>= _) _ _ s
  have hs : Builtin.Bytes.subscript? (.int k u) = pure (some k) := by
    unfold Builtin.Bytes.subscript?
    have e1 : specialOf (.int k u) "__index__" = pure (some (.builtin "int.__index__")) := by
      unfold specialOf
      show (do let t ← (pure (Value.type "int") : Sem Value); typeLookup t "__index__") = _
      rw [pure_bind, typeLookup_type, builtinLookup_eq_fast]; kernel_rfl
    have e2 : asIndex (.int k u) = pure k := rfl
    simp only [e1, e2, pure_bind, Option.isNone_some, Bool.false_eq_true, if_false, hk, Bool.not_true]
  refine wpAny_bind (wpAny_of_eq hs ?_)
  refine wpAny_bind (any_payload ho ?_)
  rw [hx]
  exact wpAny_bind (wpAny_mkInt (wpAny_pure ⟨_, rfl, wpAny_pure h⟩))

theorem bytes_of_ba {a : Addr} {b : Array UInt8} {Q : Value → Shared → Prop} (ho : s.heap.get? a = some (baObj b)) (hz : b.size ≤ sizeLine)
    (h : Q (.bytes b s.toks) { s with toks := s.toks + 1 }) :
    wpAny (model prog w) A (call (.type "bytes") [.ref a]) Q E s := by
  refine callType_codes (Q₁ := fun obj s₁ => s₁.TypeIs obj "bytes" ∧ Q obj s₁) F.bm_called (F.bm_typeCall _) F.entry_object_init ?_ fun obj s₁ h₁ => ?_
  · refine codeAny_of_tree ?_
    show wpAny _ A.in1.in1 (do checkBuiltinCall "bytes.__new__" ⟨[.type "bytes", .ref a], []⟩; again (.builtin "bytes.__new__" ⟨[.type "bytes", .ref a], []⟩)) _ _ s
    refine wpAny_bind (wpAny_of_eq (F.bm_newCall _) (wpAny_pure ⟨plainId_quiet F.bm_plain _, codeAny_builtin F.bm_entry ?_⟩))
    rw [Around.under_plainId F.bm_plain _]
    have hT := ba_type ho
    unfold Builtin.«bytes.__new__»
    refine wpAny_bind (wpAny_of_eq (a := true) rfl ?_)
    refine bm_if_false rfl ?_
    refine wpAny_bind (wpAny_of_eq F.bm_sub ?_)
    refine bm_if_false rfl ?_
    refine wpAny_bind (wpAny_of_eq (F.bm_bind _) ?_)
    refine wpAny_bind (wpAny_of_eq (a := ()) rfl ?_)
    refine wpAny_bind (wpAny_of_eq (a := ()) rfl ?_)
    refine bm_if_false rfl ?_
    refine wpAny_bind (wpAny_specialOf hT FA.no_bytes_ba ?_)
    refine wpAny_bind (wpAny_bind ?_)
    show wpAny _ _ (load a >>= _) _ _ _
    refine wpAny_bind (wpAny_load ho ?_)
    refine wpAny_pure (wpAny_pure ?_)
    refine bm_if_false rfl ?_
    refine wpAny_bind (wpAny_specialOf hT FA.no_index_ba ?_)
    refine bm_if_true rfl ?_
    first
      | show wpAny _ _ (Builtin.Bytes.buffer? "bytes.__new__" (.ref a) true >>= _) _ _ _
      | (refine wpAny_bind ?_; show wpAny _ _ (Builtin.Bytes.buffer? "bytes.__new__" (.ref a) true >>= _) _ _ _)
    refine wpAny_bind ?_
    unfold Builtin.Bytes.buffer?
    refine wpAny_bind (wpAny_specialOf hT FA.buffer_ba ?_)
    try dsimp only
    refine wpAny_bind (any_slotIsOwn ho FA.buffer_ba (by decide +kernel) (by decide +kernel) ?_)
    refine bm_if_false rfl ?_
    refine wpAny_bind (wpAny_specialOf hT FA.buffer_ba ?_)
    try dsimp only
    refine wpAny_bind (any_ownRelease ho ?_)
    refine bm_if_false rfl ?_
    refine wpAny_bind (any_payload ho ?_)
    refine wpAny_pure ?_
    refine wpAny_bind (wpAny_rule ?_)
    refine wpAny_bind (wpAny_mkBytes ?_ hz)
    show wpAny _ _ (if (Value.type "bytes" == Value.type "bytes") = true then _ else _) _ _ _
    refine bm_if_true (by decide) ?_
    first
      | exact wpAny_pure ⟨PySem.W.typeIs_bytes _ _ _, h⟩
      | exact wpAny_bind (wpAny_pure (wpAny_pure ⟨PySem.W.typeIs_bytes _ _ _, h⟩))
  · exact ⟨h₁.1, F.args_object_init_2 obj _, object_init_meets F.bm_called.init.lookup F.bm_called.made (by decide) prog w A.in1 _ s₁ ⟨h₁.1, rfl, h₁.2⟩⟩
end
end Mine
end

section
set_option maxRecDepth 100000
namespace Mine
open PySem PySem.W PySem.Calls PyProof.Rows

def calmly (t : Sem Value) : Sem Value := do
  let st ← stack
  if calmOf st then t else pure (.bool true)
def calmlyF (t : Sem Fin) : Sem Fin := do
  let st ← stack
  if calmOf st then t else pure (.done (.ret (.bool true)))

theorem any_calmly {M : Model} {A : Around} {t : Sem Value} {Q : Value → Shared → Prop} {E : Value → Shared → Prop} {s : Shared} (h : wpC M A t Q s) (hb : Q (.bool true) s) : wpAny M A (calmly t) Q E s := fun Γ p hΓ => by
  show Sem.wp M Γ (if calmOf ((Γ.code, p) :: Γ.below) = true then t else pure (.bool true)) _ _ p s
  cases hc : calmOf ((Γ.code, p) :: Γ.below) with
  | false => exact hb
  | true =>
    obtain ⟨h1, h2⟩ := Bool.and_eq_true_iff.mp (show (calmCode Γ.code && calmOf Γ.below) = true from hc)
    exact Sem.wp_mono M Γ t (fun _ _ _ x => x) (fun _ _ _ x => x.elim) p s (h Γ p hΓ h1 h2)

def theTree (name : Str) (vs : List Value) : Sem Fin := do
  match ← nsGet mainNs name with
  | some f => do ret (← PySem.call f vs)
  | none => unsupported "claim.caller:no-such-global"

theorem tree_of_run {prog : Program} {name : Str} (vs : List Value) (w : World) (s : Shared) (mg : Str → Option Value) (f : Value) (Q : Fin → Shared → Prop) (E : Value → Shared → Prop) (hg : s.heap.Ns mainGlobals mg) (hf : mg name = some f)
    (h : wpAny (model prog w) callerA (calmly (PySem.call f vs)) (fun v s' => Q (.done (.ret v)) s') E s) : wpAny (model prog w) callerA (calmlyF (theTree name vs)) Q E s := fun Γ p hΓ => by
  have h' := h Γ p hΓ
  have h' : Sem.wp (model prog w) Γ (if calmOf ((Γ.code, p) :: Γ.below) = true then PySem.call f vs else pure (.bool true)) (fun v _ s' => Q (.done (.ret v)) s') (fun e _ s' => E e s') p s := h'
  show Sem.wp (model prog w) Γ (if calmOf ((Γ.code, p) :: Γ.below) = true then theTree name vs else pure (.done (.ret (.bool true)))) _ _ p s
  cases hc : calmOf ((Γ.code, p) :: Γ.below) with
  | false => rw [hc] at h'; exact h'
  | true =>
    rw [hc] at h'
    show Sem.wp (model prog w) Γ (theTree name vs) _ _ p s
    unfold theTree
    rw [Sem.wp_bind']
    refine (Sem.wp_nsGet _ Γ _ p s hg name _).mpr ?_
    rw [hf]
    show Sem.wp (model prog w) Γ (PySem.call f vs >>= fun v => ret v) _ _ p s
    rw [Sem.wp_bind']
    exact Sem.wp_mono _ Γ _ (fun _ _ _ x => x) (fun _ _ _ x => x) p s h'

theorem sched_calmly {prog : Program} {w : World} {s s' : Shared} {n : Nat} {o : Outcome} {name : Str} {vs : List Value} (hz : s.asleep)
    (h : schedN (denote table) prog w n (.single s ⟨calmlyF (theTree name vs), .builtin "claim.caller" {}, default, []⟩) = .halted o s') :
    ∃ m, schedN (denote table) prog w m (.single s (callStub name vs)) = .halted o s' := by
  cases n with
  | zero => cases h
  | succ n =>
    refine ⟨n, ?_⟩
    have hs : step (denote table) prog w s ⟨calmlyF (theTree name vs), .builtin "claim.caller" {}, default, []⟩ = .go s (callStub name vs) := by
      obtain ⟨heap, gens, drawn, toks, os⟩ := s
      show Step.go _ ⟨(if calmOf [(Code.builtin "claim.caller" {}, default)] = true then theTree name vs else pure (.done (.ret (.bool true)))), _, _, _⟩ = _
      have : calmOf [(Code.builtin "claim.caller" {}, (default : Pos))] = true := by decide +kernel
      rw [if_pos this]
      rfl
    rcases sstep_single (denote table) prog w s ⟨calmlyF (theTree name vs), .builtin "claim.caller" {}, default, []⟩ (by first | rfl | (kernel_rfl)) hz with q | q
    · unfold schedN at h
      rw [q, hs] at h
      exact h
    · rw [hs] at q; cases q

theorem holds_calmly {name : Str} {c : ClaimW} {defs kps : List Str} {writes : Bool}
    (H : c.HoldsOpenBy (fun vs => ⟨calmlyF (theTree name vs), .builtin "claim.caller" {}, default, []⟩) defs kps writes) : c.HoldsOpenBy (callStub name) defs kps writes := by
  obtain ⟨a, b, H⟩ := H
  refine ⟨a, b, fun w => ⟨(H w).1, fun s hs => ?_⟩⟩
  obtain ⟨s₀, h1, h2, s₁, T, d, r1, r2, C⟩ := (H w).2 s hs
  refine ⟨s₀, h1, h2, s₁, T, d, r1, r2, fun args hp hl ord ho => ?_⟩
  obtain ⟨vs, s₂, hlaid, n, o, s', hrun, rest⟩ := C args hp hl ord ho
  have z : s.asleep := by
    obtain ⟨n, t, hn, _⟩ := hs
    exact Shared.asleep_of_life (s := (start (opening c.prog)).1) (runN_life_running hn) ⟨rfl, rfl⟩
  have z₀ : s₀.asleep := Shared.asleep_of_life (fence_lifeW h1) z
  have z₁ : s₁.asleep := Shared.asleep_of_life T.2.1 z₀
  have z₂ : s₂.asleep := Shared.asleep_of_life (layAllW_rest _ _ _ hlaid).2.2.2 z₁
  obtain ⟨m, hm⟩ := sched_calmly z₂ hrun
  exact ⟨vs, s₂, hlaid, m, o, s', hm, rest⟩
end Mine
end

section
set_option maxRecDepth 100000
open PySem PySem.W PySem.Calls PyProof.Rows
namespace MineHead.PySem.W
open Mine

/-! The head of a law whose call stands under «calmly»; open_top below finds this one first, inside MineHead. -/
theorem holds_open {r : OpenRow} {q : Program} {loose : List Str} {Xt : Shared → Bool} {XP : (Str → Option Value) → Heap → Prop} {α : Type} {Yf : Shared → α} {Ya : World → α} {YP : World → Heap → Prop} {d : DefRec} {kwd : List (Str × Expr)} {N : Nat}
    (left : LeftO r.prog q loose Xt Yf Ya N) (hY : ∀ w s, Yf s = Ya w → YP w s.heap) (hYk : ∀ w h h', YP w h → (∀ b o, h.get? b = some o → h'.get? b = some o) → YP w h')
    (hX : ∀ s, Xt s = true → XP (s.heap.nsMap mainGlobals) s.heap) (hXk : ∀ mg h h', XP mg h → (∀ b o, h.get? b = some o → h'.get? b = some o) → XP mg h')
    (hdef : defOf q r.name = some (d, kwd)) (hp : r.prog.theDef r.name = some (d.params, d.body, d.scope)) (hk : kwWritten? d.params.kwonlyargs d.params.kw_defaults = some kwd) (hRf : ∀ s, Xt s = true → RecFacts r.records s.heap) (hwr : (!r.writes || r.records.isEmpty) = true)
    (k1 : r.wellSaid = true) (ok : (chainsOk q && opensWell r.prog && (frees r.toRowW && r.within.isEmpty)) = true) (hb : r.prog.bare) (hw : r.toRowW.promised)
    (call : WalkO q loose XP YP r.toRowW d kwd fun f vs => calmly (_root_.PySem.call f vs)) : r.Holds := by
  refine ⟨k1, hw, holds_calmly (open_anyG (r := r.toRowW) (run := fun f vs => calmly (_root_.PySem.call f vs)) (tree := fun vs => calmlyF (theTree r.name vs)) left hY hYk hX hXk hRf hwr ok hb hw
    (fun vs w s mg f Q E hg hf h => tree_of_run vs w s mg f Q E hg hf h) (fun w s hg G n hn => ?_) fun w s₀ s₁ mg mb G Y args vs as hpre hlay L low => ?_)⟩
  · have e : n = r.name := by split at hn <;> simp_all
    subst e
    exact pinned_of_view hg G hdef hp hk
  · obtain ⟨a, o, pm, cd, doc, dV, kV, h1, h2, h3, h4, h5⟩ := G.fn hdef
    exact ⟨.ref a, h1, call w s₀ s₁ mg mb G Y a o pm cd doc dV kV h2 h3 h4 h5 (defOf_name hdef ▸ h1) L.gens args vs as hpre hlay L.reads L.well (L.low low)⟩
end MineHead.PySem.W

namespace MineHead
open Mine
set_option Elab.async false
set_option maxHeartbeats 8000000 in
open_top hd for PySem.Challenge.rw_vj0001_01
end MineHead
end

section
set_option maxRecDepth 100000
open PySem PySem.W PySem.Calls PyProof.Rows
namespace Mine

theorem law_end {s₀ s₁ s' : Shared} {args : List WData} (hk : ∀ b o, s₁.heap.get? b = some o → s'.heap.get? b = some o) (hos : s'.os = s₁.os) (hg : AllBare s'.gens) :
    GoodWG PySem.Challenge.rw_vj0001_01.row.claim (classAt s₀.heap) (ExcName.means s₀.heap) args s₁ (.ok (.ret (.bool true))) s' :=
  ⟨.inl ⟨.bool true, .bool true, [], rfl, fun _ => rfl, .bool true, postW_of (r := PySem.Challenge.rw_vj0001_01.row.toRowW) (X := (true == true)) (by decide +kernel) (by exact w_eq_bool (k := true) (l := true) (w_res rfl) w_lit) rfl, fun _ => ⟨.nil, fun _ h => nomatch h⟩⟩, .of_keep hk, hos, hg⟩

section
variable {M : Model} {A : Around} {s : Shared} {env : Env}

/-! The spine: statements whose inside calls what asks the stack. -/
theorem wpC_execs_nil {Q : Flow → Shared → Prop} (h : Q .next s) : wpC M A (execs [] env) Q s := fun _ _ _ _ _ => h
theorem wpC_execs_cons {st rest} {Q : Flow → Shared → Prop}
    (h : wpC M A (exec st env) (fun f s' => match f with | .next => wpC M A (execs rest env) Q s' | f => Q f s') s) : wpC M A (execs (st :: rest) env) Q s := by
  rw [execs_cons]
  refine wpC_bind (wpC_mono h fun f s' h' => ?_)
  cases f <;> first | exact h' | exact wpC_pure h'
theorem wpC_execs_leaf {st rest} {Q : Flow → Shared → Prop}
    (h : wpAny M A (exec st env) (fun f s' => match f with | .next => wpC M A (execs rest env) Q s' | f => Q f s') NoE s) : wpC M A (execs (st :: rest) env) Q s :=
  wpC_execs_cons (wpC_of_any h)
theorem wpC_Assign_Name {x pos' value pos} {Q : Flow → Shared → Prop}
    (h : wpC M A (eval value env) (fun v s₁ => wpAny M A (storeName env x v) (fun _ => Q .next) NoE s₁) s)
    (hs : swapsWith value (some (.Name x pos')) pos.line env = pure false := by rfl) :
    wpC M A (exec (.Assign [.Name x pos'] value pos) env) Q s := by
  rw [exec_Assign_Name env x pos' value pos hs]
  refine wpC_bind (wpC_standAt (wpC_bind (wpC_mono h fun v s₁ h₁ => wpC_bind (wpC_standAt (wpC_leaf (wpAny_bindName (wpAny_mono h₁ (fun _ _ q => wpC_pure q) fun _ _ x => x)))))))
theorem wpC_Expr {e pos} {Q : Flow → Shared → Prop} (h : wpC M A (eval e env) (fun v s' => (∀ a, v ≠ .ref a) ∧ Q .next s') s)
    (hi : interactive env = false := by rfl) (hs : swapsWith e none pos.line env = pure false := by rfl) :
    wpC M A (exec (.Expr e pos) env) Q s := by
  rw [exec_Expr env e pos hi hs]
  refine wpC_bind (wpC_standAt (wpC_bind (wpC_mono h fun v s' h' => ?_)))
  rw [dropValue_plain h'.1]
  exact wpC_pure h'.2
theorem wpC_If {test body orelse pos} {Q : Flow → Shared → Prop}
    (h : wpAny M A (isTrue test env (eval test env)) (fun b s₂ => if b = true then wpC M A (execs body env) Q s₂ else wpC M A (execs orelse env) Q s₂) NoE s) :
    wpC M A (exec (.If test body orelse pos) env) Q s := by
  rw [exec_If]
  refine wpC_bind (wpC_standAt (wpC_leaf (wpAny_mono h (fun b s₂ h₂ => ?_) fun _ _ x => x)))
  cases b <;> exact h₂
theorem wpC_runOwn {c : Code} {Q : Flow → Shared → Prop} (hc : codeC M A c Q s) : wpC M A (runOwn c env none) Q s := by
  unfold runOwn
  exact wpC_onRaise (wpC_run hc)
theorem wpC_While {test body orelse pos} {Q : Flow → Shared → Prop} (h : codeC M A (.whileLoop test body orelse env) Q s) :
    wpC M A (exec (.While test body orelse pos) env) Q s := by
  rw [exec_While]; exact wpC_bind (wpC_standAt (wpC_runOwn h))
theorem wpC_Return_some {e pos} {Q : Flow → Shared → Prop} (h : wpC M A (eval e env) (fun v => Q (.ret v)) s) : wpC M A (exec (.Return (some e) pos) env) Q s := by
  rw [exec_Return_some]
  exact wpC_bind (wpC_standAt (wpC_bind (wpC_mono h fun v s' h' => wpC_pure h')))
theorem wpC_callWith {P : Heap → Prop} {pos : Pos} {f : Value} {first : List Value} {args : List (Bool × Sem Value)} {Q : Value → Shared → Prop} (hplain : args.any (·.1) = false)
    (hk : ∀ h, P h → ∃ k, (k = Keeper.frame ∨ k = Keeper.machine ∨ k = Keeper.boundFrame) ∧ Looks M h (keeperOf f) k)
    (h : wpAny M A (evalArgs f true args []) (fun a s₁ => P s₁.heap ∧ wpC M A (call f (first ++ a.pos) a.kw) Q s₁) NoE s) : wpC M A (callWith pos f first args []) Q s := by
  unfold callWith
  refine wpC_leaf (wpAny_holding (wpAny_mono h (fun a s₁ h₁ => wpC_bind (wpC_standAt ?_)) fun _ _ x => x))
  obtain ⟨k, hk', L⟩ := hk _ h₁.1
  simp only [hplain, List.any_nil, Bool.or_false]
  refine wpC_leaf (L.here ?_)
  have tail : ∀ {t : Sem Value}, wpC M A t Q s₁ → wpC M A (t >>= fun r => holding [r] point >>= fun _ => pure r) Q s₁ :=
    fun ht => wpC_bind (wpC_mono ht fun r s₂ hr => wpC_bind (wpC_holding (wpC_point (wpC_pure hr))))
  have marked (mk : Value) : wpC M A (callMarked mk f (first ++ a.pos) a.kw) Q s₁ := by unfold callMarked; exact wpC_keep h₁.2
  rcases hk' with rfl | rfl | rfl <;> dsimp only <;> first | exact tail h₁.2 | (split <;> first | exact tail h₁.2 | exact tail (marked _))
theorem keeps_plain {f : Value} (hf : ∀ a, f ≠ .ref a) : ∀ h, True → ∃ k, (k = Keeper.frame ∨ k = Keeper.machine ∨ k = Keeper.boundFrame) ∧ Looks M h (keeperOf f) k := fun h _ =>
  ⟨.machine, .inr (.inl rfl), Looks.of_pure (by cases f <;> first | rfl | exact (hf _ rfl).elim)⟩
theorem wpC_Call_Name {id : Str} {p pos : Pos} {args : List Expr} {Q : Value → Shared → Prop}
    (h : wpAny M A (eval (.Name id p) env) (fun f s₁ => wpC M A (callWith pos f [] (backTo pos (starEach args env)) []) Q s₁) NoE s) :
    wpC M A (eval (.Call (.Name id p) args [] pos) env) Q s := by
  show wpC M A (do callWith pos (← eval (.Name id p) env) [] (backTo pos (starEach args env)) (backToKw pos (keywordEach [] env))) Q s
  exact wpC_leaf h
end

section
variable {prog : Program} {w : World} {A : Around} {s : Shared} {env : Env}
theorem wpC_Call_method {o : Expr} {name : Str} {apos pos : Pos} {args : List Expr} {T id : String} {Q : Value → Shared → Prop}
    (hbase : attributeBase o name env (eval o env) = eval o env)
    (hform : methodCallForm (args.length + ([] : List Keyword).length) (backTo pos (starEach args env)) (backToKw pos (keywordEach [] env)) = true)
    (hline : (apos.endLine == pos.line) = true)
    (pa : PlainAttrs T) (slot : Slot T name id) (hty : typeOf (.builtin id) = pure (.type "method_descriptor"))
    (h : wpAny (model prog w) A (eval o env) (fun ov s₁ => s₁.TypeIs ov T ∧ (∀ a, ov = .ref a → ∃ ob, s₁.heap.get? a = some ob ∧ ob.dict = none) ∧
      wpC (model prog w) A (callWith pos (.builtin id) [ov] (backTo pos (starEach args env)) []) Q s₁) NoE s) :
    wpC (model prog w) A (eval (.Call (.Attribute o name apos) args [] pos) env) Q s := by
  rw [arm_eval_Call, hbase]
  refine wpC_leaf (wpAny_mono h (fun ov s₁ h₁ => ?_) fun _ _ e => e)
  obtain ⟨hT, hd, hc⟩ := h₁
  refine wpC_bind (wpC_standAt ?_)
  have hpos : methodCallPos true o env apos pos = pure pos := by unfold methodCallPos; simp [hline]
  unfold methodCall
  rw [hform]
  refine wpC_leaf (wpAny_holding (getMethod_builtin hT pa slot hty hd ?_))
  exact wpC_eq hpos hc

theorem codeC_func {body : List Stmt} {env : Env} {R : Flow → Shared → Prop}
    (h : wpC (model prog w) (A.deeper env) (execs body env) (fun f s' => R (.ret (match f with | .ret v => v | _ => .none)) s') s) :
    codeC (model prog w) A (.func body env) R s := by
  refine codeC_of_tree rfl ?_
  show wpC _ (A.deeper env) (do point; match ← (execs body env).onRaise (leaving env) with | .ret v => ret v | _ => ret .none) _ s
  refine wpC_bind (wpC_point (wpC_bind (wpC_onRaise (wpC_mono h fun f s' h' => ?_))))
  cases f <;> exact wpC_pure h'

theorem codeC_call_function {a : Addr} {args : Args} {o : Obj} {fd : FuncData} {body : List Stmt} {R : Flow → Shared → Prop} (hroom : A.depth < recursionLimit)
    (ho : s.heap.get? a = some o)
    (hd' : o.data = .func fd) (hco : fd.scope.isCoroutine = false) (hgen : fd.scope.isGenerator = false) (hbody : fd.body = .stmts body) (hcd : s.heap.CodeRec fd.code fd.qualname)
    (h : wpAny (model prog w) A.in1 (bindArgs fd args) (fun binds s₁ =>
      wpAny (model prog w) A.in1 (newFunctionEnv fd.scope fd.globals fd.closure binds (fd.qualname ++ ".<locals>.") (some a) fd.code none fd.builtins)
        (fun env s₂ => s₂.heap.NoLimit ∧ codeC (model prog w) A (.func body env) R s₂) NoE s₁) NoE s) :
    codeC (model prog w) A (.call (.ref a) args) R s := by
  refine codeC_of_tree rfl ?_
  show wpC _ A.in1 (callAny (.ref a) args) _ s
  simp only [callAny]
  refine wpC_leaf (wpAny_load ho ?_)
  obtain ⟨c, oc, vs, tq, hc, hoc, hdc, hq⟩ := hcd
  simp only [hd', callFunction, hco, hgen, hbody, hc]
  rw [hc] at h
  refine wpC_leaf (m := field (.ref c) 1) (wpAny_field hoc hdc hq (wpC_bind (wpC_pure ?_)))
  refine wpC_leaf (wpAny_mono h (fun binds s₁ h₁ => wpC_leaf (wpAny_mono h₁ (fun env s₂ h₂ => wpC_leaf (wpAny_enterFrame h₂.1 hroom
    (wpC_pure (And.intro rfl h₂.2)))) fun _ _ h' => h')) fun _ _ h' => h')

theorem codeC_whileLoop {test body orelse env} {R : Flow → Shared → Prop} (I : Nat → Shared → Prop)
    (turn : ∀ n s, I n s →
      wpAny (model prog w) A (isTrue test env (eval test env)) (fun b s₂ =>
        if b = true then wpC (model prog w) A (execs body env) (fun f s₃ => match f with
            | .next | .cont => ∃ m, m < n ∧ I m s₃
            | .brk => R .next s₃
            | .ret v => R (.ret v) s₃) s₂
        else wpC (model prog w) A (execs orelse env) (fun f s₃ => R f s₃) s₂) NoE s)
    (n : Nat) (h : I n s) : codeC (model prog w) A (.whileLoop test body orelse env) R s := by
  induction n using Nat.strongRecOn generalizing s with
  | ind n ih =>
    refine codeC_of_tree rfl ?_
    rw [Around.under_of_weight (c := .whileLoop test body orelse env) rfl]
    show wpC _ A ((whileTurn test body orelse env).onRaise (fun x => do noteFrame x env; theTreesLotGoes x)) _ s
    refine wpC_onRaise ?_
    simp only [whileTurn]
    refine wpC_leaf (wpAny_mono (turn n s h) (fun b s₂ h₂ => ?_) fun _ _ h' => h')
    cases b with
    | false => exact wpC_bind (wpC_mono (show wpC _ _ (execs orelse env) _ _ from h₂) fun f s₃ h₃ => wpC_pure h₃)
    | true =>
      refine wpC_bind (wpC_mono (show wpC _ _ (execs body env) _ _ from h₂) fun f s₃ h₃ => ?_)
      cases f with
      | next => obtain ⟨m, hm, hI⟩ := h₃; exact wpC_pure ⟨rfl, ih m hm hI⟩
      | cont => obtain ⟨m, hm, hI⟩ := h₃; exact wpC_pure ⟨rfl, ih m hm hI⟩
      | brk => exact wpC_pure h₃
      | ret v => exact wpC_pure h₃
end
end Mine
end

section
set_option maxRecDepth 100000
open PySem PySem.W PySem.Calls PyProof.Rows
namespace Mine

theorem in_of {K : Frag} {h : Heap} {a : Addr} {o : Obj} (X : K.In h) (l : K.lookup a = some o) : h.get? a = some o := X a o l
structure Gd (w : World) (mean : ExcName → Option Value) (mg mb : Str → Option Value) (h : Heap) : Prop where
  X : (MineHead.hd.heap_39 w.params).In h
  T : TopRead MineHead.hd.view_39 (looseW MineHead.hd.view_39 []) mg mb h
  M : ∃ bm ob, BMod h mainGlobals mg bm ob
theorem Gd.keeps {w : World} {mean : ExcName → Option Value} {mg mb : Str → Option Value} {h h' : Heap} (G : Gd w mean mg mb h) (k : ∀ b o, h.get? b = some o → h'.get? b = some o) : Gd w mean mg mb h' :=
  ⟨G.X.keeps k, G.T.keeps k, let ⟨bm, ob, x⟩ := G.M; ⟨bm, ob, x.keeps k⟩⟩
theorem classed_39 (w : World) : kb_classed (MineHead.hd.heap_39 w.params) = true := by
  kernel_rfl
theorem ns_but {h h' : Heap} {a P : Addr} {ps : Array Value} {m : Str → Option Value} (t : h.get? P = some { cls := .none, data := .fields ps }) (k : ∀ b o, b ≠ P → h.get? b = some o → h'.get? b = some o) (G : h.Ns a m) : h'.Ns a m := by
  have hne : a ≠ P := fun e => by
    obtain ⟨o, es, ep, ho, hd, r⟩ := G
    rw [e, t] at ho; cases ho; cases hd
  obtain ⟨o, es, ep, ho, hd, r⟩ := G
  exact ⟨o, es, ep, k _ _ hne ho, hd, r⟩
theorem Gd.but {w : World} {mean : ExcName → Option Value} {mg mb : Str → Option Value} {h h' : Heap} {P : Addr} {ps : Array Value} (G : Gd w mean mg mb h) (t : h.get? P = some { cls := .none, data := .fields ps }) (hP : P ≠ cStatics)
    (k : ∀ b o, b ≠ P → h.get? b = some o → h'.get? b = some o) : Gd w mean mg mb h' := by
  refine ⟨fun a o e => ?_, ?_, ?_⟩
  · have ha := G.X a o e
    have q := List.all_eq_true.mp (classed_39 w) (a, o) (kb_mem e)
    refine k _ _ (fun z => ?_) ha
    simp only [Bool.or_eq_true, decide_eq_true_eq, beq_iff_eq] at q
    rcases q with (q | q) | q
    · rw [z, t] at ha; cases ha; exact q rfl
    · exact hP (z.symm.trans q)
    · obtain ⟨o, es, ep, ho, hd, r⟩ := G.T.g
      rw [← q, z, t] at ho; cases ho; cases hd
  · obtain ⟨mc, h1, h2⟩ := G.T.nolimit
    exact ⟨ns_but t k G.T.g, ns_but t k G.T.b, ⟨mc, ns_but t k h1, h2⟩, G.T.builtins, G.T.free⟩
  · obtain ⟨bm, ob, x⟩ := G.M
    refine ⟨bm, ob, ns_but t k x.ns, x.name, x.ne, k _ _ (fun z => ?_) x.obj, x.cls, x.dict, x.data⟩
    have ho := x.obj
    rw [z, t] at ho; cases ho; exact absurd x.cls (by simp)

section
variable {w : World} {A : Around} {E : Value → Shared → Prop} {s : Shared} {mean : ExcName → Option Value} {mg mb : Str → Option Value}

theorem bitlen_ok {n : Int} {u : Tok} {Q : Value → Shared → Prop} (G : Gd w mean mg mb s.heap) (hd : A.depth < recursionLimit) (hh : A.handled = none)
    (h : ∀ h' t tk, (∀ b o, s.heap.get? b = some o → h'.get? b = some o) → Q (.int (Builtin.Int.intBits n : Nat) t) { s with heap := h', toks := tk }) :
    wpAny (model PySem.Challenge.rw_vj0001_01.row.prog w) A (call (.ref 28) [.int n u]) Q E s := by
  have X := G.X
  revert X
  k_fill
  intro X
  have T := G.T
  refine' wpAny_call (call_plain_ret (binds := [(Str.ofString "n", .int n u)]) hd (in_of X ?l) ?dat T.nolimit (codeRec_of X ?cd) ?b ?loc (fun h₁ F => ?_) ?co ?gn ?kf ?cl)
  case l => k_is
  case dat => exact rfl
  case cd => k_is
  case b => exact rfl
  case loc => exact locs rfl
  case co => exact rfl
  case gn => exact rfl
  case kf => exact rfl
  case cl => decide
  have N : News s.heap s.heap.objs.size h₁ [] := News.nil
  dsimp only
  k_steps
  exact h _ _ _ F.keep
end
end Mine
end

section
set_option maxRecDepth 100000
open PySem PySem.W PySem.Calls PyProof.Rows
namespace Mine
def meantI : List Int → Int
  | [] => 0
  | n :: r => r.foldl (fun a o => a * 256 + o) (if 127 < n then n - 256 else n)
structure Stop (P : Prop) : Prop where
  out : P
section
variable {M : Model} {A : Around} {E : Value → Shared → Prop} {s : Shared} {env : Env}
theorem execs_stop {st rest} {Q : Flow → Shared → Prop}
    (h : wpAny M A (exec st env) (fun f s' => match f with | .next => Stop (wpAny M A (execs rest env) Q E s') | f => Q f s') E s) : wpAny M A (execs (st :: rest) env) Q E s :=
  wpAny_execs_cons (wpAny_mono h (fun f _ q => by cases f <;> first | exact q.out | exact q) fun _ _ x => x)
theorem For_stop {target iter body orelse pos} {Q : Flow → Shared → Prop}
    (h : wpAny M A (eval iter env) (fun x s₁ => Stop (wpAny M A (pyIter x) (fun it s₂ =>
      codeAny M A (.forLoop target it body orelse env) (fun r s' => match r with | .ok f => Q f s' | .error e => cameBackBy M A env E e s') s₂) E s₁)) E s)
    (hs : ∀ x, foldedSetIterable iter env x = pure x := by intro _; rfl) : wpAny M A (exec (.For target iter body orelse pos) env) Q E s :=
  wpAny_For (wpAny_mono h (fun _ _ q => q.out) fun _ _ x => x) hs
end
section
variable {prog : Program} {w : World} {A : Around} {E : Value → Shared → Prop} {s : Shared} {env : Env}
theorem passes_NoE {M : Model} : PassesOwn M A env NoE := by first | exact fun _ _ h => h.elim | (intro _ _ h; exact h.elim) | passes_own

theorem meant_loop {L D : Addr} {ws : List Value} {ns : List Int} {a : Int} {t : Tok} {m : Str → Option Value} {px p1 p2 p3 p4 p5 p6 p7 : Pos} {R : Result → Shared → Prop}
    (hh : A.handled = none) (hL : env.locals = L) (hk : env.scope.kind = .function) (hx : env.kindOf (Str.ofString "octet") = some .local) (hy : env.kindOf (Str.ofString "number") = some .local)
    (hn : s.heap.Ns L m) (hD : s.heap.IsList D ws.toArray) (hDL : D ≠ L) (hi : IntsAre ws ns) (hm : m (Str.ofString "number") = some (.int a t))
    (done : ∀ h' tk m' t', h'.Ns L m' → m' (Str.ofString "number") = some (.int (ns.foldl (fun a o => a * 256 + o) a) t') → (∀ b o, b ≠ L → s.heap.get? b = some o → h'.get? b = some o) → R (.ok .next) { s with heap := h', toks := tk }) :
    wpAny (model prog w) A (pyIter (.ref D)) (fun it s₂ => codeAny (model prog w) A (.forLoop (.Name (Str.ofString "octet") px) it
      [.Assign [.Name (Str.ofString "number") p1] (.BinOp (.BinOp (.Name (Str.ofString "number") p2) .Mult (.Constant (.int 256) 0 p3) p4) .Add (.Name (Str.ofString "octet") p5) p6) p7] [] env) R s₂) E s := by
  subst hL
  refine wpAny_pyIter_list hD ?_
  have hp : (env.scope.kind == .class || (env.scope.kind == .module && env.locals != env.globals)) = false := by rw [hk]; rfl
  have hlt : ∀ b o, s.heap.get? b = some o → b ≠ s.heap.objs.size := fun b o e => Nat.ne_of_lt (Heap.lt_size e)
  obtain ⟨ol, hol, _⟩ := id hD
  obtain ⟨oL, _, _, hoL, _⟩ := id hn
  refine codeAny_forLoop_locals hh hx hp (Ne.symm (hlt _ _ hoL)) hDL (hlt _ _ hol) ⟨_, Heap.get?_push_size _ rfl, rfl, rfl⟩ (hD.push _) (hn.push _)
    (fun i m₁ => ∃ t, m₁ (Str.ofString "number") = some (.int ((ns.take i).foldl (fun a o => a * 256 + o) a) t)) ⟨t, by simpa using hm⟩ ?_ fun h' tk m' hn' hJ hk => ?_
  · rintro i v m₁ s₁ hv ⟨t₁, ha⟩ hn₁
    have hv' : ws[i]? = some v := by simpa using hv
    obtain ⟨n, t, rfl, hns⟩ := IntsAre.at hi i v hv'
    have e1 : (if (Str.ofString "number" : Str) = Str.ofString "octet" then some (Value.int n t) else m₁ (Str.ofString "number")) = some (.int ((ns.take i).foldl (fun a o => a * 256 + o) a) t₁) := by
      rw [if_neg (by decide)]; exact ha
    refine wpAny_execs_cons (wpAny_Assign_Name (wpAny_BinOp (wpAny_BinOp (wpAny_Name (wpAny_loadName_local hk hy hn₁ e1 (wpAny_Constant_int ?_))))))
    refine P.mul_int ?_
    refine wpAny_Name (wpAny_loadName_local hk hx hn₁ (v := .int n t) (if_pos rfl) ?_)
    refine P.add_int ?_
    have e2 : (ns.take (i + 1)).foldl (fun a o => a * 256 + o) a = (ns.take i).foldl (fun a o => a * 256 + o) a * 256 + n := by
      rw [List.take_add_one, hns]; simp
    refine wpAny_storeName_local hy hn₁ (fun h₂ hn₂ hs₂ => wpAny_execs_nil ⟨rfl, ⟨h₂, _, rfl, hs₂⟩, _, hn₂, ?_⟩) hp
    rw [e2]
    exact ⟨_, if_pos rfl⟩
  · obtain ⟨t', ht'⟩ := hJ
    have hlen : ws.toArray.size = ns.length := by simp [hi.length]
    rw [hlen, List.take_length] at ht'
    exact done h' tk m' t' hn' ht' fun b o hb e => hk b o hb (hlt b o e) (Heap.get?_push_of_some _ e)
end
section
variable {w : World} {A : Around} {E : Value → Shared → Prop} {s : Shared} {mean : ExcName → Option Value} {mg mb : Str → Option Value}

theorem meant_ok {l : Addr} {vs : List Value} {n0 : Int} {ns : List Int} {Q : Value → Shared → Prop} (G : Gd w mean mg mb s.heap) (hd : A.depth < recursionLimit) (hh : A.handled = none)
    (hl : s.heap.IsList l vs.toArray) (hi : IntsAre vs (n0 :: ns)) (hr : ∀ n ∈ n0 :: ns, 0 ≤ n ∧ n < 256) (hz : (n0 :: ns).length ≤ 30)
    (h : ∀ h' t tk, (∀ b o, s.heap.get? b = some o → h'.get? b = some o) → Q (.int (meantI (n0 :: ns)) t) { s with heap := h', toks := tk }) :
    wpAny (model PySem.Challenge.rw_vj0001_01.row.prog w) A (call (.ref 42) [.ref l]) Q E s := by
  have X := G.X
  revert X
  k_fill
  intro X
  have T := G.T
  refine' wpAny_call (call_plain_ret (binds := [(Str.ofString "octets", .ref l)]) hd (in_of X ?l) ?dat T.nolimit (codeRec_of X ?cd) ?b ?loc (fun h₁ F => ?_) ?co ?gn ?kf ?cl)
  case l => k_is
  case dat => exact rfl
  case cd => k_is
  case b => exact rfl
  case loc => exact locs rfl
  case co => exact rfl
  case gn => exact rfl
  case kf => exact rfl
  case cl => decide
  have N : News s.heap s.heap.objs.size h₁ [] := News.nil
  dsimp only
  refine execs_stop ?_
  k_steps
  all_goals (refine Stop.mk (execs_stop ?_))
  all_goals (refine For_stop ?_)
  all_goals k_steps
  all_goals (
    rename Fr _ _ _ _ => F2
    rename News _ _ _ _ => N2
    rename IntsAre _ (List.drop _ _) => I2
    refine Stop.mk ?_
    refine meant_loop hh rfl rfl rfl rfl F2.ns (N2.isList (.head _)) (N2 _ (.head _)).2.1 I2 (if_pos rfl) (fun h3 tk3 m3 t3 n3 e3 k3 => ?_)
    refine Stop.mk ?_
    refine wpAny_execs_cons (wpAny_Return_some (wpAny_Name (wpAny_loadName_local rfl rfl n3 e3 ?_)))
    show Q _ _
    have e4 : ∀ x, x = meantI (n0 :: ns) → Q (.int x t3) { s with heap := h3, toks := tk3 } := fun x e => e ▸ h _ _ _ (fun b o e => k3 b o (Nat.ne_of_lt (Heap.lt_size e)) (F2.keep b o e))
    exact e4 _ (by
      simp only [meantI, List.drop_one, List.tail_cons]
      first
        | (rw [if_pos (by assumption)]; rfl)
        | (rw [if_neg (by assumption)]; rfl)))
end
end Mine
end

section
set_option maxRecDepth 100000
open PySem PySem.W PySem.Calls PyProof.Rows
namespace Mine
def shortI : List Int → List Int
  | a :: b :: r => if (a = 0 ∧ b < 128) ∨ (a = 255 ∧ 127 < b) then shortI (b :: r) else a :: b :: r
  | l => l

theorem short_step {ns : List Int} (h1 : 1 < (ns.length : Int)) (h : (ns.getD (Int.toNat 0) 0 = 0 ∧ ns.getD (Int.toNat 1) 0 < 128) ∨ (ns.getD (Int.toNat 0) 0 = 255 ∧ 127 < ns.getD (Int.toNat 1) 0)) : shortI (ns.drop 1) = shortI ns := by
  match ns, h1, h with
  | a :: b :: r, _, h =>
    have h' : (a = 0 ∧ b < 128) ∨ (a = 255 ∧ 127 < b) := h
    show shortI (b :: r) = shortI (a :: b :: r)
    rw [shortI, if_pos h']
  | [a], h1, _ => simp at h1
  | [], h1, _ => simp at h1
theorem short_stop {ns : List Int} (h : ¬ (1 < (ns.length : Int) ∧ ((ns.getD (Int.toNat 0) 0 = 0 ∧ ns.getD (Int.toNat 1) 0 < 128) ∨ (ns.getD (Int.toNat 0) 0 = 255 ∧ 127 < ns.getD (Int.toNat 1) 0)))) : shortI ns = ns := by
  match ns, h with
  | a :: b :: r, h =>
    have h' : ¬ ((a = 0 ∧ b < 128) ∨ (a = 255 ∧ 127 < b)) := fun q => h ⟨by simp only [List.length_cons]; omega, q⟩
    rw [shortI, if_neg h']
  | [a], _ => rfl
  | [], _ => rfl

def one (x : Str) (v : Value) : Str → Option Value := fun y => if y = x then some v else none
theorem one_of_lookup {x : Str} {v : Value} : (fun y => [(x, v)].reverse.lookup y) = one x v := by
  funext y
  unfold one
  simp only [List.reverse_cons, List.reverse_nil, List.nil_append, List.lookup_cons, List.lookup_nil]
  by_cases h : y = x
  · subst h; simp
  · rw [if_neg h, show (y == x) = false from beq_eq_false_iff_ne.mpr h]
theorem one_set {x : Str} {v v' : Value} : (fun y => if y = x then some v' else one x v y) = one x v' := by
  funext y
  unfold one
  by_cases h : y = x <;> simp [h]

section
variable {prog : Program} {w : World} {A : Around} {s : Shared} {R : Result → Shared → Prop}
theorem while_stop {test body env} (I : Nat → Shared → Prop)
    (turn : ∀ n s, I n s →
      wpAny (model prog w) A (isTrue test env (eval test env)) (fun b s₂ =>
        if b then Stop (wpAny (model prog w) A (execs body env) (fun f s₃ => match f with
            | .next | .cont => Stop (∃ m, m < n ∧ I m s₃)
            | .brk => R (.ok .next) s₃
            | .ret v => R (.ok (.ret v)) s₃) NoE s₂)
        else Stop (R (.ok .next) s₂)) NoE s)
    (n : Nat) (h : I n s) : codeAny (model prog w) A (.whileLoop test body [] env) R s := by
  refine codeAny_whileLoop I (fun n s hI => wpAny_mono (turn n s hI) (fun b s₂ h₂ => ?_) fun _ _ x => x.elim) n h
  cases b with
  | false => exact wpAny_execs_nil (show Stop _ from h₂).out
  | true =>
    refine wpAny_mono (show Stop (wpAny _ _ (execs body env) _ _ _) from h₂).out (fun f s₃ h₃ => ?_) fun _ _ x => x.elim
    cases f <;> first | exact h₃.out | exact h₃
end

section
variable {w : World} {A : Around} {E : Value → Shared → Prop} {s : Shared} {mean : ExcName → Option Value} {mg mb : Str → Option Value}

set_option maxHeartbeats 400000 in
theorem short_ok {l : Addr} {vs : List Value} {ns : List Int} {Q : Value → Shared → Prop} (G : Gd w mean mg mb s.heap) (hd : A.depth < recursionLimit) (hh : A.handled = none)
    (hl : s.heap.IsList l vs.toArray) (hi : IntsAre vs ns) (hz : ns.length ≤ 30)
    (h : ∀ h' l' vs' tk, (∀ b o, s.heap.get? b = some o → h'.get? b = some o) → h'.IsList l' vs'.toArray → IntsAre vs' (shortI ns) → Q (.ref l') { s with heap := h', toks := tk }) :
    wpAny (model PySem.Challenge.rw_vj0001_01.row.prog w) A (call (.ref 49) [.ref l]) Q E s := by
  have X := G.X
  revert X
  k_fill
  intro X
  have T := G.T
  refine' wpAny_call (call_plain_ret (binds := [(Str.ofString "octets", .ref l)]) hd (in_of X ?l) ?dat T.nolimit (codeRec_of X ?cd) ?b ?loc (fun h₁ F => ?_) ?co ?gn ?kf ?cl)
  case l => k_is
  case dat => exact rfl
  case cd => k_is
  case b => exact rfl
  case loc => exact locs rfl
  case co => exact rfl
  case gn => exact rfl
  case kf => exact rfl
  case cl => decide
  rw [one_of_lookup] at F
  dsimp only
  refine execs_stop (wpAny_While ?_)
  refine while_stop (fun n s' => ∃ h' tk l' vs' ns', s' = { s with heap := h', toks := tk } ∧ Fr s.heap s.heap.objs.size h' (one (Str.ofString "octets") (.ref l')) ∧ h'.IsList l' vs'.toArray ∧ IntsAre vs' ns' ∧ shortI ns' = shortI ns ∧ ns'.length ≤ 30 ∧ n = ns'.length)
    ?_ ns.length ⟨h₁, _, l, vs, ns, rfl, F, hl.at fun o e => F.keep l o e, hi, rfl, hz, rfl⟩
  rintro n s' ⟨h', tk, l', vs', ns', rfl, F', hl', hi', hsh, hz', rfl⟩
  unfold one at F'
  have N' : News s.heap s.heap.objs.size h' [] := News.nil
  k_steps
  all_goals (try (exfalso; omega))
  all_goals first
    | (refine Stop.mk (Stop.mk ?_)
       have he : shortI ns = ns' := hsh.symm.trans (short_stop (by omega))
       refine wpAny_execs_cons (wpAny_Return_some (wpAny_Name (wpAny_loadName_local rfl rfl F'.ns (if_pos rfl) ?_)))
       show Q _ _
       exact h _ _ _ _ F'.keep hl' (by rw [he]; exact hi'))
    | (have hs : shortI (ns'.drop 1) = shortI ns' := short_step (by omega) (by omega)
       refine Stop.mk ?_
       k_steps
       rename Fr _ _ _ _ => F2
       rename News _ _ _ _ => N2
       rename IntsAre _ (List.drop _ _) => I2
       refine Stop.mk ⟨(ns'.drop 1).length, by rw [List.length_drop]; omega, _, _, _, _, _, rfl, one_set (x := Str.ofString "octets") ▸ F2, N2.isList (.head _), I2, hs.trans hsh, by rw [List.length_drop]; omega, rfl⟩)
end
end Mine
end

section
set_option maxRecDepth 100000
open PySem PySem.W PySem.Calls PyProof.Rows
namespace Mine

theorem intBits_le {n : Int} {k : Nat} (h : n.natAbs < 2 ^ k) : Builtin.Int.intBits n ≤ k := by
  unfold Builtin.Int.intBits
  split
  · exact Nat.zero_le _
  · rename_i hn
    have hn' : n.natAbs ≠ 0 := by
      intro e
      apply hn
      simp [Int.natAbs_eq_zero.mp e]
    exact (Nat.log2_lt hn').mpr h

section
variable {w : World} {A : Around} {E : Value → Shared → Prop} {s : Shared} {mean : ExcName → Option Value} {mg mb : Str → Option Value}
theorem bitlen_ok' {n : Int} {u : Tok} {Q : Value → Shared → Prop} (G : Gd w mean mg mb s.heap) (hd : A.depth < recursionLimit) (hh : A.handled = none) (hn : n.natAbs < 2 ^ 200)
    (h : ∀ h' t tk (k : Int), k = (Builtin.Int.intBits n : Nat) → 0 ≤ k → k ≤ 200 → (∀ b o, s.heap.get? b = some o → h'.get? b = some o) → Q (.int k t) { s with heap := h', toks := tk }) :
    wpAny (model PySem.Challenge.rw_vj0001_01.row.prog w) A (call (.ref 28) [.int n u]) Q E s :=
  bitlen_ok G hd hh fun h' t tk hk => h h' t tk _ rfl (Int.natCast_nonneg _) (by exact_mod_cast intBits_le hn) hk
end

theorem news_keeps {h₀ h h' : Heap} {L : Addr} {news : List (Addr × Obj)} (N : News h₀ L h news) (k : ∀ b o, h.get? b = some o → h'.get? b = some o) : News h₀ L h' news :=
  fun q hq => ⟨k _ _ (N q hq).1, (N q hq).2⟩
section
variable {prog : Program} {w : World} {A : Around} {s : Shared}
theorem call_plain_C {R : Flow → Shared → Prop} {name : Str} {params : Arguments} {body : List Stmt} {scope : Scope}
    {pm cd doc : Value} {a : Addr} {o : Obj} {args : List Value} {binds : List (Str × Value)}
    (hroom : A.depth < recursionLimit) (ho : s.heap.get? a = some o) (hdata : o.data = .func (docDef name params body scope pm cd doc)) (hlim : s.heap.NoLimit) (hcd : s.heap.CodeRec cd name)
    (hbind : bindArgs (docDef name params body scope pm cd doc) ⟨args, []⟩ = pure binds)
    (hloc : ∀ x ∈ binds, scope.names.lookup x.1 = some .local)
    (h : ∀ h₁, Fr s.heap s.heap.objs.size h₁ (fun x => binds.reverse.lookup x) →
      wpC (model prog w) (A.deeper (envOf name scope s.heap.objs.size a cd)) (execs body (envOf name scope s.heap.objs.size a cd))
        (fun f s' => R (.ret (match f with | .ret v => v | _ => .none)) s') { s with heap := h₁, toks := s.toks + binds.length })
    (hco : scope.isCoroutine = false) (hgen : scope.isGenerator = false) (hk : scope.kind = .function)
    (hcell : ∀ x ∈ scope.names, x.2 ≠ .cell) :
    codeC (model prog w) A (.call (.ref a) ⟨args, []⟩) R s := by
  refine codeC_call_function hroom ho hdata hco hgen rfl hcd ?_
  rw [hbind]
  refine wpAny_pure (wpAny_newFunctionEnv hcell hloc (fun h₁ hns hsb => ⟨hlim.fresh _ hsb, ?_⟩) hk)
  exact codeC_func (h h₁ ⟨hns, fun b o e => hsb.extBut b o (Nat.ne_of_lt (Heap.lt_size e)) (Heap.get?_push_of_some _ e), Nat.le_refl _⟩)

theorem execsC_stop {M : Model} {env : Env} {st rest} {Q : Flow → Shared → Prop}
    (h : wpAny M A (exec st env) (fun f s' => match f with | .next => Stop (wpC M A (execs rest env) Q s') | f => Stop (Q f s')) NoE s) : wpC M A (execs (st :: rest) env) Q s :=
  wpC_execs_leaf (wpAny_mono h (fun f _ q => by cases f <;> exact q.out) fun _ _ x => x)
end

def leB (n : Nat) : List UInt8 := if h : n = 0 then [] else (UInt8.ofNat (n % 256)) :: leB (n / 256)
termination_by n
decreasing_by omega
end Mine
end

section
set_option maxRecDepth 100000
open PySem PySem.W PySem.Calls PyProof.Rows
namespace Mine

section
variable {prog : Program} {w : World} {A : Around} {s : Shared} {h₀ : Heap} {L a f : Addr} {m : Str → Option Value} {cn : Str} {cs : Scope} {ccd : Value} {b : Array UInt8}

theorem upd_keep {h : Heap} {a : Addr} {g : Obj → Obj} (hn : h₀.get? a = none) (k : ∀ b o, h₀.get? b = some o → h.get? b = some o) : ∀ b o, h₀.get? b = some o → (h.update a g).get? b = some o := fun b o e =>
  (Heap.get?_update_other _ _ (fun q => by rw [← q, hn] at e; cases e)).trans (k b o e)
theorem fr_upd {h : Heap} {g : Obj → Obj} (F : Fr h₀ L h m) (hn : h₀.get? a = none) (hL : a ≠ L) : Fr h₀ L (h.update a g) m := by
  obtain ⟨oL, es, ep, hl, r⟩ := F.ns
  exact ⟨⟨oL, es, ep, (Heap.get?_update_other _ _ hL).trans hl, r⟩, upd_keep hn F.keep, F.above⟩
theorem ba_upd {h : Heap} {g : Array UInt8 → Array UInt8} (ho : h.get? a = some (baObj b)) : (h.update a (Obj.mapBytearray g)).get? a = some (baObj (g b)) :=
  Heap.get?_update_self (Obj.mapBytearray g) ho rfl

theorem st_append {e : Expr} {p1 p2 p3 p4 : Pos} {k : Int} {Q : Flow → Shared → Prop} (hg : A.guards = some []) (F : Fr h₀ L s.heap m) (hcs : cs.kind = .function) (hx : (envOf cn cs L f ccd).kindOf (Str.ofString "revbytes") = some .local)
    (hm : m (Str.ofString "revbytes") = some (.ref a)) (ho : s.heap.get? a = some (baObj b)) (hline : (p2.endLine == p3.line) = true) (hi : interactive (envOf cn cs L f ccd) = false)
    (hse : starEach [e] (envOf cn cs L f ccd) = [(false, eval e (envOf cn cs L f ccd))])
    (hsw : swapsWith (.Call (.Attribute (.Name (Str.ofString "revbytes") p1) (Str.ofString "append") p2) [e] [] p3) none p4.line (envOf cn cs L f ccd) = pure false)
    (he : ∀ Q', (∀ tk u, Q' (.int k u) { s with toks := tk }) → wpAny (model prog w) A (eval e (envOf cn cs L f ccd)) Q' NoE s)
    (h0 : 0 ≤ k) (h1 : k < 256) (hz : b.size < sizeLine)
    (h : ∀ tk, Q .next { s with heap := s.heap.update a (Obj.mapBytearray (·.push k.toNat.toUInt8)), toks := tk }) :
    wpC (model prog w) A (exec (.Expr (.Call (.Attribute (.Name (Str.ofString "revbytes") p1) (Str.ofString "append") p2) [e] [] p3) p4) (envOf cn cs L f ccd)) Q s := by
  refine wpC_Expr (wpC_mono (Q := fun v s' => v = .none ∧ Q .next s') (wpC_Call_method rfl ?_ hline FA.plainAttrs_ba FA.slot_ba_append FA.type_ba_append (ld F hm ⟨ba_type ho, fun c hc => ?_, wpC_callWith (P := fun _ => True) ?_ (keeps_plain (fun _ e => nomatch e)) ?_⟩ hcs hx (by decide))) (fun v s' q => ⟨fun c e => (by rw [q.1] at e; cases e), q.2⟩)) hi hsw
  · rw [hse]; rfl
  · cases hc; exact ⟨_, ho, rfl⟩
  · rw [hse]; rfl
  · rw [hse]
    refine evalArgs_plain (Calls.spliced_cons (he _ fun tk u => Calls.spliced_nil ⟨trivial, ?_⟩))
    exact ba_append_code (s := { s with toks := tk }) hg ho h0 h1 hz ⟨rfl, h tk⟩

theorem st_make {p1 p2 p3 p4 : Pos} {Q : Flow → Shared → Prop} {Pg : Program} {loose : List Str} {mg mb : Str → Option Value} {K : Frag} (hg : A.guards = some []) (F : Fr h₀ L s.heap m) (X : K.In h₀) (T : TopRead Pg loose mg mb h₀) (hcs : cs.kind = .function)
    (hx : (envOf cn cs L f ccd).kindOf (Str.ofString "revbytes") = some .local) (hb : (envOf cn cs L f ccd).kindOf (Str.ofString "bytearray") = some .globalImplicit) (hn : nsIn K mainGlobals (Str.ofString "bytearray") = some none)
    (hsw : swapsWith (.Call (.Name (Str.ofString "bytearray") p2) [] [] p3) (some (.Name (Str.ofString "revbytes") p1)) p4.line (envOf cn cs L f ccd) = pure false)
    (h : ∀ a h' tk, h₀.get? a = none → a ≠ L → Fr h₀ L h' (fun y => if y = Str.ofString "revbytes" then some (.ref a) else m y) → h'.get? a = some (baObj #[]) → Q .next { s with heap := h', toks := tk }) :
    wpC (model prog w) A (exec (.Assign [.Name (Str.ofString "revbytes") p1] (.Call (.Name (Str.ofString "bytearray") p2) [] [] p3) p4) (envOf cn cs L f ccd)) Q s := by
  refine wpC_Assign_Name (wpC_Call_Name (name_B F X T hn (v := .type "bytearray") (by rfl) (by decide) ?_ hcs hb (by decide))) hsw
  refine wpC_callWith (P := fun _ => True) rfl (keeps_plain (fun _ e => nomatch e)) (evalArgs_nil3 ⟨trivial, ?_⟩)
  refine ba_make hg fun h' hsz ho hk => ?_
  have hnew : h₀.get? s.heap.objs.size = none := by
    cases hq : h₀.get? s.heap.objs.size with
    | none => rfl
    | some o' => exact absurd (Heap.lt_size (F.keep _ _ hq)) (Nat.lt_irrefl _)
  have hne : s.heap.objs.size ≠ L := Nat.ne_of_gt F.ns.lt
  refine stN (s := { s with heap := h' }) (F.keeps hk) (news := [(s.heap.objs.size, baObj #[])]) (fun q hq => ?_) (fun h'' F'' N'' => ?_) hcs hx
  · rw [List.mem_singleton.mp hq]; exact ⟨ho, hne, hnew⟩
  · exact h _ h'' _ hnew hne F'' (N'' _ (.head _)).1
end
end Mine
end

section
set_option maxRecDepth 100000
open PySem PySem.W PySem.Calls PyProof.Rows
namespace Mine

theorem leB_zero : leB 0 = [] := by rw [leB]; rfl
theorem leB_pos {n : Nat} (h : n ≠ 0) : leB n = UInt8.ofNat (n % 256) :: leB (n / 256) := by rw [leB, dif_neg h]
theorem leB_length : ∀ (k n : Nat), n < 256 ^ k → (leB n).length ≤ k
  | k, 0, _ => by rw [leB_zero]; exact Nat.zero_le _
  | 0, n + 1, h => by simp at h
  | k + 1, n + 1, h => by
    rw [leB_pos (Nat.succ_ne_zero n), List.length_cons]
    have : (n + 1) / 256 < 256 ^ k := by rw [Nat.pow_succ] at h; omega
    have h2 := leB_length k _ this
    exact Nat.succ_le_succ h2

section
variable {prog : Program} {w : World} {A : Around} {s : Shared} {h₀ : Heap} {L a f : Addr} {m : Str → Option Value} {cn : Str} {cs : Scope} {ccd : Value} {b : Array UInt8}

theorem and255 (k : Nat) : Builtin.bitAnd (k : Int) 255 = ((k % 256 : Nat) : Int) := by
  rw [bitAnd_pp (Int.natCast_nonneg _) (by decide)]
  congr 1
  show k &&& (2 ^ 8 - 1) = k % 2 ^ 8
  exact Nat.and_two_pow_sub_one_eq_mod k 8

theorem st_while {q1 q2 q3 p1 p2 p3 p4 p5 p6 p7 r1 r2 r3 r4 : Pos} {bg : Nat} {t : Tok} {p : Bool} {Q : Flow → Shared → Prop} (hh : A.handled = none) (hg : A.guards = some []) (F : Fr h₀ L s.heap m) (hcs : cs.kind = .function)
    (hx : (envOf cn cs L f ccd).kindOf (Str.ofString "revbytes") = some .local) (hb : (envOf cn cs L f ccd).kindOf (Str.ofString "big") = some .local)
    (hline : (p2.endLine == p3.line) = true) (hi : interactive (envOf cn cs L f ccd) = false)
    (hsw : swapsWith (.Call (.Attribute (.Name (Str.ofString "revbytes") p1) (Str.ofString "append") p2) [.BinOp (.Name (Str.ofString "big") p5) .BitAnd (.Constant (.int 255) 0 p6) p7] [] p3) none p4.line (envOf cn cs L f ccd) = pure false)
    (hn : h₀.get? a = none) (hL : a ≠ L)
    (m1 : m (Str.ofString "big") = some (.int (bg : Int) t)) (m2 : m (Str.ofString "pos") = some (.bool p)) (m3 : m (Str.ofString "revbytes") = some (.ref a)) (ho : s.heap.get? a = some (baObj b)) (hb0 : b = #[]) (hz : (leB bg).length ≤ 100)
    (h : ∀ h' m' tk, Fr h₀ L h' m' → m' (Str.ofString "pos") = some (.bool p) → m' (Str.ofString "revbytes") = some (.ref a) → h'.get? a = some (baObj (leB bg).toArray) → Q .next { s with heap := h', toks := tk }) :
    wpC (model prog w) A (exec (.While (.Compare (.Name (Str.ofString "big") q1) [.Gt] [.Constant (.int 0) 0 q2] q3)
      [.Expr (.Call (.Attribute (.Name (Str.ofString "revbytes") p1) (Str.ofString "append") p2) [.BinOp (.Name (Str.ofString "big") p5) .BitAnd (.Constant (.int 255) 0 p6) p7] [] p3) p4,
       .AugAssign (.Name (Str.ofString "big") r1) .RShift (.Constant (.int 8) 0 r2) r3] [] r4) (envOf cn cs L f ccd)) Q s := by
  subst hb0
  refine wpC_While (codeC_whileLoop (fun n s' => ∃ h' tk t m' k bb, s' = { s with heap := h', toks := tk } ∧ Fr h₀ L h' m' ∧ m' (Str.ofString "big") = some (.int ((k : Nat) : Int) t) ∧ m' (Str.ofString "pos") = some (.bool p) ∧
    m' (Str.ofString "revbytes") = some (.ref a) ∧ h'.get? a = some (baObj bb) ∧ bb.toList ++ leB k = leB bg ∧ k = n) ?_ bg ⟨s.heap, s.toks, t, m, bg, #[], rfl, F, m1, m2, m3, ho, rfl, rfl⟩)
  rintro n s' ⟨h', tk, t, m', k, bb, rfl, F', e1, e2, e3, ho', hbb, rfl⟩
  refine wpAny_isTrue_Compare1 (ld F' e1 (wpAny_Constant_int (P.gt_int (wpAny_truthy_bool ?_))) hcs hb (by decide))
  by_cases hk : k = 0
  · subst hk
    rw [if_neg (by simp)]
    refine wpC_execs_nil (h h' m' _ F' e2 e3 ?_)
    rw [leB_zero, List.append_nil] at hbb
    rw [← hbb]; exact ho'
  · rw [if_pos (by simpa using Nat.pos_of_ne_zero hk)]
    have hlen : bb.size < sizeLine := by
      have := congrArg List.length hbb
      rw [List.length_append, Array.length_toList] at this
      rw [sizeLine_eq]; omega
    refine wpC_execs_cons (st_append (b := bb) (k := ((k % 256 : Nat) : Int)) hg F' hcs hx e3 ho' hline hi rfl hsw (fun Q' hQ' => ?_) (Int.natCast_nonneg _) (by omega) hlen (fun tk2 => ?_))
    · refine wpAny_BinOp (ld F' e1 (wpAny_Constant_int (and_int ?_)) hcs hb (by decide))
      rw [and255]
      exact hQ' _ _
    · refine wpC_execs_leaf (wpAny_AugAssign_Name ?_)
      have F2 := fr_upd F' (g := Obj.mapBytearray (·.push (((k % 256 : Nat) : Int).toNat).toUInt8)) hn hL
      refine ldn F2 e1 (wpAny_Constant_int (irshift_int (by decide) ?_)) hcs hb
      have e8 : ((k : Int)).fdiv (2 ^ (8 : Int).toNat) = ((k / 256 : Nat) : Int) := by
        rw [show (2 : Int) ^ (8 : Int).toNat = 256 from by decide, Int.fdiv_eq_ediv_of_nonneg _ (by decide)]; omega
      rw [e8]
      refine stN F2 (news := [(a, baObj (bb.push (((k % 256 : Nat) : Int).toNat).toUInt8))]) (fun q hq => ?_) (fun h3 F3 N3 => wpC_execs_nil ?_) hcs hb
      · rw [List.mem_singleton.mp hq]; exact ⟨ba_upd ho', hL, hn⟩
      · have e5 : (bb.push (((k % 256 : Nat) : Int).toNat).toUInt8).toList ++ leB (k / 256) = leB bg := by
          rw [← hbb, leB_pos hk, Array.toList_push, List.append_assoc]
          rfl
        exact ⟨k / 256, by omega, h3, _, _, _, k / 256, _, rfl, F3, if_pos rfl, (if_neg (by decide)).trans e2, (if_neg (by decide)).trans e3, (N3 _ (.head _)).1, e5, rfl⟩
end
end Mine
end

section
set_option maxRecDepth 100000
open PySem PySem.W PySem.Calls PyProof.Rows
namespace Mine

def fixL (p : Bool) (l : List UInt8) : List UInt8 := if p = true ∧ (l.getLastD 0).toNat &&& 128 ≠ 0 then l ++ [0] else l
def packN (p : Bool) (n : Nat) : List UInt8 := (fixL p (leB n)).reverse
def packB (big : Int) : List UInt8 :=
  if big = 0 then [0]
  else if big < 0 then packN false ((2 : Int) ^ (8 * (Builtin.Int.intBits ((big.natAbs : Int) - 1) / 8 + 1)) + big).toNat
  else packN true big.toNat
theorem fixL_length (p : Bool) (l : List UInt8) : (fixL p l).length ≤ l.length + 1 := by
  unfold fixL; split <;> simp

section
variable {prog : Program} {w : World} {A : Around} {s : Shared} {h₀ : Heap} {L a f : Addr} {m : Str → Option Value} {cn : Str} {cs : Scope} {ccd : Value} {b : Array UInt8}

theorem last_byte {l : List UInt8} (hl : l ≠ []) : (seqIndex? (-1) l.toArray.size).bind (l.toArray[·]?) = some (l.getLastD 0) := by
  have h1 : 0 < l.length := List.length_pos_iff.mpr hl
  have e : seqIndex? (-1) l.toArray.size = some (l.length - 1) := by
    unfold seqIndex?
    simp only [List.size_toArray]
    have e2 : ((if (-1 : Int) < 0 then (-1 : Int) + (l.length : Int) else -1)) = (l.length : Int) - 1 := by rw [if_pos (by decide)]; omega
    rw [e2, if_pos (by simp only [Bool.and_eq_true, decide_eq_true_eq]; omega)]
    congr 1
    omega
  rw [e]
  simp only [Option.bind_some, List.getElem?_toArray]
  rw [List.getLastD_eq_getLast?, List.getLast?_eq_getElem?]
  rw [List.getElem?_eq_getElem (by omega)]
  rfl

theorem st_if {q1 q2 q3 q4 q5 q6 q7 q8 q9 p1 p2 p3 p4 p5 : Pos} {p : Bool} {l : List UInt8} {Q : Flow → Shared → Prop} (hg : A.guards = some []) (F : Fr h₀ L s.heap m) (hcs : cs.kind = .function)
    (hx : (envOf cn cs L f ccd).kindOf (Str.ofString "revbytes") = some .local) (hp : (envOf cn cs L f ccd).kindOf (Str.ofString "pos") = some .local)
    (hline : (p2.endLine == p3.line) = true) (hi : interactive (envOf cn cs L f ccd) = false)
    (hsw : swapsWith (.Call (.Attribute (.Name (Str.ofString "revbytes") p1) (Str.ofString "append") p2) [.Constant (.int 0) 0 p5] [] p3) none p4.line (envOf cn cs L f ccd) = pure false)
    (hn : h₀.get? a = none) (hL : a ≠ L)
    (m2 : m (Str.ofString "pos") = some (.bool p)) (m3 : m (Str.ofString "revbytes") = some (.ref a)) (ho : s.heap.get? a = some (baObj l.toArray)) (hl : l ≠ []) (hz : l.length ≤ 100)
    (h : ∀ h' tk, Fr h₀ L h' m → h'.get? a = some (baObj (fixL p l).toArray) → Q .next { s with heap := h', toks := tk }) :
    wpC (model prog w) A (exec (.If (.BoolOp .And [.Name (Str.ofString "pos") q1, .BinOp (.Subscript (.Name (Str.ofString "revbytes") q2) (.UnaryOp .USub (.Constant (.int 1) 0 q3) q4) q5) .BitAnd (.Constant (.int 128) 0 q6) q7] q8)
      [.Expr (.Call (.Attribute (.Name (Str.ofString "revbytes") p1) (Str.ofString "append") p2) [.Constant (.int 0) 0 p5] [] p3) p4] [] q9) (envOf cn cs L f ccd)) Q s := by
  refine wpC_If (isTrue_and (isTrue_plain (ld F m2 (wpAny_truthy_bool ?_) hcs hp (by decide))))
  cases p with
  | false =>
    rw [if_neg (by decide), if_neg (by decide)]
    exact wpC_execs_nil (h s.heap s.toks F ho)
  | true =>
    rw [if_pos rfl]
    refine isTrue_and (isTrue_plain (wpAny_BinOp (Subscript_ (ld F m3 (UnaryOp_ (wpAny_Constant_int (P.neg_int ?_))) hcs hx (by decide)))))
    refine tail_any (ops := _) (ba_type ho) FA.slot_ba_getitem.lookup (ba_item ho (by decide) (last_byte hl) ?_) (by with_unfolding_all rfl)
    refine wpAny_Constant_int (and_int (P.truthy_int ?_))
    have e : Builtin.bitAnd (((l.getLastD 0).toNat : Nat) : Int) 128 = (((l.getLastD 0).toNat &&& 128 : Nat) : Int) := by
      rw [bitAnd_pp (Int.natCast_nonneg _) (by decide)]; rfl
    rw [e]
    by_cases hc : (l.getLastD 0).toNat &&& 128 = 0
    · have hc' : ((((l.getLastD 0).toNat &&& 128 : Nat) : Int) != 0) = false := by rw [hc]; rfl
      rw [hc', if_neg (by decide), if_neg (by decide)]
      refine wpC_execs_nil (h s.heap _ F ?_)
      unfold fixL
      rw [if_neg (fun q => q.2 hc)]
      exact ho
    · have hc' : ((((l.getLastD 0).toNat &&& 128 : Nat) : Int) != 0) = true := by
        rw [bne_iff_ne]
        exact fun q => hc (Int.natCast_eq_zero.mp q)
      rw [hc', if_pos rfl]
      refine isTrue_and_nil ?_
      rw [if_pos rfl]
      have hx2 : fixL true l = l ++ [0] := by unfold fixL; rw [if_pos ⟨rfl, hc⟩]
      refine wpC_execs_cons (st_append (b := l.toArray) (k := 0) hg F hcs hx m3 ho hline hi rfl hsw (fun Q' hQ' => wpAny_Constant_int (hQ' _ _)) (by decide) (by decide) (by rw [List.size_toArray, sizeLine_eq]; omega) (fun tk2 => ?_))
      refine wpC_execs_nil (h _ _ (fr_upd F hn hL) ?_)
      rw [hx2, ba_upd ho]
      congr 2
      simp

theorem st_rev {p1 p2 p3 p4 : Pos} {l : List UInt8} {E : Value → Shared → Prop} {Q : Flow → Shared → Prop} (F : Fr h₀ L s.heap m) (hcs : cs.kind = .function)
    (hx : (envOf cn cs L f ccd).kindOf (Str.ofString "revbytes") = some .local)
    (hline : (p2.endLine == p3.line) = true) (hi : interactive (envOf cn cs L f ccd) = false)
    (hsw : swapsWith (.Call (.Attribute (.Name (Str.ofString "revbytes") p1) (Str.ofString "reverse") p2) [] [] p3) none p4.line (envOf cn cs L f ccd) = pure false)
    (hn : h₀.get? a = none) (hL : a ≠ L) (m3 : m (Str.ofString "revbytes") = some (.ref a)) (ho : s.heap.get? a = some (baObj l.toArray)) (hz : l.length ≤ 101)
    (h : ∀ h' tk, Fr h₀ L h' m → h'.get? a = some (baObj l.reverse.toArray) → Q .next { s with heap := h', toks := tk }) :
    wpAny (model prog w) A (exec (.Expr (.Call (.Attribute (.Name (Str.ofString "revbytes") p1) (Str.ofString "reverse") p2) [] [] p3) p4) (envOf cn cs L f ccd)) Q E s := by
  refine wpAny_Expr (wpAny_Call_method rfl rfl hline FA.plainAttrs_ba FA.slot_ba_reverse FA.type_ba_reverse (ld F m3 ⟨ba_type ho, fun c hc => ?_, callWith_method0 ?_⟩ hcs hx (by decide))) hi hsw
  · cases hc; exact ⟨_, ho, rfl⟩
  · refine ba_reverse ho (by rw [List.size_toArray, sizeLine_eq]; omega) ?_
    refine h _ _ (fr_upd F hn hL) ?_
    rw [ba_upd ho]
    simp

theorem st_ret {p1 p2 p3 p4 : Pos} {l : List UInt8} {E : Value → Shared → Prop} {Pg : Program} {loose : List Str} {mg mb : Str → Option Value} {K : Frag} {Q : Flow → Shared → Prop} (F : Fr h₀ L s.heap m) (X : K.In h₀) (T : TopRead Pg loose mg mb h₀) (hcs : cs.kind = .function)
    (hx : (envOf cn cs L f ccd).kindOf (Str.ofString "revbytes") = some .local) (hb : (envOf cn cs L f ccd).kindOf (Str.ofString "bytes") = some .globalImplicit) (hn : nsIn K mainGlobals (Str.ofString "bytes") = some none)
    (m3 : m (Str.ofString "revbytes") = some (.ref a)) (ho : s.heap.get? a = some (baObj l.toArray)) (hz : l.length ≤ 101)
    (hse : starEach [.Name (Str.ofString "revbytes") p2] (envOf cn cs L f ccd) = [(false, eval (.Name (Str.ofString "revbytes") p2) (envOf cn cs L f ccd))])
    (h : ∀ t tk, Q (.ret (.bytes l.toArray t)) { s with toks := tk }) :
    wpAny (model prog w) A (exec (.Return (some (.Call (.Name (Str.ofString "bytes") p1) [.Name (Str.ofString "revbytes") p2] [] p3)) p4) (envOf cn cs L f ccd)) Q E s := by
  refine wpAny_Return_some (PySem.Call_name1 hse (name_B F X T hn (v := .type "bytes") (by rfl) (by decide) ?_ hcs hb (by decide)))
  refine PySem.callWith_type1 (ld F m3 (bytes_of_ba ho (by rw [List.size_toArray, sizeLine_eq]; omega) (h _ _)) hcs hx (by decide))
end

theorem neg_val {big k' : Int} (hb : big < 0) (hB : big.natAbs < 2 ^ 190) (hk : k' = ((Builtin.Int.intBits ((if big < 0 then -big else big) - 1) : Nat) : Int)) :
    ∃ x : Nat, 1 * 2 ^ ((k'.fdiv 8 + 1) * 8).toNat + big = (x : Int) ∧ x ≠ 0 ∧ x < 256 ^ 100 ∧ packB big = packN false x := by
  rw [if_pos hb] at hk
  have en : ((big.natAbs : Int) - 1) = -big - 1 := by omega
  generalize hj : Builtin.Int.intBits (-big - 1) = j at hk
  have hj2 : j ≤ 190 := hj ▸ intBits_le (by omega)
  have hlt : (-big - 1).toNat < 2 ^ j := by
    unfold Builtin.Int.intBits at hj
    split at hj
    · rename_i h0
      have : -big - 1 = 0 := by simpa using h0
      rw [this, ← hj]; decide
    · rw [← hj, show (-big - 1).natAbs = (-big - 1).toNat from by omega]
      exact Nat.lt_log2_self
  have e1 : ((k'.fdiv 8 + 1) * 8).toNat = 8 * (j / 8 + 1) := by
    rw [hk, Int.fdiv_eq_ediv_of_nonneg _ (by decide)]
    omega
  have hp1 : 2 ^ j * 2 ≤ 2 ^ (8 * (j / 8 + 1)) := by
    rw [← Nat.pow_succ]
    exact Nat.pow_le_pow_right (by decide) (by omega)
  have hp2 : 2 ^ (8 * (j / 8 + 1)) ≤ 2 ^ 200 := Nat.pow_le_pow_right (by decide) (by omega)
  have hc : ((2 : Int) ^ (8 * (j / 8 + 1))) = ((2 ^ (8 * (j / 8 + 1)) : Nat) : Int) := by rw [Int.natCast_pow]; rfl
  have h200 : (2 : Nat) ^ 200 < 256 ^ 100 := by decide
  refine ⟨((2 : Int) ^ (8 * (j / 8 + 1)) + big).toNat, ?_, ?_, ?_, ?_⟩
  · rw [e1, Int.one_mul, hc]
    omega
  · rw [hc]; omega
  · rw [hc]; omega
  · unfold packB
    rw [if_neg (by omega), if_pos hb, en, hj]

section
variable {w : World} {A : Around} {s : Shared} {h₀ : Heap} {L : Addr} {m : Str → Option Value} {mean : ExcName → Option Value} {mg mb : Str → Option Value} {cn : Str} {cs : Scope} {f : Addr} {ccd : Value}

theorem pack_rest {a1 a2 a3 a4 q1 q2 q3 p1 p2 p3 p4 p5 p6 p7 r1 r2 r3 r4 i1 i2 i3 i4 i5 i6 i7 i8 i9 j1 j2 j3 j4 j5 v1 v2 v3 v4 u1 u2 u3 u4 : Pos} {bg : Nat} {t : Tok} {p : Bool} {Q : Flow → Shared → Prop}
    (G : Gd w mean mg mb h₀) (hh : A.handled = none) (hg : A.guards = some []) (F : Fr h₀ L s.heap m) (hcs : cs.kind = .function) (hi : interactive (envOf cn cs L f ccd) = false)
    (k1 : (envOf cn cs L f ccd).kindOf (Str.ofString "revbytes") = some .local) (k2 : (envOf cn cs L f ccd).kindOf (Str.ofString "big") = some .local) (k3 : (envOf cn cs L f ccd).kindOf (Str.ofString "pos") = some .local)
    (k4 : (envOf cn cs L f ccd).kindOf (Str.ofString "bytearray") = some .globalImplicit) (k5 : (envOf cn cs L f ccd).kindOf (Str.ofString "bytes") = some .globalImplicit)
    (n4 : nsIn (MineHead.hd.heap_39 w.params) mainGlobals (Str.ofString "bytearray") = some none) (n5 : nsIn (MineHead.hd.heap_39 w.params) mainGlobals (Str.ofString "bytes") = some none)
    (l1 : (p2.endLine == p3.line) = true) (l2 : (j2.endLine == j3.line) = true) (l3 : (v2.endLine == v3.line) = true)
    (w0 : swapsWith (.Call (.Name (Str.ofString "bytearray") a2) [] [] a3) (some (.Name (Str.ofString "revbytes") a1)) a4.line (envOf cn cs L f ccd) = pure false)
    (w1 : swapsWith (.Call (.Attribute (.Name (Str.ofString "revbytes") p1) (Str.ofString "append") p2) [.BinOp (.Name (Str.ofString "big") p5) .BitAnd (.Constant (.int 255) 0 p6) p7] [] p3) none p4.line (envOf cn cs L f ccd) = pure false)
    (w2 : swapsWith (.Call (.Attribute (.Name (Str.ofString "revbytes") j1) (Str.ofString "append") j2) [.Constant (.int 0) 0 j5] [] j3) none j4.line (envOf cn cs L f ccd) = pure false)
    (w3 : swapsWith (.Call (.Attribute (.Name (Str.ofString "revbytes") v1) (Str.ofString "reverse") v2) [] [] v3) none v4.line (envOf cn cs L f ccd) = pure false)
    (m1 : m (Str.ofString "big") = some (.int (bg : Int) t)) (m2 : m (Str.ofString "pos") = some (.bool p)) (hb : bg ≠ 0) (hz : bg < 256 ^ 100)
    (h : ∀ h' t tk, (∀ b o, h₀.get? b = some o → h'.get? b = some o) → Q (.ret (.bytes (packN p bg).toArray t)) { s with heap := h', toks := tk }) :
    wpC (model PySem.Challenge.rw_vj0001_01.row.prog w) A (execs [
      .Assign [.Name (Str.ofString "revbytes") a1] (.Call (.Name (Str.ofString "bytearray") a2) [] [] a3) a4,
      .While (.Compare (.Name (Str.ofString "big") q1) [.Gt] [.Constant (.int 0) 0 q2] q3)
        [.Expr (.Call (.Attribute (.Name (Str.ofString "revbytes") p1) (Str.ofString "append") p2) [.BinOp (.Name (Str.ofString "big") p5) .BitAnd (.Constant (.int 255) 0 p6) p7] [] p3) p4,
         .AugAssign (.Name (Str.ofString "big") r1) .RShift (.Constant (.int 8) 0 r2) r3] [] r4,
      .If (.BoolOp .And [.Name (Str.ofString "pos") i1, .BinOp (.Subscript (.Name (Str.ofString "revbytes") i2) (.UnaryOp .USub (.Constant (.int 1) 0 i3) i4) i5) .BitAnd (.Constant (.int 128) 0 i6) i7] i8)
        [.Expr (.Call (.Attribute (.Name (Str.ofString "revbytes") j1) (Str.ofString "append") j2) [.Constant (.int 0) 0 j5] [] j3) j4] [] i9,
      .Expr (.Call (.Attribute (.Name (Str.ofString "revbytes") v1) (Str.ofString "reverse") v2) [] [] v3) v4,
      .Return (some (.Call (.Name (Str.ofString "bytes") u1) [.Name (Str.ofString "revbytes") u2] [] u3)) u4] (envOf cn cs L f ccd)) Q s := by
  have hlen := leB_length 100 bg hz
  have hnil : leB bg ≠ [] := by rw [leB_pos hb]; exact fun e => nomatch e
  have hlen2 := fixL_length p (leB bg)
  refine wpC_execs_cons (st_make hg F G.X G.T hcs k1 k4 n4 w0 fun a h1 tk1 hn hL F1 o1 => ?_)
  refine wpC_execs_cons (st_while (s := { s with heap := h1, toks := tk1 }) hh hg F1 hcs k1 k2 l1 hi w1 hn hL ((if_neg (by decide)).trans m1) ((if_neg (by decide)).trans m2) (if_pos rfl) o1 rfl hlen fun h2 m' tk2 F2 e2 e3 o2 => ?_)
  refine wpC_execs_cons (st_if (s := { s with heap := h2, toks := tk2 }) hg F2 hcs k1 k3 l2 hi w2 hn hL e2 e3 o2 hnil hlen fun h3 tk3 F3 o3 => ?_)
  refine wpC_execs_leaf (st_rev (s := { s with heap := h3, toks := tk3 }) F3 hcs k1 l3 hi w3 hn hL e3 o3 (by omega) fun h4 tk4 F4 o4 => ?_)
  refine wpC_execs_leaf (st_ret (s := { s with heap := h4, toks := tk4 }) F4 G.X G.T hcs k1 k5 n5 e3 o4 (by rw [List.length_reverse]; omega) rfl fun t5 tk5 => ?_)
  exact h _ _ _ F4.keep
end

local macro_rules | `(tactic| walk_at "call ref") => `(tactic| ((with_reducible show wpAny _ _ (call (Value.ref 28) [Value.int _ _]) _ _ _); refine bitlen_ok' (Gd.keeps ‹_› (Fr.keep ‹_›)) (by assumption) (by assumption) (by omega) ?_; intro h' t' tk' k' hk' k0' k1' hK'; (try dsimp only at hK'); (rename Fr _ _ _ _ => F8); (rename News _ _ _ _ => N8); (have F' := Fr.keeps F8 hK'); (have N' := news_keeps N8 hK'); (clear F8 N8 hK'); (try dsimp only)))

section
variable {w : World} {A : Around} {s : Shared} {mean : ExcName → Option Value} {mg mb : Str → Option Value}
set_option maxHeartbeats 400000 in
theorem pack_ok {big : Int} {u : Tok} {Q : Value → Shared → Prop} (G : Gd w mean mg mb s.heap) (hd : A.depth + 1 < recursionLimit) (hh : A.handled = none) (hg : A.guards = some []) (hb : big.natAbs < 2 ^ 190)
    (h : ∀ h' t tk, (∀ b o, s.heap.get? b = some o → h'.get? b = some o) → Q (.bytes (packB big).toArray t) { s with heap := h', toks := tk }) :
    wpC (model PySem.Challenge.rw_vj0001_01.row.prog w) A (call (.ref 35) [.int big u]) Q s := by
  have X := G.X
  revert X
  k_fill
  intro X
  have T := G.T
  refine' wpC_call (call_plain_C (binds := [(Str.ofString "big", .int big u)]) (by omega) (in_of X ?l) ?dat T.nolimit (codeRec_of X ?cd) ?b ?loc (fun h₁ F => ?_) ?co ?gn ?kf ?cl)
  case l => k_is
  case dat => exact rfl
  case cd => k_is
  case b => exact rfl
  case loc => exact locs rfl
  case co => exact rfl
  case gn => exact rfl
  case kf => exact rfl
  case cl => decide
  rw [one_of_lookup] at F
  unfold one at F
  have N : News s.heap s.heap.objs.size h₁ [] := News.nil
  dsimp only
  refine execsC_stop ?_
  k_steps
  refine Stop.mk (execsC_stop ?_)
  k_steps
  · refine Stop.mk ?_
    rename Fr _ _ _ _ => F5
    have e : packB big = [0] := by unfold packB; rw [if_pos (by assumption)]
    rw [e] at h
    exact h _ _ _ F5.keep
  · refine Stop.mk (execsC_stop ?_)
    k_steps
    all_goals (rename Fr _ _ _ _ => F5)
    · obtain ⟨x, ex, hx0, hx1, hx2⟩ := neg_val (by assumption) hb (by assumption)
      rw [ex] at F5
      refine Stop.mk (pack_rest (bg := x) (p := false) G hh hg F5 rfl rfl rfl rfl rfl rfl rfl (by k_is) (by k_is) rfl rfl rfl rfl rfl rfl rfl ((if_neg (by decide)).trans (if_pos rfl)) (if_pos rfl) hx0 hx1 fun h' t' tk' hk => ?_)
      rw [← hx2]
      exact h _ _ _ hk
    · have ex : big = ((big.toNat : Nat) : Int) := by omega
      rw [ex] at F5
      refine Stop.mk (pack_rest (bg := big.toNat) (p := true) G hh hg F5 rfl rfl rfl rfl rfl rfl rfl (by k_is) (by k_is) rfl rfl rfl rfl rfl rfl rfl ((if_neg (by decide)).trans (if_pos rfl)) (if_pos rfl) (by omega) ?_ fun h' t' tk' hk => ?_)
      · have : big.toNat < 2 ^ 190 := by omega
        exact Nat.lt_trans this (by decide)
      · have e : packN true big.toNat = packB big := by
          unfold packB
          rw [if_neg (by assumption), if_neg (by assumption)]
        rw [e]
        exact h _ _ _ hk
end
end Mine
end

section
set_option maxRecDepth 100000
open PySem PySem.W PySem.Calls PyProof.Rows
namespace Mine
open Builtin Builtin.Str

def hexD (k : Nat) : Nat := if k < 10 then 48 + k else 87 + k
def hexL (c : Nat) : List Nat := [hexD (c / 16), hexD (c % 16)]
def pF : Percent := { zero := true, width := some 2, type := 120 }
theorem hex_field : ∀ c : Fin 256, percentField pF true (percentInt pF false ((Nat.toDigits 16 c.val).map Char.toNat)) = (if c.val < 16 then some (hexL c.val) else none) := by decide +kernel
theorem hex_text : ∀ c : Fin 256, ¬ c.val < 16 → percentInt pF false ((Nat.toDigits 16 c.val).map Char.toNat) = hexL c.val := by decide +kernel

theorem meets_02x (t u : Tok) (i : Int) (h0 : 0 ≤ i) (h1 : i < 256) : Meets («str.__mod__» ⟨[.str (Str.mk #[37, 48, 50, 120]) t, .int i u], []⟩) (fun _ R s => ∀ t' k, R (.ok (.ret (.str (Str.mk (hexL i.toNat).toArray) t'))) { s with toks := k }) := by
  apply KPc.meets_of
  intro prog w A s Q E hQ
  rw [KPc.entry_is]
  have hneg : decide (i < 0) = false := decide_eq_false (by omega)
  have hnat : i.natAbs = i.toNat := by omega
  unfold Builtin.Str.percentFormat
  refine wpAny_bind (wpAny_isInstance (typeIs_int _ _ _) F.sub_int_tuple ?_)
  refine wpAny_bind (wpAny_of_eq (a := none) rfl ?_)
  refine wpAny_bind (wpAny_of_eq (KPc.fills _ _) ?_)
  kpc_if
  refine wpAny_bind (wpAny_pure ?_)
  refine wpAny_bind ?_
  rw [KPc.range_list]
  refine KPc.start ?_
  intro w' g'
  refine KPc.turn ?_
  kpc_check
  (repeat kpc_if)
  refine wpAny_bind ?_
  refine wpAny_holding ?_
  (repeat kpc_if)
  refine wpAny_bind (wpAny_of_eq (a := i) rfl ?_)
  (repeat kpc_if)
  refine wpAny_bind (wpAny_pure (wpAny_pure ?_))
  have hf : percentField pF true (percentInt pF (decide (i < 0)) (List.map Char.toNat (Nat.toDigits 16 i.natAbs))) = (if i.natAbs < 16 then some (hexL i.natAbs) else none) := by
    rw [hneg, hnat]; exact hex_field ⟨i.toNat, by omega⟩
  have ht : ¬ i.natAbs < 16 → percentInt pF (decide (i < 0)) (List.map Char.toNat (Nat.toDigits 16 i.natAbs)) = hexL i.natAbs := by
    rw [hneg, hnat]; exact hex_text ⟨i.toNat, by omega⟩
  have hl : (hexL i.toNat).length = 2 := rfl
  split
  rename_i heq0
  cases heq0
  split
  · rename_i heq
    have h3 : ¬ i.natAbs < 16 := fun q => by rw [if_pos q] at hf; exact absurd (hf.symm.trans (show percentField pF true (percentInt pF (decide (i < 0)) (List.map Char.toNat (Nat.toDigits 16 i.natAbs))) = none from heq)) (by simp)
    refine wpAny_pure ?_
    refine KPc.after_add0 g' (y := Str.mk (hexL i.toNat).toArray) ?_ (KPc.obj_none (ite_self _)) ?_
    · have := (ht h3).trans (show hexL i.natAbs = hexL i.toNat by rw [hnat])
      exact congrArg (fun l : List Nat => Str.mk l.toArray) this
    intro w2 g2
    replace g2 : KPc.Good w2 (Str.mk (hexL i.toNat).toArray) 2 := KPc.good_mono g2 (Nat.le_of_eq rfl)
    kpc_turns
  · rename_i laid heq
    have h2 : percentField pF true (percentInt pF (decide (i < 0)) (List.map Char.toNat (Nat.toDigits 16 i.natAbs))) = some laid := heq
    have h3 : hexL i.natAbs = laid := by
      by_cases h16 : i.natAbs < 16
      · rw [if_pos h16] at hf
        exact Option.some.inj (hf.symm.trans h2)
      · rw [if_neg h16] at hf
        cases hf.symm.trans h2
    refine wpAny_pure ?_
    refine KPc.after_add0 g' (y := Str.mk (hexL i.toNat).toArray) ?_ (KPc.obj_none rfl) ?_
    · rw [← h3, hnat]
    intro w2 g2
    replace g2 : KPc.Good w2 (Str.mk (hexL i.toNat).toArray) 2 := KPc.good_mono g2 (Nat.le_of_eq rfl)
    kpc_turns

section
variable {prog : Program} {w : World} {A : Around} {E : Value → Shared → Prop} {s : Shared}
theorem mod_02x {n : Int} {t u : Tok} {Q : Value → Shared → Prop} (h0 : 0 ≤ n) (h1 : n < 256)
    (h : ∀ t' k, Q (.str (Str.mk (hexL n.toNat).toArray) t') { s with toks := k }) : wpAny (model prog w) A (binaryOp .Mod (.str (Str.ofString "%02x") t) (.int n u)) Q E s :=
  KPc.mod_lit (X' := Str.mk #[37, 48, 50, 120]) (by decide +kernel) (shown (N := 2 ^ 1920) (by omega) (by omega) (Int.le_refl _)) (fun _ _ => meets_02x t u n h0 h1) h
end
end Mine
end

section
set_option maxRecDepth 100000
open PySem PySem.W PySem.Calls PySem.NumText PyProof.Rows
namespace Mine
def IsHex (c : Nat) : Prop := (48 ≤ c ∧ c ≤ 57) ∨ (97 ≤ c ∧ c ≤ 102)
def hexV (c : Nat) : Nat := if c ≤ 57 then c - 48 else c - 87
theorem hex_range {c : Nat} (h : IsHex c) : c < 128 ∧ 33 ≤ c ∧ c ≠ 95 ∧ c ≠ 45 ∧ c ≠ 43 ∧ c ≠ 120 ∧ c ≠ 88 ∧ c ≠ 0 := by unfold IsHex at h; omega
theorem hexV_lt {c : Nat} (h : IsHex c) : hexV c < 16 := by unfold hexV; unfold IsHex at h; split <;> omega
theorem hex_digit {c : Nat} (h : IsHex c) : digit? c = some (hexV c) := by
  unfold digit? hexV
  rcases h with h | h
  · rw [if_pos (by simp; omega), if_pos h.2]
  · rw [if_neg (by simp; omega), if_pos (by simp; omega), if_neg (by omega)]
theorem hex_step {ds : Array Nat} {b : Bool} {c : Nat} (h : IsHex c) : NumText.step 16 (ds, b) c = some (ds.push (hexV c), true) := by
  unfold NumText.step
  rw [if_neg (by rw [beq_iff_eq]; exact (hex_range h).2.2.1), hex_digit h]
  exact if_pos (hexV_lt h)
theorem hex_fold : ∀ (cs : List Nat) (ds : Array Nat), (∀ c ∈ cs, IsHex c) → cs.foldlM (NumText.step 16) (ds, true) = some (cs.foldl (fun acc c => acc.push (hexV c)) ds, true)
  | [], _, _ => rfl
  | c :: cs, ds, h => by
    rw [List.foldlM_cons, hex_step (h c (List.mem_cons_self ..))]
    show cs.foldlM (NumText.step 16) (ds.push (hexV c), true) = _
    exact hex_fold cs _ fun d hd => h d (List.mem_cons_of_mem _ hd)
theorem hex_digits {cs : List Nat} (h : ∀ c ∈ cs, IsHex c) (hne : cs ≠ []) : digits? 16 cs = some (cs.foldl (fun acc c => acc.push (hexV c)) #[]) := by
  cases cs with
  | nil => exact absurd rfl hne
  | cons c cs =>
    unfold digits?
    rw [List.foldlM_cons, hex_step (h c (List.mem_cons_self ..))]
    show (cs.foldlM (NumText.step 16) ((#[] : Array Nat).push (hexV c), true)).bind _ = _
    rw [hex_fold cs _ fun d hd => h d (List.mem_cons_of_mem _ hd)]
    rfl
theorem hex_push : ∀ (cs : List Nat) (ds : Array Nat), (cs.foldl (fun acc c => acc.push (hexV c)) ds).foldl (fun acc d => acc * 16 + d) 0 = cs.foldl (fun acc c => acc * 16 + hexV c) (ds.foldl (fun acc d => acc * 16 + d) 0)
  | [], _ => rfl
  | c :: cs, ds => by
    rw [List.foldl_cons, hex_push cs (ds.push (hexV c)), List.foldl_cons]
    congr 1
    simp
theorem hex_drop {cs : List Nat} (h : ∀ c ∈ cs, IsHex c) : cs.dropWhile blank = cs := by
  cases cs with
  | nil => rfl
  | cons c cs => exact dropWhile_of (hex_range (h c (List.mem_cons_self ..))).2.1
theorem hex_prefix {t : List Nat} (h : ∀ c ∈ t, IsHex c) : prefix? t ≠ some 16 := by
  unfold prefix?
  split
  · rename_i c r
    have hc := hex_range (h c (List.mem_cons_of_mem _ (List.mem_cons_self ..)))
    rw [if_neg (by simp; omega)]
    repeat' split
    all_goals simp
  · simp
theorem hex_based {t : List Nat} (h : ∀ c ∈ t, IsHex c) : based 16 t = (16, false, t) := by
  unfold based
  have hp := hex_prefix h
  split
  · rename_i p e
    rw [if_neg (by simp; intro q; exact hp (q ▸ e))]
  · rfl
theorem hex_reads {cs : List Nat} (h : ∀ c ∈ cs, IsHex c) (hne : cs ≠ []) : (int_private% "readNumeral") 0 16 cs = (int_private% "Numeral.value") ((cs.foldl (fun acc c => acc * 16 + hexV c) 0 : Nat) : Int) := by
  refine (readNumeral_eq 0 16 cs).trans ?_
  rw [hex_drop h]
  have es : sign cs = (false, cs) := by
    cases cs with
    | nil => rfl
    | cons c cs => exact sign_of (hex_range (h c (List.mem_cons_self ..))).2.2.2.1 (hex_range (h c (List.mem_cons_self ..))).2.2.2.2.1
  rw [es]
  dsimp only
  rw [hex_based h]
  dsimp only
  rw [hex_drop fun d hd => h d (List.mem_reverse.mp hd), List.reverse_reverse, hex_digits h hne]
  unfold judge
  simp
  rw [show List.foldl (fun acc d => acc * 16 + d) 0 (List.map hexV cs) = List.foldl (fun acc c => acc * 16 + hexV c) 0 cs from List.foldl_map]

theorem wp_text16 {M : Model} {A : Around} {E : Value → Shared → Prop} {s : Shared} {Q : Value → Shared → Prop} {v : Value} {text : List Nat} {n : Int}
    (hs : (text.takeWhile (· != 0)).length ≤ 640) (hr : (int_private% "readNumeral") 0 16 (text.takeWhile (· != 0)) = (int_private% "Numeral.value") n)
    (ha : ((text.takeWhile (· != 0)).length == text.length) = true) (h : Q (.int n s.toks) { s with toks := s.toks + 1 }) :
    wpAny M A ((int_private% "intFromText") v text 16) Q E s := by
  obtain ⟨hp, g, d, tk, os⟩ := s
  repeat (any_goals (first
    | assumption
    | (with_reducible refine wpAny_ite_true (decide_eq_true hs) ?_)
    | (with_reducible refine wpAny_ite_true (decide_eq_true ha) ?_)
    | wp_step))
  all_goals (try rw [hr])
  all_goals (try dsimp only)
  repeat (any_goals (first
    | assumption
    | (with_reducible refine wpAny_ite_true (decide_eq_true hs) ?_)
    | (with_reducible refine wpAny_ite_true (decide_eq_true ha) ?_)
    | wp_step))

theorem index_int {M : Model} {A : Around} {E : Value → Shared → Prop} {s : Shared} {Q : Int → Shared → Prop} {n : Int} {u : Tok} (h : Q n s) :
    wpAny M A (Builtin.Int.intIndex "int.__new__" (.int n u)) Q E s := by
  repeat (any_goals (first | assumption | wp_step))

theorem gives_text16 {x : PySem.Str} {u b : Tok} {n : Int} (hl : x.length ≤ 640) (hs : numTextOf x = x.cps.toList ∧ numSeenOf x = x.cps.toList) (hr : (int_private% "readNumeral") 0 16 x.cps.toList = (int_private% "Numeral.value") n) :
    Gives (Builtin.«int.__new__» ⟨[.type "int", .str x u, .int 16 b], []⟩) (.int n) :=
  .of_wp fun M A E s Q h => by
    obtain ⟨hp, g, d, tk, os⟩ := s
    have f1 := F.conv_sub_int
    have f2 := F.madeHere_int
    have hl' : (numSeenOf x).length ≤ 640 := Nat.le_trans (seen_length x) hl
    have hr' : (int_private% "readNumeral") 0 16 (numSeenOf x) = (int_private% "Numeral.value") n := by rw [hs.2]; exact hr
    have ha : ((numSeenOf x).length == (numTextOf x).length) = true := by rw [hs.1, hs.2]; exact beq_self_eq_true _
    have hk := KIN.Hid.mk (And.intro hl' (And.intro hr' ha))
    clear hl' hr' ha hs hr hl
    repeat (any_goals (first
      | assumption
      | ((with_reducible show wpAny _ _ ((int_private% "intFromText") _ _ _) _ _ _); refine wp_text16 hk.out.1 hk.out.2.1 hk.out.2.2 ?_)
      | ((with_reducible show wpAny _ _ (Builtin.Int.intIndex _ _) _ _ _); refine index_int ?_)
      | wp_step))
    all_goals first | exact ⟨_, rfl, h⟩ | skip

namespace F2
theorem typeCall_int_2 (a b : Value) : checkTypeCall "int" ⟨[a, b], []⟩ = pure () := by kernel_rfl
theorem newCall_int_2 (a b : Value) : checkBuiltinCall "int.__new__" ⟨[.type "int", a, b], []⟩ = pure () := by kernel_rfl
theorem args_init_3 (a b c : Value) : argsOk "object.__init__" ⟨[a, b, c], []⟩ := by unfold argsOk; kernel_rfl
end F2

def hexOf (ns : List Int) : List Nat := ns.flatMap fun n => hexL n.toNat
def beV (ns : List Int) : Int := ns.foldl (fun a o => a * 256 + o) 0
theorem hexD_hex : ∀ k : Fin 16, IsHex (hexD k.val) ∧ hexV (hexD k.val) = k.val := by unfold IsHex; decide
theorem hexL_hex {n : Int} (h0 : 0 ≤ n) (h1 : n < 256) : ∀ c ∈ hexL n.toNat, IsHex c := by
  intro c hc
  unfold hexL at hc
  rcases List.mem_cons.mp hc with rfl | hc
  · exact (hexD_hex ⟨n.toNat / 16, by omega⟩).1
  · rw [List.mem_singleton.mp hc]
    exact (hexD_hex ⟨n.toNat % 16, by omega⟩).1
theorem hexOf_hex {ns : List Int} (h : ∀ n ∈ ns, 0 ≤ n ∧ n < 256) : ∀ c ∈ hexOf ns, IsHex c := by
  intro c hc
  obtain ⟨n, hn, hc⟩ := List.mem_flatMap.mp hc
  exact hexL_hex (h n hn).1 (h n hn).2 c hc
theorem hexOf_length : ∀ ns : List Int, (hexOf ns).length = 2 * ns.length
  | [] => rfl
  | n :: ns => by
    have := hexOf_length ns
    show (hexL n.toNat ++ hexOf ns).length = _
    rw [List.length_append, this, List.length_cons]
    show 2 + _ = _
    omega
theorem hexOf_val : ∀ (ns : List Int) (a : Nat), (∀ n ∈ ns, 0 ≤ n ∧ n < 256) → (((hexOf ns).foldl (fun acc c => acc * 16 + hexV c) a : Nat) : Int) = ns.foldl (fun a o => a * 256 + o) (a : Int)
  | [], _, _ => rfl
  | n :: ns, a, h => by
    have hn := h n (List.mem_cons_self ..)
    have ih := hexOf_val ns (a * 256 + n.toNat) fun m hm => h m (List.mem_cons_of_mem _ hm)
    show (((hexL n.toNat ++ hexOf ns).foldl (fun acc c => acc * 16 + hexV c) a : Nat) : Int) = _
    rw [List.foldl_append, List.foldl_cons]
    have e : (hexL n.toNat).foldl (fun acc c => acc * 16 + hexV c) a = a * 256 + n.toNat := by
      have e1 := (hexD_hex ⟨n.toNat / 16, by omega⟩).2
      have e2 := (hexD_hex ⟨n.toNat % 16, by omega⟩).2
      show (a * 16 + hexV (hexD (n.toNat / 16))) * 16 + hexV (hexD (n.toNat % 16)) = _
      dsimp only at e1 e2
      rw [e1, e2]
      omega
    rw [e, ih]
    congr 1
    omega
section
variable {prog : Program} {w : World} {A : Around} {E : Value → Shared → Prop} {s : Shared}
theorem call_int16 {x : PySem.Str} {t b : Tok} {ns : List Int} {Q : Value → Shared → Prop} (hr : ∀ n ∈ ns, 0 ≤ n ∧ n < 256) (hne : ns ≠ []) (hz : ns.length ≤ 30) (hx : x.cps.toList = hexOf ns)
    (h : Q (.int (beV ns) s.toks) { s with toks := s.toks + 1 }) : wpAny (model prog w) A (call (.type "int") [.str x t, .int 16 b]) Q E s := by
  have hh := hexOf_hex hr
  have hl : (hexOf ns).length = 2 * ns.length := hexOf_length ns
  have e1 : numTextOf x = x.cps.toList := by
    refine if_pos ?_
    rw [← Array.all_toList, List.all_eq_true, hx]
    intro c hc
    exact decide_eq_true (hex_range (hh c hc)).1
  have e2 : numSeenOf x = x.cps.toList := by
    show (numTextOf x).takeWhile _ = _
    rw [e1, hx]
    exact takeWhile_all fun c hc => bne_iff_ne.mpr (hex_range (hh c hc)).2.2.2.2.2.2.2
  have hlen : x.length ≤ 640 := by
    have : x.cps.toList.length = x.length := Array.length_toList
    rw [← this, hx, hl]; omega
  have hne' : hexOf ns ≠ [] := by
    intro e
    rw [e, List.length_nil] at hl
    exact hne (List.eq_nil_of_length_eq_zero (by omega))
  have g := gives_text16 (u := t) (b := b) (n := beV ns) hlen ⟨e1, e2⟩ (by rw [hx, hex_reads hh hne']; exact congrArg _ (hexOf_val ns 0 hr))
  exact callType_new F.called_int F.newNe_int (F2.typeCall_int_2 _ _) (F2.newCall_int_2 _ _) (fun obj => F2.args_init_3 obj _ _) F.entry_int_new g.meets (show (Made.int _).post _ s from ⟨rfl, h⟩)
end
end Mine
end

section
set_option maxRecDepth 100000
open PySem PySem.W PySem.Calls PyProof.Rows
namespace Mine
def Hit (pos : Pos) (ps : Array Value) : Prop := codeAmong pos ps.toList = none ∨ ∃ c', codeAmong pos ps.toList = some (.ref c')
section
variable {M : Model} {A : Around} {E : Value → Shared → Prop} {s : Shared} {h₁ h₀ : Heap} {c P L : Addr} {ps : Array Value} {m : Str → Option Value}
theorem gen_code {env : Env} {pos : Pos} {qn : Str} {scope : Scope} {Q : Value → Shared → Prop} (hc : env.code = .ref c) (B : Based h₁ h₀ c P ps) (F : Fr h₀ L s.heap m) (hp : Hit pos ps)
    (h : ∀ c' h' tk h₀' ps', Based h₁ h₀' c P ps' → Hit pos ps' → Fr h₀' L h' m → Heap.ExtBut P s.heap h' → s.heap.objs.size ≤ h'.objs.size → Q (.ref c') { s with heap := h', toks := tk }) :
    wpAny M A (genexprCode env pos qn scope) Q E s := by
  rcases hp with hp | ⟨c', hp⟩
  · refine wpAny_genexprCodeX hc (B.codeAt F) (B.tabAt F) hp fun c' h' tk hx hge hlt hcode hrec htab _ => ?_
    obtain ⟨B', F'⟩ := B.grow F hx hcode htab
    have ht : TriplesOk ps.toList := by
      obtain ⟨o, vs, file, tf, flags, tg, inF, text, tt, op, ho, hd, h11, h2, h7, h9, h10, hop, hpd, htr, hne⟩ := B.code
      exact htr
    refine h _ _ _ _ _ B' (Or.inr ⟨c', ?_⟩) F' hx (Nat.le_of_lt (Nat.lt_of_le_of_lt hge hlt))
    have := codeAmong_snoc (c := .ref c') ps.toList ht hp
    simpa using this
  · exact wpAny_genexprCode_hit hc (B.codeAt F) hp (h c' s.heap s.toks h₀ ps B (Or.inr ⟨_, hp⟩) F (fun _ _ _ e => e) (Nat.le_refl _))
end
section
variable {prog : Program} {w : World} {A : Around} {E : Value → Shared → Prop} {s : Shared} {h₁ h₀ : Heap} {c P : Addr} {ps : Array Value} {m mg : Str → Option Value}

structure GenJ (prog : Program) (w : World) (A : Around) (N a : Addr) (b : Array UInt8) (s : Shared) : Prop where
  out : ∃ fp wr g St, WalksS prog w A.in4 a fp wr (GenOnlyQ g) b.size (fun j y => ∃ c u, b[j]? = some c ∧ y = .str (Str.mk (hexL c.toNat).toArray) u) St ∧ St 0 s ∧ (∀ i s', St i s' → s'.TypeIs (.ref a) "generator") ∧ a ∈ fp ∧ (∀ b ∈ fp, b < s.heap.objs.size) ∧ ∀ b ∈ wr, N ≤ b

theorem gen_ok {env : Env} {b : Array UInt8} {tb : Tok} {scope : Scope} {pos p1 p2 p3 p4 p5 : Pos} {cl : List (Str × Addr)} {Q : Value → Shared → Prop} {bm : Addr} {ob : Obj}
    (hc : env.code = .ref c) (B : Based h₁ h₀ c P ps) (F : Fr h₀ env.locals s.heap m) (hp : Hit pos ps) (hl : s.heap.NoLimit) (M : BMod s.heap env.globals mg bm ob) (hg : AllBare s.gens)
    (hh : A.handled = none) (hco : scope.isCoroutine = false) (hclos : closureFor scope env = pure cl) (hcell : ∀ y ∈ scope.names, y.2 ≠ .cell) (h0 : scope.names.lookup (".0" : Str) = some NameKind.local)
    (hx : scope.names.lookup (Str.ofString "i") = some .local) (hkind : scope.kind = .function) (hroom : A.depth < recursionLimit)
    (hek : env.scope.kind = .function) (het : env.kindOf (Str.ofString "term") = some .local) (ht : m (Str.ofString "term") = some (.bytes b tb))
    (h : ∀ a h' tk gs h₀' ps', Based h₁ h₀' c P ps' → Hit pos ps' → Fr h₀' env.locals h' m → AllBare gs → (∀ b o, b ≠ P → s.heap.get? b = some o → h'.get? b = some o) →
      GenJ prog w A s.heap.objs.size a b { s with heap := h', toks := tk, gens := gs } → Q (.ref a) { s with heap := h', toks := tk, gens := gs }) :
    wpAny (model prog w) A (eval (.GeneratorExp (.BinOp (.Constant (.str (Str.ofString "%02x")) 0 p1) .Mod (.Name (Str.ofString "i") p2) p3) [⟨.Name (Str.ofString "i") p4, .Name (Str.ofString "term") p5, [], 0⟩] scope pos) env) Q E s := by
  refine wpAny_GeneratorExp_walksQ hh hco hclos hcell h0 hx hkind hroom (wpAny_Name (wpAny_loadName_local hek het F.ns ht (KBw.pyIter_bytes ?_))) (fun _ => rfl)
  have F1 : Fr h₀ env.locals (s.heap.push { cls := .type "bytes_iterator", data := .fields #[.bytes b tb, .int 0 0] }) m := F.push _
  refine ⟨hl.push _, gen_code hc B F1 hp fun c' h₃ tk h₀' ps' B' hp' F' hx₃ hsz => ?_⟩
  dsimp only at hx₃ hsz ⊢
  rw [Heap.size_push] at hsz
  have hPlt : P < s.heap.objs.size := Heap.lt_size (B.tabAt F).2
  have hcP : cStatics ≠ P := Ne.symm B.notStatics
  have hl₃ : h₃.NoLimit := (hl.push _).extBut hx₃ hcP
  have M₃ : BMod h₃ env.globals mg bm ob := (M.keeps fun _ _ e => Heap.get?_push_of_some _ e).extBut (B.tabAt F1) hx₃
  refine wpAny_builtinsFor M₃.ns M₃.name M₃.ne M₃.obj M₃.cls M₃.dict M₃.data ?_
  have hclt : cStatics < s.heap.objs.size := let ⟨_, hn, _⟩ := hl; hn.lt
  refine ⟨s.heap.objs.size, [s.heap.objs.size], [s.heap.objs.size], b.size, _, _, fun _ => true, fun i y => ∃ c u, b[i]? = some c ∧ y = .str (Str.mk (hexL c.toNat).toArray) u, rfl,
    (fun A' hA => KBw.walks hA s.heap.objs.size b tb), ⟨_, hx₃ _ _ (Nat.ne_of_gt hPlt) (Heap.get?_push_size _ rfl), rfl, rfl⟩, ?_, hl₃, ?_, ?_, ?_⟩
  · intro b' hb
    rw [List.mem_singleton.mp hb]
    exact Nat.lt_of_lt_of_le (Nat.lt_succ_self _) hsz
  · intro hm
    exact absurd (List.mem_singleton.mp hm ▸ hclt) (Nat.lt_irrefl _)
  · intro href hk
    refine ⟨fun A' E' i v s₂ m₂ hh' hP hn hm _ => ?_, fun A' E' i v s₂ m₂ hh' hP _ hn hm _ => ?_⟩
    · exact wpAny_pure ⟨rfl, _, _, rfl, fun _ _ e => e⟩
    · obtain ⟨c, u, hb, rfl⟩ := hP
      refine wpAny_BinOp (wpAny_Constant_str (wpAny_Name (wpAny_loadName_local hkind hx hn hm ?_)))
      have := c.toNat_lt
      refine mod_02x (by omega) (by omega) fun t' k => ⟨⟨c, t', hb, by rw [Int.toNat_natCast]⟩, _, _, rfl, fun _ _ e => e⟩
  · intro a h₅ tk' gs hgb hag hsz₅ hk₅ W hat
    have hpass : passing (fun _ => true) b.size 0 = List.range b.size := by unfold passing; simp
    refine h a h₅ _ _ h₀' ps' B' hp' (F'.keeps hk₅) (hg.push hgb) (fun b' o hb e => hk₅ b' o (hx₃ b' o hb (Heap.get?_push_of_some _ e))) ⟨⟨a :: h₃.objs.size :: List.range h₃.objs.size, [h₃.objs.size, s.heap.objs.size], s.gens.size, GenAt prog w A.in4 a s.gens.size h₃.objs.size (List.range h₃.objs.size) [s.heap.objs.size] (fun _ => true) b.size (fun i y => ∃ c u, b[i]? = some c ∧ y = .str (Str.mk (hexL c.toNat).toArray) u), ?_, hat, (fun i s' st => st.1.typeIs), List.mem_cons_self, ?_, ?_⟩⟩
    · rw [hpass] at W
      have e : (fun (j : Nat) (y : Value) => ∃ i, (List.range b.size)[j]? = some i ∧ ∃ c u, b[i]? = some c ∧ y = .str (Str.mk (hexL c.toNat).toArray) u) = (fun (j : Nat) (y : Value) => ∃ c u, b[j]? = some c ∧ y = .str (Str.mk (hexL c.toNat).toArray) u) := by
        funext j y
        apply propext
        constructor
        · rintro ⟨i, hi, c, u, hb, rfl⟩
          have hj : j < b.size := by
            by_cases hj : j < b.size
            · exact hj
            · rw [List.getElem?_eq_none (by simpa using hj)] at hi; cases hi
          rw [List.getElem?_range hj] at hi
          cases hi
          exact ⟨c, u, hb, rfl⟩
        · rintro ⟨c, u, hb, rfl⟩
          have hj : j < b.size := by
            by_cases hj : j < b.size
            · exact hj
            · rw [Array.getElem?_eq_none (by omega)] at hb; cases hb
          exact ⟨j, List.getElem?_range hj, c, u, hb, rfl⟩
      rw [List.length_range] at W
      have W2 : WalksS prog w A.in4 a (a :: h₃.objs.size :: List.range h₃.objs.size) [h₃.objs.size, s.heap.objs.size] (GenOnlyQ s.gens.size) b.size (fun (j : Nat) (y : Value) => ∃ i, (List.range b.size)[j]? = some i ∧ ∃ c u, b[i]? = some c ∧ y = .str (Str.mk (hexL c.toNat).toArray) u)
        (GenAt prog w A.in4 a s.gens.size h₃.objs.size (List.range h₃.objs.size) [s.heap.objs.size] (fun _ => true) b.size (fun i y => ∃ c u, b[i]? = some c ∧ y = .str (Str.mk (hexL c.toNat).toArray) u)) := W
      rw [e] at W2
      exact W2
    · intro b' hb
      show b' < h₅.objs.size
      rw [hsz₅]
      rcases List.mem_cons.mp hb with rfl | hb
      · exact Nat.lt_succ_self _
      · rcases List.mem_cons.mp hb with rfl | hb
        · exact Nat.lt_succ_of_lt hag
        · exact Nat.lt_succ_of_lt (Nat.lt_trans (List.mem_range.mp hb) hag)
    · intro b' hb
      rcases List.mem_cons.mp hb with rfl | hb
      · exact Nat.le_trans (Nat.le_succ _) hsz
      · exact Nat.le_of_eq (List.mem_singleton.mp hb).symm


theorem join_empty : ∀ (l : List Str), (Str.join Str.empty l).cps.toList = l.flatMap fun x => x.cps.toList
  | [] => rfl
  | [x] => by simp [Str.join]
  | x :: y :: r => by
    have ih := join_empty (y :: r)
    show ((x ++ Str.empty ++ Str.join Str.empty (y :: r)) : Str).cps.toList = _
    have e : ((x ++ Str.empty ++ Str.join Str.empty (y :: r)) : Str).cps = x.cps ++ #[] ++ (Str.join Str.empty (y :: r)).cps := rfl
    rw [e, List.flatMap_cons, ← ih]
    simp

theorem join_ok {N a : Addr} {b : Array UInt8} {t : Tok} {Q : Value → Shared → Prop} (J : GenJ prog w A N a b s) (hg : AllBare s.gens) (hz : b.size ≤ 30)
    (h : ∀ (x : PySem.Str) t' h' tk gs, AllBare gs → x.cps.toList = hexOf (KBw.bInts b) → (∀ c o, c < N → s.heap.get? c = some o → h'.get? c = some o) → Q (.str x t') { s with heap := h', toks := tk, gens := gs }) :
    wpAny (model prog w) A (call (.builtin "str.join") [.str (Str.ofString "") t, .ref a]) Q E s := by
  obtain ⟨fp, wr, g, St, W, hst, hT, ha, hfp, hwr⟩ := J.out
  have W := W.in4_2
  refine SC.joinGen W hT hst hfp ha (fun j v hv => let ⟨c, u, _, e⟩ := hv; ⟨_, u, e⟩) (fun s' lt hm hacc => ?_) (Nat.le_trans hz (by decide))
  have hl : lt.map (·.1) = b.toList.map fun c => Str.mk (hexL c.toNat).toArray := by
    apply List.ext_getElem?
    intro j
    have hsz : lt.length = b.size := by simpa [strValues] using hacc.1
    by_cases hj : j < b.size
    · have hj' : j < lt.length := hsz ▸ hj
      obtain ⟨c, u, hb, hv⟩ := hacc.2 j (.str lt[j].1 lt[j].2) (by simp [strValues, List.getElem?_eq_getElem hj'])
      injection hv with h1 _
      have hb' : b.toList[j]? = some c := by simpa using hb
      simp [List.getElem?_eq_getElem hj', hb', h1]
    · rw [List.getElem?_eq_none (by simpa [hsz] using Nat.le_of_not_lt hj), List.getElem?_eq_none (by simpa using Nat.le_of_not_lt hj)]
  rw [hl]
  have hg' := hg.movedS hm
  refine ⟨joinOk_of ?_, fun t' k => ?_⟩
  · have e : ∀ l : List UInt8, (((l.map fun c => Str.mk (hexL c.toNat).toArray).map (·.length)).sum = 2 * l.length) := by
      intro l
      induction l with
      | nil => rfl
      | cons c l ih =>
        rw [List.map_cons, List.map_cons, List.sum_cons, ih, List.length_cons]
        show 2 + _ = _
        omega
    rw [e, List.length_map, Array.length_toList]
    show 2 * b.size + b.size * 0 ≤ _
    omega
  · obtain ⟨hp, gg, dd, tt, os⟩ := s'
    have hd := hm.drawn
    have ho := hm.os
    dsimp only at hd ho
    subst hd ho
    refine h _ t' hp k gg hg' ?_ (fun c o hc e => hm.heap c o (fun hw => absurd (hwr c hw) (Nat.not_le_of_lt hc)) e)
    rw [show ∀ l, Txt.join (Str.ofString "") l = Str.join Str.empty l from fun _ => PySem.StrLaws.glued_eq_join _ _]
    rw [join_empty]
    unfold hexOf KBw.bInts
    rw [List.flatMap_map, List.flatMap_map]
    rfl
end
end Mine
end

section
set_option maxRecDepth 100000
open PySem PySem.W PySem.Calls PyProof.Rows
namespace Mine
def gpos : Pos := ⟨3, 22, 3, 48⟩
structure Tb (P : Addr) (h : Heap) : Prop where
  ne : P ≠ cStatics
  out : ∃ ps, h.IsCode 20 P ps ∧ h.TableAt 20 P ps ∧ Hit gpos ps
theorem Tb.keeps {P : Addr} {h h' : Heap} (t : Tb P h) (k : ∀ b o, h.get? b = some o → h'.get? b = some o) : Tb P h' :=
  let ⟨ps, a, b, c⟩ := t.out; ⟨t.ne, ps, a.keeps k, b.keeps k, c⟩
theorem and128 : ∀ c : Fin 256, Builtin.bitAnd (c.val : Int) 128 = 0 ↔ (c.val : Int) ≤ 127 := by decide +kernel
def unpackI : List Int → Int
  | [] => 0
  | n :: r => if 127 < n then beV (n :: r) - 2 ^ (8 * (r.length + 1)) else beV (n :: r)
section
variable {w : World} {A : Around} {E : Value → Shared → Prop} {s : Shared} {mean : ExcName → Option Value} {mg mb : Str → Option Value}

theorem unpack_ok {P : Addr} {b : Array UInt8} {tb : Tok} {n0 : Int} {ns : List Int} {Q : Value → Shared → Prop} (G : Gd w mean mg mb s.heap) (hb : Tb P s.heap) (hg : AllBare s.gens) (hd : A.depth + 1 < recursionLimit) (hh : A.handled = none)
    (hi : KBw.bInts b = n0 :: ns) (hz : (n0 :: ns).length ≤ 30)
    (h : ∀ h' t tk gs, AllBare gs → Tb P h' → (∀ c o, c ≠ P → s.heap.get? c = some o → h'.get? c = some o) → Q (.int (unpackI (n0 :: ns)) t) { s with heap := h', toks := tk, gens := gs }) :
    wpAny (model PySem.Challenge.rw_vj0001_01.row.prog w) A (call (.ref 21) [.bytes b tb]) Q E s := by
  obtain ⟨ps, hc, ht, hp⟩ := hb.out
  have B : Based s.heap s.heap 20 P ps := .start hc ht hb.ne
  obtain ⟨bm, ob, M⟩ := G.M
  have X := G.X
  revert X
  k_fill
  intro X
  have T := G.T
  refine' wpAny_call (call_plain_ret (binds := [(Str.ofString "term", .bytes b tb)]) (Nat.lt_of_succ_lt hd) (in_of X ?l) ?dat T.nolimit (codeRec_of X ?cd) ?b ?loc (fun h₁ F => ?_) ?co ?gn ?kf ?cl)
  case l => k_is
  case dat => exact rfl
  case cd => k_is
  case b => exact rfl
  case loc => exact locs rfl
  case co => exact rfl
  case gn => exact rfl
  case kf => exact rfl
  case cl => decide
  have N : News s.heap s.heap.objs.size h₁ [] := News.nil
  dsimp only
  refine execs_stop ?_
  k_steps
  refine gen_ok (c := 20) rfl B F hp (T.nolimit.keeps F.keep) (M.keeps F.keep) hg hh rfl rfl (by decide) rfl rfl rfl hd rfl rfl rfl ?_
  intro a h2 tk2 gs2 h0' ps' B2 hp2 F2 g2 k2 J
  have G2 := G.but ht.2 hb.ne (fun c o hc e => B2.same.extBut c o hc e)
  have X2 := G2.X
  clear X T
  revert X2
  k_fill
  intro X2
  have T2 := G2.T
  have N2 : News h0' s.heap.objs.size h2 [] := News.nil
  have hL : s.heap.objs.size < h₁.objs.size := F.ns.lt
  have F2' : Fr h0' s.heap.objs.size h2 _ := F2
  clear F N F2
  dsimp only at J k2 ⊢
  k_steps
  refine join_ok J g2 (by have := KBw.ints_length b; rw [hi] at this; omega) (fun x t3 h3 tk3 gs3 g3 hx k3 => ?_)
  dsimp only at k3
  have F3 : Fr h0' s.heap.objs.size h3 _ := ⟨F2'.ns.at' fun o e => k3 _ o hL e, fun c o e => k3 c o (Nat.lt_trans (B2.same.1 ▸ Heap.lt_size e) hL) (F2'.keep c o e), F2'.above⟩
  have N3 : News h0' s.heap.objs.size h3 [] := News.nil
  clear N2 F2' J
  k_steps
  refine call_int16 (ns := n0 :: ns) (fun n hn => KBw.ints_in (hi ▸ hn)) (by simp) hz (hi ▸ hx) ?_
  k_steps
  refine Stop.mk ?_
  have fin : ∀ (v : Int) (h' : Heap) t tk {m' : Str → Option Value}, v = unpackI (n0 :: ns) → Fr h0' s.heap.objs.size h' m' → Q (.int v t) { s with heap := h', toks := tk, gens := gs3 } := fun v h' t tk m' hv F' =>
    hv ▸ h h' t tk gs3 g3 ⟨hb.ne, ps', B2.codeAt F', B2.tabAt F', hp2⟩ fun c o hc e => F'.keep c o (B2.same.extBut c o hc e)
  have hbs : b.size = ns.length + 1 := by have := KBw.ints_length b; rw [hi] at this; simpa using this.symm
  have hb0 : b.toList.length = ns.length + 1 := by have := KBw.ints_length b; rw [hi] at this; simpa using this.symm
  have hv0 : (((b.toList.getD 0 0).toNat : Nat) : Int) = n0 := by
    have := congrArg (fun l : List Int => l.head?) hi
    unfold KBw.bInts at this
    cases hbl : b.toList with
    | nil => rw [hbl] at hb0; simp at hb0
    | cons c r => rw [hbl] at this; simpa using this
  have hr0 : 0 ≤ n0 ∧ n0 < 256 := KBw.ints_in (b := b) (by rw [hi]; exact List.mem_cons_self ..)
  k_steps
  refine subscriptTail_builtin (typeIs_bytes _ _ _) FB.slot_bytes_getitem.lookup (getItem_bytes (l := b.toList) (by simp only [List.length_cons] at hz; omega) (by decide) (by omega) ?_)
  show wpAny _ _ (eval _ _) _ _ _
  have hv0' : (((b.toList.getD (Int.toNat 0) 0).toNat : Nat) : Int) = n0 := hv0
  rw [hv0']
  k_steps
  · have hb1 : 127 < n0 := by
      have := and128 ⟨n0.toNat, by omega⟩
      rename Builtin.bitAnd n0 128 ≠ 0 => hq
      dsimp only at this
      rw [Int.toNat_of_nonneg hr0.1] at this
      exact Classical.byContradiction fun q => hq (this.mpr (by omega))
    refine len_bytes (by rw [hbs]; simp only [List.length_cons] at hz; omega) ?_
    rw [hbs]
    have hz' : ns.length + 1 ≤ 30 := hz
    generalize hk : ns.length + 1 = kk at hz' ⊢
    k_steps
    rename Fr _ _ _ _ => F4
    refine fin _ _ _ _ ?_ F4
    subst hk
    have e1 : ((((ns.length + 1 : Nat) : Int) * 8).toNat) = 8 * (ns.length + 1) := by omega
    rw [e1, Int.one_mul]
    exact (if_pos hb1).symm
  · have hb1 : ¬ 127 < n0 := by
      have := and128 ⟨n0.toNat, by omega⟩
      rename Builtin.bitAnd n0 128 = 0 => hq
      dsimp only at this
      rw [Int.toNat_of_nonneg hr0.1] at this
      have := this.mp hq
      omega
    rename Fr _ _ _ _ => F4
    exact fin _ _ _ _ (if_neg hb1).symm F4
end
end Mine
end

section
set_option maxRecDepth 100000
open PySem PySem.W PySem.Calls PyProof.Rows
namespace Mine
def ByteAt (b : Array UInt8) : Nat → Value → Prop := fun i v => ∃ c u, b[i]? = some c ∧ v = .int (c.toNat : Int) u
section
variable {prog : Program} {w : World} {A : Around} {E : Value → Shared → Prop} {s : Shared}
theorem extend_bytes {R : Result → Shared → Prop} (hh : A.handled = none) (b : Array UInt8) (t : Tok) (S : Addr) (res : Value) (c₀ : Nat) (hS : s.heap.get? S = some { cls := .type "list", data := .seq #[] c₀ })
    (hR : ∀ h' tk acc' c', (∀ b o, b ≠ S → s.heap.get? b = some o → h'.get? b = some o) → h'.get? S = some { cls := .type "list", dict := none, data := .seq acc' c', slots := #[] } →
      ItemsOf (ByteAt b) acc' b.size → R (.ok (.ret res)) { s with heap := h', toks := tk }) (hn : b.size ≤ sizeLine) :
    wpAny (model prog w) A.in1 (Builtin.List.listExtendWith (.ref S) (.bytes b t) res)
      (fun fin s' => match fin with | .done f => R (.ok f) s' | .again c' => c'.quiet = true ∧ codeAny (model prog w) A c' R s') (fun e s' => R (.error e) s') s := by
  have hSI : S ≠ s.heap.objs.size := Nat.ne_of_lt (Heap.lt_size hS)
  have hSf : S ∉ [s.heap.objs.size] := fun hm => hSI (List.mem_singleton.mp hm)
  unfold Builtin.List.listExtendWith
  refine wpAny_bind (wpAny_typeOf (T := "bytes") (v := .bytes b t) rfl ?_)
  have h1 : Builtin.List.listSameRef (.ref S) (.bytes b t) = false := rfl
  have h2 : (Value.type "bytes" == Value.type "list") = false := by decide
  have h3 : (Value.type "bytes" == Value.type "tuple") = false := by decide
  simp only [h1, h2, h3, Bool.or_false, Bool.false_eq_true, if_false]
  refine wpAny_bind (KBw.pyIter_bytes ?_)
  refine wpAny_bind (wpAny_holding ?_)
  unfold Builtin.List.listLengthHint
  refine wpAny_bind (wpAny_specialOf (T := "bytes") (v := .bytes b t) rfl FB.slot_bytes_len.lookup ?_)
  wp_delta
  refine wpAny_bind (wpAny_isInstance (T := "bytes") (v := .bytes b t) (b := true) rfl (by rw [isSubtype_type]; kernel_rfl) ?_)
  show wpAny _ _ (typeOf (Value.bytes b t) >>= _) _ _ _
  refine wpAny_bind (wpAny_typeOf (T := "bytes") (v := .bytes b t) rfl ?_)
  refine wpAny_pure ?_
  rw [if_neg (by decide)]
  refine wpAny_pure ⟨plainId_quiet F.plain_extend_loop _, codeAny_extend_loopS (KBw.walks (A := A.in1) hh s.heap.objs.size b t).toS hn _ hSf _ b.size 0 _ _ _ rfl (Nat.zero_le _) ⟨_, Heap.get?_push_size _ rfl, rfl, rfl⟩ (Heap.get?_push_of_some _ hS) (ItemsOf.nil _) fun s' acc' c' hm hS' hacc => ?_⟩
  rw [Moved.eq_with hm]
  refine hR s'.heap s'.toks acc' c' (fun b ob hb e => hm.heap b ob (fun hmem => ?_) (Heap.get?_push_of_some _ e)) hS' hacc
  rcases List.mem_cons.mp hmem with e' | hmem
  · exact hb e'
  · exact absurd (Heap.lt_size e) (by rw [List.mem_singleton.mp hmem]; exact Nat.lt_irrefl _)

theorem list_init_bytes {R : Result → Shared → Prop} (hh : A.handled = none) (b : Array UInt8) (t : Tok) (S : Addr) (hS : s.heap.get? S = some { cls := .type "list", data := .seq #[] })
    (hR : ∀ h' tk acc' c', (∀ b o, b ≠ S → s.heap.get? b = some o → h'.get? b = some o) → h'.get? S = some { cls := .type "list", dict := none, data := .seq acc' c', slots := #[] } →
      ItemsOf (ByteAt b) acc' b.size → R (.ok (.ret .none)) { s with heap := h', toks := tk }) (hn : b.size ≤ sizeLine) :
    wpAny (model prog w) A.in1 (Builtin.«list.__init__» ⟨[.ref S, .bytes b t], []⟩)
      (fun fin s' => match fin with | .done f => R (.ok f) s' | .again c' => c'.quiet = true ∧ codeAny (model prog w) A c' R s') (fun e s' => R (.error e) s') s := by
  show wpAny _ _ (do let old ← Builtin.List.listItems (.ref S); Builtin.List.listUpdate (.ref S) (fun _ => #[]); letGo old.toList.reverse; Builtin.List.listExtendWith (.ref S) (.bytes b t) .none) _ _ s
  refine wpAny_bind ?_
  unfold Builtin.List.listItems
  refine wpAny_bind (wpAny_seqItems hS rfl (wpAny_pure ?_))
  show wpAny _ _ (updateSeq S (fun _ => #[]) >>= fun _ => letGo (#[] : Array Value).toList.reverse >>= fun _ => Builtin.List.listExtendWith (.ref S) (.bytes b t) .none) _ _ s
  refine wpAny_bind (wpAny_updateSeq hS rfl ?_)
  have hS₂ := Heap.get?_update_self (Obj.mapSeq (fun _ => (#[] : Array Value))) hS rfl
  have oth : ∀ b o, b ≠ S → s.heap.get? b = some o → (s.heap.update S (Obj.mapSeq (fun _ => (#[] : Array Value)))).get? b = some o :=
    fun b o hb e => (Heap.get?_update_other _ _ (Ne.symm hb)).trans e
  refine wpAny_bind (wpAny_letGo ?_)
  refine extend_bytes (hn := hn) hh b t S .none _ hS₂ fun h' tk acc' c' hk hS' hacc => ?_
  exact hR h' tk acc' c' (fun b o hb e => hk b o hb (oth b o hb e)) hS' hacc

theorem call_list_bytes {Q : Value → Shared → Prop} (hh : A.handled = none) (b : Array UInt8) (t : Tok)
    (hQ : ∀ h' tk ys, (∀ b o, s.heap.get? b = some o → h'.get? b = some o) → h'.IsList s.heap.objs.size ys.toArray → IntsAre ys (KBw.bInts b) → Q (.ref s.heap.objs.size) { s with heap := h', toks := tk }) (hn : b.size ≤ sizeLine) :
    wpAny (model prog w) A (call (.type "list") [.bytes b t]) Q E s := by
  refine callType_codes (Q₁ := fun obj s₁ => obj = .ref s.heap.objs.size ∧ s₁ = { s with heap := s.heap.push { cls := .type "list", data := .seq #[] } }) F.called_list (F.typeCall_list_1 _) F.entry_list_init
    (code_list_new _ ⟨rfl, rfl⟩) fun obj s₁ h₁ => ?_
  obtain ⟨rfl, rfl⟩ := h₁
  have hS : (s.heap.push { cls := .type "list", data := .seq #[] }).get? s.heap.objs.size = some { cls := .type "list", data := .seq #[] } := Heap.get?_push_size _ rfl
  refine ⟨⟨_, hS, rfl⟩, F.args_list_init_2 _ _, list_init_bytes (A := A.in1) (hn := hn) hh b t _ hS fun h' tk acc' c' hk hS' hacc => ?_⟩
  refine ⟨rfl, hQ h' tk acc'.toList (fun b o e => hk b o (Nat.ne_of_lt (Heap.lt_size e)) (Heap.get?_push_of_some _ e)) ⟨_, hS', rfl, c', by simp⟩ ?_⟩
  have key : ∀ (l : List UInt8) (ys : List Value), ys.length = l.length → (∀ (j : Nat) (v : Value), ys[j]? = some v → ∃ c u, l[j]? = some c ∧ v = .int (c.toNat : Int) u) → IntsAre ys (l.map fun c => (c.toNat : Int)) := by
    intro l
    induction l with
    | nil =>
      intro ys hl _
      cases ys with
      | nil => exact .nil
      | cons _ _ => simp at hl
    | cons c l ih =>
      intro ys hl h
      cases ys with
      | nil => simp at hl
      | cons y ys =>
        obtain ⟨c', u, hc, rfl⟩ := h 0 y rfl
        cases (show c = c' by simpa using hc)
        exact .cons _ _ (ih ys (by simpa using hl) fun j v hv => by simpa using h (j + 1) v (by simpa using hv))
  refine key b.toList acc'.toList (by simpa using hacc.1) fun j v hv => ?_
  obtain ⟨c, u, hb, e⟩ := hacc.2 j v (by simpa using hv)
  exact ⟨c, u, by simpa using hb, e⟩
end
end Mine
end

section
set_option maxRecDepth 100000
open PySem PySem.W PySem.Calls PyProof.Rows
namespace Mine
section
variable {prog : Program} {w : World} {A : Around} {s : Shared}
theorem call_cells_C {R : Flow → Shared → Prop} {name : Str} {params : Arguments} {body : List Stmt} {scope : Scope}
    {pm cd doc : Value} {a : Addr} {o : Obj} {args : List Value} {binds : List (Str × Value)}
    (hroom : A.depth < recursionLimit) (ho : s.heap.get? a = some o) (hdata : o.data = .func (docDef name params body scope pm cd doc)) (hlim : s.heap.NoLimit) (hcd : s.heap.CodeRec cd name)
    (hbind : bindArgs (docDef name params body scope pm cd doc) ⟨args, []⟩ = pure binds)
    (hkind : ∀ x ∈ binds, scope.names.lookup x.1 = some .local ∨ (scope.names.lookup x.1 = some .cell ∧ ((cellsFrom (s.heap.objs.size + 1) scope.names []).lookup x.1).isSome = true))
    (hnd : ((cellsFrom 0 scope.names []).map (·.1)).Nodup)
    (h : ∀ h₁ tk cells, Fr s.heap s.heap.objs.size h₁ (bindL (envOfC name scope s.heap.objs.size a cd).kindOf binds fun _ => none) → News s.heap s.heap.objs.size h₁ cells →
      CellsAre (bindC (envOfC name scope s.heap.objs.size a cd).kindOf binds fun _ => none) (cellsFrom (s.heap.objs.size + 1) scope.names []) cells →
      wpC (model prog w) (A.deeper (envOfC name scope s.heap.objs.size a cd)) (execs body (envOfC name scope s.heap.objs.size a cd))
        (fun f s' => R (.ret (match f with | .ret v => v | _ => .none)) s') { s with heap := h₁, toks := tk })
    (hco : scope.isCoroutine = false) (hgen : scope.isGenerator = false) (hk : scope.kind = .function) :
    codeC (model prog w) A (.call (.ref a) ⟨args, []⟩) R s := by
  refine codeC_call_function hroom ho hdata hco hgen rfl hcd ?_
  rw [hbind]
  refine wpAny_pure (wpAny_newFunctionEnv_cells hk hkind fun env he s' x => ?_)
  subst he
  refine ⟨hlim.keeps x.toInCall.keep, codeC_func ?_⟩
  obtain ⟨h₁, tk, rfl, _⟩ := x.done
  obtain ⟨cells, N, Y⟩ := Cl.news (h₀ := s.heap) (Nat.le_refl _) fun n c hm => ⟨x.cell n c (lookup_of_mem_nodup (cellsFrom_names scope.names 0 (s.heap.objs.size + 1) [] [] rfl ▸ hnd) hm), x.above n c hm⟩
  exact h h₁ tk cells ⟨x.toInCall.ns, x.toInCall.keep, x.toInCall.fresh⟩ N Y
end

theorem fr_hide {h₀ h : Heap} {L P : Addr} {m : Str → Option Value} (F : Fr h₀ L h m) : Fr (hideAll h₀ [P]) L h m := ⟨F.ns, fun b o e => F.keep b o (of_hideAll _ e), Nat.le_trans (Nat.le_of_eq (hideAll_size _ _)) F.above⟩
theorem news_hide {h₀ h : Heap} {L P : Addr} {news : List (Addr × Obj)} (N : News h₀ L h news) : News (hideAll h₀ [P]) L h news := fun p hp => ⟨(N p hp).1, (N p hp).2.1, by
  cases q : (hideAll h₀ [P]).get? p.1 with
  | none => rfl
  | some o => have := of_hideAll _ q; rw [(N p hp).2.2] at this; cases this⟩

theorem news_cons {h₀ h : Heap} {L P : Addr} {o : Obj} {news : List (Addr × Obj)} (N : News h₀ L h news) (h1 : h.get? P = some o) (h2 : P ≠ L) (h3 : h₀.get? P = none) : News h₀ L h (news ++ [(P, o)]) := fun p hp => by
  rcases List.mem_append.mp hp with hp | hp
  · exact N p hp
  · rw [List.mem_singleton.mp hp]; exact ⟨h1, h2, h3⟩

end Mine
end

section
set_option maxRecDepth 100000
open PySem PySem.W PySem.Calls PyProof.Rows
namespace Mine
section
variable {M : Model} {A : Around} {s : Shared} {env : Env}
theorem wpC_For {target iter body orelse pos} {Q : Flow → Shared → Prop}
    (h : wpAny M A (eval iter env) (fun x s₁ => Stop (wpAny M A (pyIter x) (fun it s₂ => codeC M A (.forLoop target it body orelse env) Q s₂) NoE s₁)) NoE s)
    (hs : ∀ x, foldedSetIterable iter env x = pure x) :
    wpC M A (exec (.For target iter body orelse pos) env) Q s := by
  rw [exec_For]
  exact wpC_bind (wpC_standAt (wpC_leaf (wpAny_mono h (fun x s₁ h₁ => wpC_eq (hs x) (wpC_bind (wpC_standAt (wpC_leaf (wpAny_holding
    (wpAny_mono h₁.out (fun it s₂ h₂ => wpC_runOwn h₂) fun _ _ h' => h')))))) fun _ _ h' => h')))
end
section
variable {prog : Program} {w : World} {A : Around} {s : Shared}
theorem codeC_forLoop {target it body env} {R : Flow → Shared → Prop} (I : Nat → Shared → Prop)
    (turn : ∀ n s, I n s → wpAny (model prog w) A (pyNext it) (fun r s₁ => match r with
      | none => R .next s₁
      | some v => wpAny (model prog w) A (assign target env v) (fun _ s₂ => wpC (model prog w) A (execs body env) (fun f s₃ => match f with
          | .next | .cont => ∃ m, m < n ∧ I m s₃
          | .brk => R .next s₃
          | .ret v => R (.ret v) s₃) s₂) NoE s₁) NoE s)
    (n : Nat) (h : I n s) (ht : ∀ v, letOwnedTupleGo target it v = pure ()) : codeC (model prog w) A (.forLoop target it body [] env) R s := by
  induction n using Nat.strongRecOn generalizing s with
  | ind n ih =>
    refine codeC_of_tree rfl ?_
    rw [Around.under_of_weight (c := .forLoop target it body [] env) rfl]
    show wpC _ A ((forTurn target it body [] env).onRaise (fun x => do noteFrame x env; theTreesLotGoes x)) _ s
    refine wpC_onRaise ?_
    simp only [forTurn]
    refine wpC_bind (wpC_standAt (wpC_bind (wpC_onRaise (wpC_of_any (wpAny_mono (turn n s h) (fun r s₁ h₁ => ?_) fun _ _ h' => h')))))
    cases r with
    | none => exact wpC_pure ⟨rfl, codeC_of_any (codeAny_block (wpAny_execs_nil h₁))⟩
    | some v =>
      refine wpC_eq (ht v) ?_
      refine wpC_leaf (wpAny_mono h₁ (fun _ s₂ h₂ => wpC_bind (wpC_mono h₂ fun f s₃ h₃ => ?_)) fun _ _ h' => h')
      cases f with
      | next => obtain ⟨m, hm, hI⟩ := h₃; exact wpC_pure ⟨rfl, ih m hm hI⟩
      | cont => obtain ⟨m, hm, hI⟩ := h₃; exact wpC_pure ⟨rfl, ih m hm hI⟩
      | brk => exact wpC_pure h₃
      | ret v => exact wpC_pure h₃
end

structure LSt (hB : Heap) (L D P : Addr) (ys : List Value) (os0 : OsState) (m : Str → Option Value) (ps : Array Value) (s : Shared) : Prop where
  F : Fr hB L s.heap m
  num : m (Str.ofString "numbers") = some (.ref D)
  N : News hB L s.heap [(D, LCg.lst ys), (P, tabObj ps)]
  tri : TriplesOk ps.toList
  hit : Hit gpos ps
  gens : AllBare s.gens
  os : s.os = os0
def itObj (i j : Int) : Obj := { cls := .type "range_iterator", dict := none, data := .fields #[rawInt i, rawInt j, rawInt 1], slots := #[] }

section
variable {prog : Program} {w : World} {A : Around} {s : Shared} {hB : Heap} {L D P : Addr} {ys : List Value} {os0 : OsState} {m : Str → Option Value} {ps : Array Value}
theorem LSt.upd {m' : Str → Option Value} {h' : Heap} {tk : Nat} (S : LSt hB L D P ys os0 m ps s) (F' : Fr hB L h' m') (hn : m' (Str.ofString "numbers") = some (.ref D)) (k : ∀ b o, b ≠ L → (o = LCg.lst ys ∨ o = tabObj ps) → s.heap.get? b = some o → h'.get? b = some o) :
    LSt hB L D P ys os0 m' ps { s with heap := h', toks := tk } :=
  ⟨F', hn, fun p hp => ⟨k _ _ (S.N p hp).2.1 (by rcases List.mem_cons.mp hp with e | hp; exact .inl (e ▸ rfl); exact .inr ((List.mem_singleton.mp hp) ▸ rfl)) (S.N p hp).1, (S.N p hp).2⟩, S.tri, S.hit, S.gens, S.os⟩

theorem for3 {env : Env} {body : List Stmt} {px : Pos} {r : Addr} {t u v : Tok} {R : Flow → Shared → Prop} (hL : env.locals = L) (hk : env.scope.kind = .function) (hx : env.kindOf (Str.ofString "k") = some .local) (hh : A.handled = none)
    (hr : IsRange s.heap r 0 3 1 t u v) (h0 : LSt hB L D P ys os0 m ps s)
    (turn : ∀ (k : Int) tk I oI m ps s', 0 ≤ k → k < 3 → m (Str.ofString "k") = some (.int k tk) → LSt hB L D P ys os0 m ps s' → I ≠ L → hB.get? I = none → oI.cls ≠ .none → s'.heap.get? I = some oI →
      wpC (model prog w) A (execs body env) (fun f s'' => f = .next ∧ (∃ m ps, LSt hB L D P ys os0 m ps s'') ∧ s''.heap.get? I = some oI) s')
    (done : ∀ m ps s', LSt hB L D P ys os0 m ps s' → R .next s') :
    wpAny (model prog w) A (pyIter (.ref r)) (fun it s₂ => codeC (model prog w) A (.forLoop (.Name (Str.ofString "k") px) it body [] env) R s₂) NoE s := by
  refine wpAny_pyIter_range hr (by decide) ?_
  have hp : (env.scope.kind == .class || (env.scope.kind == .module && env.locals != env.globals)) = false := by rw [hk]; rfl
  have hIL : s.heap.objs.size ≠ L := Nat.ne_of_gt h0.F.ns.lt
  have hIB : hB.get? s.heap.objs.size = none := by
    cases hq : hB.get? s.heap.objs.size with
    | none => rfl
    | some o' => exact absurd (Heap.lt_size (h0.F.keep _ _ hq)) (Nat.lt_irrefl _)
  refine codeC_forLoop (fun n s' => ∃ m ps, LSt hB L D P ys os0 m ps s' ∧ n ≤ 3 ∧ s'.heap.get? s.heap.objs.size = some (itObj (3 - n) n)) ?_ 3 ⟨m, ps, ?_, Nat.le_refl _, Heap.get?_push_size _ rfl⟩ fun _ => rfl
  · rintro n s' ⟨m', ps', S, hn, hI⟩
    have off : ∀ {o}, s'.heap.get? s.heap.objs.size = some o → o = LCg.lst ys ∨ o = tabObj ps' → False := fun e q => by
      rw [hI] at e
      cases e
      rcases q with q | q
      · have := congrArg Obj.cls q; simp [itObj, LCg.lst] at this
      · have := congrArg Obj.cls q; simp [itObj] at this
    cases n with
    | zero =>
      refine wpAny_pyNext_range_end hh hI (by decide) fun h' hx' => ?_
      refine done m' ps' _ (S.upd (tk := s'.toks) ⟨S.F.ns.extBut hx' (Ne.symm hIL), fun b o e => hx' b o (fun q => by rw [q, hIB] at e; cases e) (S.F.keep b o e), S.F.above⟩ S.num fun b o _ hb e => hx' b o (fun q => off (q ▸ e) hb) e)
    | succ n =>
      refine wpAny_pyNext_range_item hI (by omega) fun h' hit hs => ?_
      refine wpAny_assign_Name (wpAny_storeName_local hx (hL ▸ S.F.ns.sameBut hs (Ne.symm hIL)) (fun h₂ hn₂ hs₂ => ?_) hp)
      subst hL
      have hI₂ : h₂.get? s.heap.objs.size = some (itObj (3 - n) n) := by
        refine (hs₂.2 _ hIL).trans (hit.trans ?_)
        unfold itObj
        have e1 : ((3 : Int) - ((n + 1 : Nat) : Int)) + 1 = 3 - n := by omega
        have e2 : ((n + 1 : Nat) : Int) - 1 = n := by omega
        rw [e1, e2]
      have S₂ : LSt hB env.locals D P ys os0 (fun y => if y = Str.ofString "k" then some (.int (3 - ((n + 1 : Nat) : Int)) s'.toks) else m' y) ps' { s' with heap := h₂, toks := s'.toks + 1 + 1 } := by
        refine S.upd ⟨hn₂, fun b o e => ?_, S.F.above⟩ ((if_neg (by decide)).trans S.num) fun b o hb hn e => ?_
        · exact hs₂.extBut b o (Nat.ne_of_lt (Nat.lt_of_lt_of_le (Heap.lt_size e) S.F.above)) (hs.extBut b o (fun q => by rw [q, hIB] at e; cases e) (S.F.keep b o e))
        · exact hs₂.extBut b o hb (hs.extBut b o (fun q => off (q ▸ e) hn) e)
      refine wpC_mono (turn _ s'.toks s.heap.objs.size _ _ ps' _ (by omega) (by omega) (if_pos rfl) S₂ hIL hIB (by simp [itObj]) hI₂) ?_
      rintro f s₃ ⟨rfl, ⟨m₃, ps₃, S₃⟩, hI₃⟩
      exact ⟨n, Nat.lt_succ_self _, m₃, ps₃, S₃, by omega, hI₃⟩
  · exact h0.upd (tk := s.toks) (h0.F.push _) h0.num fun b o _ _ e => Heap.get?_push_of_some _ e
end
end Mine
end

section
set_option maxRecDepth 100000
open PySem PySem.W PySem.Calls PyProof.Rows
namespace Mine
theorem fr_val {hB h : Heap} {L : Addr} {W : Int} {t : Tok} {x : Str} {m : Str → Option Value} (F : Fr hB L h (fun y => if y = x then some (.int W t) else m y)) (hb : W.natAbs < 2 ^ 190) :
    ∃ W : Int, W.natAbs < 2 ^ 190 ∧ Fr hB L h (fun y => if y = x then some (.int W t) else m y) := ⟨W, hb, F⟩
theorem map2 {m : Str → Option Value} {x z : Str} {v v' : Value} (h : m x = some v) (h' : m z = some v') : m = fun y => if y = x then some v else if y = z then some v' else m y := by
  funext y
  split
  · rename_i e; rw [e]; exact h
  · split
    · rename_i e; rw [e]; exact h'
    · rfl
theorem news_head {h₀ h : Heap} {L : Addr} {p : Addr × Obj} {r : List (Addr × Obj)} (N : News h₀ L h (p :: r)) : News h₀ L h [p] := fun q hq => N q (by rw [List.mem_singleton.mp hq]; exact List.mem_cons_self ..)
section
variable {w : World} {A : Around} {s : Shared} {mean : ExcName → Option Value} {mg mb : Str → Option Value} {hB : Heap} {L f : Addr} {m : Str → Option Value} {cn : Str} {cs : Scope} {cd : Value}
theorem pack_call {x : Str} {big : Int} {u : Tok} {p2 p3 p4 : Pos} {Q : Value → Shared → Prop} (G : Gd w mean mg mb hB) (F : Fr hB L s.heap m) (hd : A.depth + 1 < recursionLimit) (hh : A.handled = none) (hg : A.guards = some [])
    (hcs : cs.kind = .function) (hx : (envOfC cn cs L f cd).kindOf x = some .local) (hv : (envOfC cn cs L f cd).kindOf (Str.ofString "varint_pack") = some .globalImplicit) (hdx : (x == ("__debug__" : Str)) = false)
    (hm : m x = some (.int big u)) (hb : big.natAbs < 2 ^ 190)
    (h : ∀ h' t tk, (∀ b o, s.heap.get? b = some o → h'.get? b = some o) → Q (.bytes (packB big).toArray t) { s with heap := h', toks := tk }) :
    wpC (model PySem.Challenge.rw_vj0001_01.row.prog w) A (eval (.Call (.Name (Str.ofString "varint_pack") p2) [.Name x p3] [] p4) (envOfC cn cs L f cd)) Q s := by
  have X := G.X
  revert X
  k_fill
  intro X
  refine wpC_Call_Name (nameX_K (v := .ref 35) F X G.T (by k_is) ?_ hcs hv (by decide))
  refine wpC_callWith (P := fun h => (MineHead.hd.heap_39 w.params).In h) rfl (keeps_K (by k_is)) ?_
  show wpAny _ _ (evalArgs (.ref 35) true [(false, eval (.Name x p3) (envOfC cn cs L f cd))] []) _ _ _
  refine evalArgs_plain (Calls.spliced_cons (nameX_L F hm (Calls.spliced_nil ⟨X.keeps F.keep, ?_⟩) hcs hx hdx))
  exact pack_ok (G.keeps F.keep) hd hh hg hb h
theorem st_pack {big : Int} {u : Tok} {p1 p2 p3 p4 p5 : Pos} {Q : Flow → Shared → Prop} (G : Gd w mean mg mb hB) (F : Fr hB L s.heap m) (hd : A.depth + 1 < recursionLimit) (hh : A.handled = none) (hg : A.guards = some [])
    (hcs : cs.kind = .function) (hx : (envOfC cn cs L f cd).kindOf (Str.ofString "wanted") = some .local) (hy : (envOfC cn cs L f cd).kindOf (Str.ofString "octets") = some .local) (hv : (envOfC cn cs L f cd).kindOf (Str.ofString "varint_pack") = some .globalImplicit)
    (hsw : swapsWith (.Call (.Name (Str.ofString "varint_pack") p2) [.Name (Str.ofString "wanted") p3] [] p4) (some (.Name (Str.ofString "octets") p1)) p5.line (envOfC cn cs L f cd) = pure false)
    (hm : m (Str.ofString "wanted") = some (.int big u)) (hb : big.natAbs < 2 ^ 190)
    (h : ∀ h' tk t, Fr hB L h' (fun y => if y = Str.ofString "octets" then some (.bytes (packB big).toArray t) else m y) → (∀ b o, b ≠ L → s.heap.get? b = some o → h'.get? b = some o) → Q .next { s with heap := h', toks := tk }) :
    wpC (model PySem.Challenge.rw_vj0001_01.row.prog w) A (exec (.Assign [.Name (Str.ofString "octets") p1] (.Call (.Name (Str.ofString "varint_pack") p2) [.Name (Str.ofString "wanted") p3] [] p4) p5) (envOfC cn cs L f cd)) Q s := by
  refine wpC_Assign_Name (pack_call G F hd hh hg hcs hx hv (by decide) hm hb fun h1 t tk1 k1 => ?_) hsw
  have F1 : Fr hB L h1 m := F.keeps k1
  exact wpAny_storeName_local hy F1.ns (fun h' hn hs => h h' _ t (F1.set hn hs) fun b o hne e => (hs.2 b hne).trans (k1 b o e)) (by show (cs.kind == .class || (cs.kind == .module && L != mainGlobals)) = false; rw [hcs]; rfl)
end
end Mine
end

section
set_option maxRecDepth 100000
open PySem PySem.W PySem.Calls PyProof.Rows
namespace Mine
section
variable {prog : Program} {w : World} {A : Around} {E : Value → Shared → Prop} {s : Shared}
theorem all_true (n : Nat) : (List.range n).all (fun _ => true) = true := List.all_eq_true.mpr fun _ _ => rfl
theorem ints_eqAt {vs vs' : List Value} {ns : List Int} (hi : IntsAre vs ns) (hj : IntsAre vs' ns) : ∀ j (h1 : j < vs.toArray.size) (h2 : j < vs'.toArray.size), SeqAt.EqAt A s vs.toArray[j] vs'.toArray[j] true := by
  intro j h1 h2
  obtain ⟨n, t, e1, hn⟩ := IntsAre.at hi j vs.toArray[j] (by simp)
  obtain ⟨n', t', e2, hn'⟩ := IntsAre.at hj j vs'.toArray[j] (by simp)
  rw [hn] at hn'
  cases hn'
  rw [e1, e2]
  have := SeqAt.EqAt.int_int (A := A) (s := s) n t n t'
  rwa [beq_self_eq_true] at this
theorem ne_same {l b : Addr} {vs vs' : List Value} {ns : List Int} {Q : Value → Shared → Prop} (hl : s.heap.IsList l vs.toArray) (hb : s.heap.IsList b vs'.toArray) (hi : IntsAre vs ns) (hj : IntsAre vs' ns) (hu : A.units < cLine)
    (h : Q (.bool false) s) : wpAny (model prog w) A (compareOp .NotEq (.ref l) (.ref b)) Q E s := by
  refine SeqAt.RcNeAt.lists (e := fun _ => true) hl hb (by simp [hi.length, hj.length]) hu (ints_eqAt hi hj) prog w E Q ?_
  rw [all_true]
  exact h
theorem eq_same {l b : Addr} {vs vs' : List Value} {ns : List Int} {Q : Value → Shared → Prop} (hl : s.heap.IsList l vs.toArray) (hb : s.heap.IsList b vs'.toArray) (hi : IntsAre vs ns) (hj : IntsAre vs' ns) (hu : A.units < cLine)
    (h : Q (.bool true) s) : wpAny (model prog w) A (compareOp .Eq (.ref l) (.ref b)) Q E s := by
  refine SeqAt.eq_listAt (e := fun _ => true) hl hb (by simp [hi.length, hj.length]) hu (ints_eqAt hi hj) ?_
  rw [all_true]
  exact h
end
section
variable {M : Model} {A : Around} {E : Value → Shared → Prop} {s : Shared} {env : Env}
theorem Call_1 {id : Str} {p2 p4 : Pos} {e : Expr} {fv : Value} {P : Heap → Prop} {Q : Value → Shared → Prop} (hf : ∀ Q, Q fv s → wpAny M A (eval (.Name id p2) env) Q E s)
    (hk : ∀ h, P h → ∃ k, (k = Keeper.frame ∨ k = Keeper.machine ∨ k = Keeper.boundFrame) ∧ Looks M h (keeperOf fv) k)
    (hse : starEach [e] env = [(false, eval e env)])
    (ha : wpAny M A (eval e env) (fun v s₁ => P s₁.heap ∧ wpAny M A (call fv [v]) Q E s₁) E s) : wpAny M A (eval (.Call (.Name id p2) [e] [] p4) env) Q E s := by
  show wpAny M A (do callWith p4 (← eval (.Name id p2) env) [] (backTo p4 (starEach [e] env)) (backToKw p4 (keywordEach [] env))) Q E s
  refine wpAny_bind (hf _ ?_)
  rw [hse]
  refine callWith_of (P := P) rfl hk ?_
  show wpAny _ _ (evalArgs fv true [(false, eval e env)] []) _ _ _
  exact evalArgs_plain (Calls.spliced_cons (wpAny_mono ha (fun v s₁ h => Calls.spliced_nil h) fun _ _ x => x))
end
end Mine
end

section
set_option maxRecDepth 100000
open PySem PySem.W PySem.Calls PyProof.Rows
namespace Mine
section
variable {w : World} {A : Around} {E : Value → Shared → Prop} {s : Shared} {mean : ExcName → Option Value} {mg mb : Str → Option Value} {hB : Heap} {L f : Addr} {m : Str → Option Value} {cn : Str} {cs : Scope} {cd : Value}
theorem eval_list {x : Str} {b : Array UInt8} {t : Tok} {b2 b3 b4 : Pos} {Q : Value → Shared → Prop} (G : Gd w mean mg mb hB) (F : Fr hB L s.heap m) (hh : A.handled = none)
    (hcs : cs.kind = .function) (hx : (envOfC cn cs L f cd).kindOf x = some .local) (hg : (envOfC cn cs L f cd).kindOf (Str.ofString "list") = some .globalImplicit) (hdx : (x == ("__debug__" : Str)) = false)
    (hm : m x = some (.bytes b t)) (hz : b.size ≤ sizeLine)
    (h : ∀ l h' tk ys, (∀ b o, s.heap.get? b = some o → h'.get? b = some o) → h'.IsList l ys.toArray → IntsAre ys (KBw.bInts b) → Q (.ref l) { s with heap := h', toks := tk }) :
    wpAny (model PySem.Challenge.rw_vj0001_01.row.prog w) A (eval (.Call (.Name (Str.ofString "list") b2) [.Name x b3] [] b4) (envOfC cn cs L f cd)) Q E s := by
  have X := G.X
  revert X
  k_fill
  intro X
  refine Call_1 (P := fun _ => True) (fv := .type "list") (fun Q hQ => nameX_B F X G.T (by k_is) (by rfl) (by decide) hQ hcs hg (by decide)) (keeps_plain (fun _ e => nomatch e)) rfl (nameX_L F hm ⟨trivial, ?_⟩ hcs hx hdx)
  exact call_list_bytes hh b t (fun h' tk ys k l i => h _ h' tk ys k l i) hz

theorem eval_meant {e : Expr} {n0 : Int} {ns : List Int} {b1 b5 : Pos} {Q : Value → Shared → Prop} (G : Gd w mean mg mb hB) (F : Fr hB L s.heap m) (hd : A.depth < recursionLimit) (hh : A.handled = none)
    (hcs : cs.kind = .function) (hg : (envOfC cn cs L f cd).kindOf (Str.ofString "_law_meant") = some .globalImplicit) (hse : starEach [e] (envOfC cn cs L f cd) = [(false, eval e (envOfC cn cs L f cd))])
    (hr : ∀ n ∈ n0 :: ns, 0 ≤ n ∧ n < 256) (hz : (n0 :: ns).length ≤ 30)
    (he : ∀ Q : Value → Shared → Prop, (∀ l h' tk ys, (∀ b o, s.heap.get? b = some o → h'.get? b = some o) → h'.IsList l ys.toArray → IntsAre ys (n0 :: ns) → Q (.ref l) { s with heap := h', toks := tk }) → wpAny (model PySem.Challenge.rw_vj0001_01.row.prog w) A (eval e (envOfC cn cs L f cd)) Q E s)
    (h : ∀ h' t tk, (∀ b o, s.heap.get? b = some o → h'.get? b = some o) → Q (.int (meantI (n0 :: ns)) t) { s with heap := h', toks := tk }) :
    wpAny (model PySem.Challenge.rw_vj0001_01.row.prog w) A (eval (.Call (.Name (Str.ofString "_law_meant") b1) [e] [] b5) (envOfC cn cs L f cd)) Q E s := by
  have X := G.X
  revert X
  k_fill
  intro X
  refine Call_1 (P := fun h => (MineHead.hd.heap_39 w.params).In h) (fv := .ref 42) (fun Q hQ => nameX_K F X G.T (by k_is) hQ hcs hg (by decide)) (keeps_K (by k_is)) hse (he _ fun l h' tk ys k hl hi => ⟨(X.keeps F.keep).keeps k, ?_⟩)
  exact meant_ok (s := { s with heap := h', toks := tk }) ((G.keeps F.keep).keeps k) hd hh hl hi hr hz fun h2 t2 tk2 k2 => h _ _ _ fun b o e => k2 b o (k b o e)

theorem eval_short {e : Expr} {ns : List Int} {b1 b5 : Pos} {Q : Value → Shared → Prop} (G : Gd w mean mg mb hB) (F : Fr hB L s.heap m) (hd : A.depth < recursionLimit) (hh : A.handled = none)
    (hcs : cs.kind = .function) (hg : (envOfC cn cs L f cd).kindOf (Str.ofString "_law_short") = some .globalImplicit) (hse : starEach [e] (envOfC cn cs L f cd) = [(false, eval e (envOfC cn cs L f cd))])
    (hz : ns.length ≤ 30)
    (he : ∀ Q : Value → Shared → Prop, (∀ l h' tk ys, (∀ b o, s.heap.get? b = some o → h'.get? b = some o) → h'.IsList l ys.toArray → IntsAre ys ns → Q (.ref l) { s with heap := h', toks := tk }) → wpAny (model PySem.Challenge.rw_vj0001_01.row.prog w) A (eval e (envOfC cn cs L f cd)) Q E s)
    (h : ∀ l h' tk ys, (∀ b o, s.heap.get? b = some o → h'.get? b = some o) → h'.IsList l ys.toArray → IntsAre ys (shortI ns) → Q (.ref l) { s with heap := h', toks := tk }) :
    wpAny (model PySem.Challenge.rw_vj0001_01.row.prog w) A (eval (.Call (.Name (Str.ofString "_law_short") b1) [e] [] b5) (envOfC cn cs L f cd)) Q E s := by
  have X := G.X
  revert X
  k_fill
  intro X
  refine Call_1 (P := fun h => (MineHead.hd.heap_39 w.params).In h) (fv := .ref 49) (fun Q hQ => nameX_K F X G.T (by k_is) hQ hcs hg (by decide)) (keeps_K (by k_is)) hse (he _ fun l h' tk ys k hl hi => ⟨(X.keeps F.keep).keeps k, ?_⟩)
  exact short_ok (s := { s with heap := h', toks := tk }) ((G.keeps F.keep).keeps k) hd hh hl hi hz fun h2 l2 vs2 tk2 k2 i2 j2 => h _ _ _ _ (fun b o e => k2 b o (k b o e)) i2 j2

theorem islist_keeps {h h' : Heap} {l : Addr} {xs : Array Value} (x : h.IsList l xs) (k : ∀ b o, h.get? b = some o → h'.get? b = some o) : h'.IsList l xs := let ⟨o, ho, r⟩ := x; ⟨o, k _ _ ho, r⟩

theorem st_check {W : Int} {b : Array UInt8} {t u : Tok} {n0 : Int} {ns : List Int} {body : List Stmt} {a1 a2 a3 a4 a5 b1 b2 b3 b4 b5 b6 b7 c1 c2 c3 c4 c5 c6 c7 c8 c9 d1 d2 : Pos} {Q : Flow → Shared → Prop} (G : Gd w mean mg mb hB) (F : Fr hB L s.heap m) (hd : A.depth < recursionLimit) (hh : A.handled = none) (hu : A.units < cLine)
    (hcs : cs.kind = .function) (hx : (envOfC cn cs L f cd).kindOf (Str.ofString "octets") = some .local) (hy : (envOfC cn cs L f cd).kindOf (Str.ofString "wanted") = some .local)
    (g1 : (envOfC cn cs L f cd).kindOf (Str.ofString "isinstance") = some .globalImplicit) (g2 : (envOfC cn cs L f cd).kindOf (Str.ofString "bytes") = some .globalImplicit) (g3 : (envOfC cn cs L f cd).kindOf (Str.ofString "_law_meant") = some .globalImplicit)
    (g4 : (envOfC cn cs L f cd).kindOf (Str.ofString "list") = some .globalImplicit) (g5 : (envOfC cn cs L f cd).kindOf (Str.ofString "_law_short") = some .globalImplicit)
    (hm : m (Str.ofString "octets") = some (.bytes b t)) (hw : m (Str.ofString "wanted") = some (.int W u)) (hbs : KBw.bInts b = n0 :: ns) (hz : (n0 :: ns).length ≤ 30) (e1 : meantI (n0 :: ns) = W) (e2 : shortI (n0 :: ns) = n0 :: ns)
    (h : ∀ h' tk, (∀ b o, s.heap.get? b = some o → h'.get? b = some o) → Q .next { s with heap := h', toks := tk }) :
    wpAny (model PySem.Challenge.rw_vj0001_01.row.prog w) A (exec (.If (.BoolOp .Or [.UnaryOp .Not (.Call (.Name (Str.ofString "isinstance") a1) [.Name (Str.ofString "octets") a2, .Name (Str.ofString "bytes") a3] [] a4) a5,
      .Compare (.Call (.Name (Str.ofString "_law_meant") b1) [.Call (.Name (Str.ofString "list") b2) [.Name (Str.ofString "octets") b3] [] b4] [] b5) [.NotEq] [.Name (Str.ofString "wanted") b6] b7,
      .Compare (.Call (.Name (Str.ofString "_law_short") c1) [.Call (.Name (Str.ofString "list") c2) [.Name (Str.ofString "octets") c3] [] c4] [] c5) [.NotEq] [.Call (.Name (Str.ofString "list") c6) [.Name (Str.ofString "octets") c7] [] c8] c9] d1) body [] d2) (envOfC cn cs L f cd)) Q E s := by
  have X := G.X
  revert X
  k_fill
  intro X
  have hr : ∀ n ∈ n0 :: ns, 0 ≤ n ∧ n < 256 := fun n hn => KBw.ints_in (hbs ▸ hn)
  have hsz : b.size ≤ sizeLine := by
    have := KBw.ints_length b
    rw [hbs] at this
    exact Nat.le_trans (by omega) (show 30 ≤ sizeLine by decide)
  refine wpAny_If (isTrue_or (isTrue_not (isTrue_plain ?_)))
  show wpAny _ A (do callWith a4 (← eval (.Name (Str.ofString "isinstance") a1) (envOfC cn cs L f cd)) [] (backTo a4 (starEach [.Name (Str.ofString "octets") a2, .Name (Str.ofString "bytes") a3] (envOfC cn cs L f cd))) (backToKw a4 (keywordEach [] (envOfC cn cs L f cd)))) _ _ s
  refine wpAny_bind (nameX_B F X G.T (by k_is) (v := .builtin "isinstance") (by rfl) (by decide) ?_ hcs g1 (by decide))
  refine callWith_of (P := fun _ => True) rfl (keeps_plain (fun _ e => nomatch e)) ?_
  show wpAny _ _ (evalArgs (.builtin "isinstance") true [(false, eval (.Name (Str.ofString "octets") a2) (envOfC cn cs L f cd)), (false, eval (.Name (Str.ofString "bytes") a3) (envOfC cn cs L f cd))] []) _ _ _
  refine evalArgs_plain (Calls.spliced_cons (nameX_L F hm (Calls.spliced_cons (nameX_B F X G.T (by k_is) (v := .type "bytes") (by rfl) (by decide) (Calls.spliced_nil ⟨trivial, ?_⟩) hcs g2 (by decide))) hcs hx (by decide)))
  refine kia_one (b := true) kitx_bytes (X.keeps F.keep) trivial (by kit_is) (by simp) fun tk1 => ?_
  refine wpAny_truthy_bool ?_
  simp only [Bool.not_true, Bool.false_eq_true, if_false]
  refine isTrue_or (wpAny_isTrue_Compare1 ?_)
  refine eval_meant (s := { s with toks := tk1 }) G F hd hh hcs g3 rfl hr hz (fun Q hQ => eval_list (s := { s with toks := tk1 }) G F hh hcs hx g4 (by decide) hm hsz fun l h' tk ys k hl hi => hQ l h' tk ys k hl (hbs ▸ hi)) fun h1 t1 tk2 k1 => ?_
  have F1 : Fr hB L h1 m := F.keeps k1
  refine nameX_L (s := { s with heap := h1, toks := tk2 }) F1 hw (P.ne_int (wpAny_truthy_bool ?_)) hcs hy (by decide)
  have e1' : (meantI (n0 :: ns) != W) = false := by rw [e1]; simp
  rw [e1']
  simp only [Bool.false_eq_true, if_false]
  refine isTrue_or (wpAny_isTrue_Compare1 ?_)
  refine eval_short (s := { s with heap := h1, toks := tk2 }) G F1 hd hh hcs g5 rfl hz (fun Q hQ => eval_list (s := { s with heap := h1, toks := tk2 }) G F1 hh hcs hx g4 (by decide) hm hsz fun l h' tk ys k hl hi => hQ l h' tk ys k hl (hbs ▸ hi)) fun l3 h3 tk3 ys3 k3 hl3 hi3 => ?_
  have F3 : Fr hB L h3 m := F1.keeps k3
  refine eval_list (s := { s with heap := h3, toks := tk3 }) G F3 hh hcs hx g4 (by decide) hm hsz fun l4 h4 tk4 ys4 k4 hl4 hi4 => ?_
  refine ne_same (s := { s with heap := h4, toks := tk4 }) (islist_keeps hl3 k4) hl4 (e2 ▸ hi3) (hbs ▸ hi4) hu (wpAny_truthy_bool ?_)
  simp only [Bool.false_eq_true, if_false]
  refine isTrue_or_nil ?_
  simp only [Bool.false_eq_true, if_false]
  exact wpAny_execs_nil (h _ _ fun b o e => k4 b o (k3 b o (k1 b o e)))
end
end Mine
end

section
set_option maxRecDepth 100000
open PySem PySem.W PySem.Calls PyProof.Rows
namespace Mine
theorem wb0 (p c d : Int) (hp0 : 0 < p) (hp : p ≤ 1208925819614629174706176) (h2 : -1 ≤ c) (h3 : c ≤ 1) (h4 : 0 ≤ d) (h5 : d < 9) : (1 * p * c + d - 4).natAbs < 1000 * 1208925819614629174706176 := by
  have : c = -1 ∨ c = 0 ∨ c = 1 := by omega
  rcases this with rfl | rfl | rfl
  · rw [show 1 * p * -1 = -p by omega]; omega
  · rw [Int.mul_zero]; omega
  · rw [show 1 * p * 1 = p by omega]; omega
theorem wbound (a c d : Int) (h0 : 0 ≤ a) (h1 : a < 80) (h2 : -1 ≤ c) (h3 : c ≤ 1) (h4 : 0 ≤ d) (h5 : d < 9) : (1 * 2 ^ a.toNat * c + d - 4).natAbs < 2 ^ 190 := by
  have hn : (2 : Nat) ^ a.toNat ≤ 2 ^ 80 := Nat.pow_le_pow_right (by decide) (by omega)
  have hp : (2 : Int) ^ a.toNat ≤ 1208925819614629174706176 := by
    have e : ((2 ^ a.toNat : Nat) : Int) = (2 : Int) ^ a.toNat := by simp
    rw [← e]
    exact Int.ofNat_le.mpr hn
  have hp0 : (0 : Int) < 2 ^ a.toNat := Int.pow_pos (by decide)
  exact Nat.lt_trans (wb0 _ c d hp0 hp h2 h3 h4 h5) (by decide)
def Small (W : Int) : Prop := W.natAbs < 2 ^ 190
theorem with_val {G : Prop} {hB h : Heap} {L : Addr} {W : Int} {t : Tok} {x : Str} {m : Str → Option Value} (F : Fr hB L h (fun y => if y = x then some (.int W t) else m y)) (hb : Small W)
    (k : ∀ W : Int, Small W → Fr hB L h (fun y => if y = x then some (.int W t) else m y) → G) : G := k W hb F
theorem small_w (a c d : Int) (h0 : 0 ≤ a) (h1 : a < 80) (h2 : -1 ≤ c) (h3 : c ≤ 1) (h4 : 0 ≤ d) (h5 : d < 9) : Small (1 * 2 ^ a.toNat * c + d - 4) := wbound a c d h0 h1 h2 h3 h4 h5
theorem fm0 (x : Int) {n : Int} (h : 0 < n) : 0 ≤ x.fmod n := Int.fmod_nonneg_of_pos _ h
theorem fm1 (x : Int) {n : Int} (h : 0 < n) : x.fmod n < n := Int.fmod_lt_of_pos _ h
theorem fm2 (x : Int) : -1 ≤ x.fmod 3 - 1 := by have := fm0 x (n := 3) (by decide); omega
theorem fm3 (x : Int) : x.fmod 3 - 1 ≤ 1 := by have := fm1 x (n := 3) (by decide); omega
theorem units_law (env : Env) : (callerA.deeper env).units < cLine := by
  show (callerA.deeper default).units < cLine
  decide
theorem depth_law (env : Env) : (callerA.deeper env).depth + 1 < recursionLimit := by
  show (callerA.deeper default).depth + 1 < recursionLimit
  decide
theorem map1 {m : Str → Option Value} {x : Str} {v : Value} (h : m x = some v) : m = fun y => if y = x then some v else m y := by
  funext y
  split
  · rename_i e; rw [e]; exact h
  · rfl
def PL1 : Prop := ∀ W : Int, Small W → ∃ n0 ns, KBw.bInts (packB W).toArray = n0 :: ns ∧ (n0 :: ns).length ≤ 30 ∧ meantI (n0 :: ns) = W ∧ shortI (n0 :: ns) = n0 :: ns ∧ unpackI (n0 :: ns) = W
theorem Tb.of {h0 h : Heap} {P : Addr} {ps0 ps : Array Value} (hc : h0.IsCode 20 P ps0) (ht : h0.TableAt 20 P ps0) (ne : P ≠ cStatics) (k : ∀ b o, b ≠ P → h0.get? b = some o → h.get? b = some o) (hP : h.get? P = some (tabObj ps)) (tri : TriplesOk ps.toList) (hit : Hit gpos ps) : Tb P h := by
  obtain ⟨o, vs, file, tf, flags, tg, inF, text, tt, op, ho, hd, h11, h2, h7, h9, h10, hop, hpd, htr, hne⟩ := hc
  obtain ⟨⟨oc, vc, hoc, hcc, hdc, h11c⟩, _⟩ := ht
  exact ⟨ne, ps, ⟨o, vs, file, tf, flags, tg, inF, text, tt, tabObj ps, k _ _ hne ho, hd, h11, h2, h7, h9, h10, hP, rfl, tri, hne⟩, ⟨⟨oc, vc, k _ _ hne hoc, hcc, hdc, h11c⟩, hP⟩, hit⟩
theorem Tb.ledger {h : Heap} {P : Addr} (t : Tb P h) : ∃ ps, h.get? P = some (tabObj ps) ∧ TriplesOk ps.toList ∧ Hit gpos ps := by
  obtain ⟨ps, hc, ht, hit⟩ := t.out
  obtain ⟨o, vs, file, tf, flags, tg, inF, text, tt, op, ho, hd, h11, h2, h7, h9, h10, hop, hpd, htr, hne⟩ := hc
  exact ⟨ps, ht.2, htr, hit⟩
section
variable {w : World} {A : Around} {E : Value → Shared → Prop} {s : Shared} {mean : ExcName → Option Value} {mg mb : Str → Option Value} {hB : Heap} {L f : Addr} {m : Str → Option Value} {cn : Str} {cs : Scope} {cd : Value}
theorem eval_unpack {P : Addr} {e : Expr} {b : Array UInt8} {n0 : Int} {ns : List Int} {b1 b5 : Pos} {Q : Value → Shared → Prop} (G : Gd w mean mg mb hB) (F : Fr hB L s.heap m) (hb : Tb P s.heap) (hgs : AllBare s.gens) (hd : A.depth + 1 < recursionLimit) (hh : A.handled = none)
    (hcs : cs.kind = .function) (hg : (envOfC cn cs L f cd).kindOf (Str.ofString "varint_unpack") = some .globalImplicit) (hse : starEach [e] (envOfC cn cs L f cd) = [(false, eval e (envOfC cn cs L f cd))])
    (hi : KBw.bInts b = n0 :: ns) (hz : (n0 :: ns).length ≤ 30)
    (he : ∀ Q : Value → Shared → Prop, (∀ t h' tk, (∀ b o, s.heap.get? b = some o → h'.get? b = some o) → Q (.bytes b t) { s with heap := h', toks := tk }) → wpAny (model PySem.Challenge.rw_vj0001_01.row.prog w) A (eval e (envOfC cn cs L f cd)) Q E s)
    (h : ∀ h' t tk gs, AllBare gs → Tb P h' → (∀ c o, c ≠ P → s.heap.get? c = some o → h'.get? c = some o) → Q (.int (unpackI (n0 :: ns)) t) { s with heap := h', toks := tk, gens := gs }) :
    wpAny (model PySem.Challenge.rw_vj0001_01.row.prog w) A (eval (.Call (.Name (Str.ofString "varint_unpack") b1) [e] [] b5) (envOfC cn cs L f cd)) Q E s := by
  have X := G.X
  revert X
  k_fill
  intro X
  refine Call_1 (P := fun h => (MineHead.hd.heap_39 w.params).In h) (fv := .ref 21) (fun Q hQ => nameX_K F X G.T (by k_is) hQ hcs hg (by decide)) (keeps_K (by k_is)) hse (he _ fun t h' tk k => ⟨(X.keeps F.keep).keeps k, ?_⟩)
  exact unpack_ok (s := { s with heap := h', toks := tk }) ((G.keeps F.keep).keeps k) (hb.keeps k) hgs hd hh hi hz fun h2 t2 tk2 gs2 g2 b2 k2 => h _ _ _ _ g2 b2 fun c o hc e => k2 c o hc (k c o e)

theorem st_check2 {P : Addr} {W : Int} {b : Array UInt8} {t u : Tok} {n0 : Int} {ns : List Int} {body : List Stmt} {a1 a2 a4 a5 a6 d2 : Pos} {Q : Flow → Shared → Prop} (G : Gd w mean mg mb hB) (F : Fr hB L s.heap m) (hPB : hB.get? P = none) (hPL : P ≠ L) (hb : Tb P s.heap) (hgs : AllBare s.gens) (hd : A.depth + 1 < recursionLimit) (hh : A.handled = none)
    (hcs : cs.kind = .function) (hx : (envOfC cn cs L f cd).kindOf (Str.ofString "octets") = some .local) (hy : (envOfC cn cs L f cd).kindOf (Str.ofString "wanted") = some .local)
    (g1 : (envOfC cn cs L f cd).kindOf (Str.ofString "varint_unpack") = some .globalImplicit)
    (hm : m (Str.ofString "octets") = some (.bytes b t)) (hw : m (Str.ofString "wanted") = some (.int W u)) (hbs : KBw.bInts b = n0 :: ns) (hz : (n0 :: ns).length ≤ 30) (e1 : unpackI (n0 :: ns) = W)
    (h : ∀ h' tk gs, AllBare gs → Tb P h' → (∀ c o, c ≠ P → s.heap.get? c = some o → h'.get? c = some o) → Q .next { s with heap := h', toks := tk, gens := gs }) :
    wpAny (model PySem.Challenge.rw_vj0001_01.row.prog w) A (exec (.If (.Compare (.Call (.Name (Str.ofString "varint_unpack") a1) [.Name (Str.ofString "octets") a2] [] a4) [.NotEq] [.Name (Str.ofString "wanted") a5] a6) body [] d2) (envOfC cn cs L f cd)) Q E s := by
  refine wpAny_If (wpAny_isTrue_Compare1 ?_)
  refine eval_unpack G F hb hgs hd hh hcs g1 rfl hbs hz (fun Q hQ => nameX_L F hm (hQ t s.heap s.toks fun _ _ e => e) hcs hx (by decide)) fun h1 t1 tk1 gs1 bare1 b1 k1 => ?_
  have F1 : Fr hB L h1 m := ⟨F.ns.at' fun o e => k1 _ o (Ne.symm hPL) e, fun c o e => k1 c o (fun q => by rw [q, hPB] at e; cases e) (F.keep c o e), F.above⟩
  refine nameX_L (s := { s with heap := h1, toks := tk1, gens := gs1 }) F1 hw (PySem.P.ne_int (wpAny_truthy_bool ?_)) hcs hy (by decide)
  have e1' : (unpackI (n0 :: ns) != W) = false := by rw [e1]; simp
  rw [e1']
  simp only [Bool.false_eq_true, if_false]
  exact wpAny_execs_nil (h _ _ _ bare1 b1 k1)
end
end Mine
end

section
set_option maxRecDepth 100000
open PySem PySem.W PySem.Calls PyProof.Rows
namespace Mine
theorem with_oct {G : Prop} {ys ws : List Value} {oct : List Int} {k : Int} (i2 : IntsAre ys oct) (i3 : IntsAre ws (List.replicate k.toNat (List.take 1 oct)).flatten) (h1 : oct ≠ []) (h2 : oct.length ≤ 16) (hr : ∀ n ∈ oct, 0 ≤ n ∧ n < 256) (hk : k < 4)
    (K : ∀ n0 r oct pre, IntsAre ys oct → IntsAre ws pre → pre ++ oct = n0 :: r → (n0 :: r).length ≤ 20 → (∀ n ∈ n0 :: r, 0 ≤ n ∧ n < 256) → pre.length + oct.length ≤ sizeLine → G) : G := by
  have hlen : ((List.replicate k.toNat (List.take 1 oct)).flatten).length ≤ 3 := by
    rw [List.length_flatten, List.map_replicate, List.sum_replicate_nat]
    have h1 : k.toNat ≤ 3 := by omega
    have h2 : (List.take 1 oct).length ≤ 1 := by rw [List.length_take]; omega
    exact Nat.le_trans (Nat.mul_le_mul h1 h2) (by decide)
  cases e : (List.replicate k.toNat (List.take 1 oct)).flatten ++ oct with
  | nil => exact absurd (List.append_eq_nil_iff.mp e).2 h1
  | cons n0 r =>
    have hl : (n0 :: r).length ≤ 20 := by rw [← e, List.length_append]; omega
    refine K n0 r oct _ i2 i3 e hl (fun n hn => ?_) (Nat.le_trans (show _ ≤ 30 by omega) (by decide))
    rw [← e] at hn
    rcases List.mem_append.mp hn with hn | hn
    · obtain ⟨l, hl, hn⟩ := List.mem_flatten.mp hn
      rw [(List.mem_replicate.mp hl).2] at hn
      exact hr n (List.mem_of_mem_take hn)
    · exact hr n hn

section
variable {M : Model} {A : Around} {s : Shared} {env : Env}
theorem wpC_BoolOp_and {e₁ e₂ pos} {Q : Value → Shared → Prop}
    (h : wpAny M A (eval e₁ env) (fun v s₁ => wpAny M A (truthy v) (fun c s₂ => if c then wpC M A (eval e₂ env) Q s₂ else Q v s₂) NoE s₁) NoE s) :
    wpC M A (eval (.BoolOp .And [e₁, e₂] pos) env) Q s := by
  show wpC M A (do
    let v ← eval e₁ env
    standAt pos
    let c ← holding [v] (truthy v)
    match BoolOp.And, c with
    | .And, false | .Or, true => pure v
    | _, _ => boolOp pos .And (eval e₂ env :: evalEach [] env)) Q s
  refine wpC_leaf (wpAny_mono h (fun v s₁ h₁ => wpC_bind (wpC_standAt (wpC_leaf (wpAny_holding (wpAny_mono h₁ (fun c s₂ h₂ => ?_) fun _ _ x => x))))) fun _ _ x => x)
  cases c with
  | false => exact wpC_pure h₂
  | true => exact h₂
theorem wpC_Compare1 {l op r pos} {Q : Value → Shared → Prop}
    (h : wpC M A (eval l env) (fun a s₁ => wpAny M A (eval r env) (fun b s₂ => wpAny M A (compareOp op a b) Q NoE s₂) NoE s₁) s)
    (hm : behindInMarks op r = false := by with_unfolding_all rfl) :
    wpC M A (eval (.Compare l [op] [r] pos) env) Q s := by
  rw [eval_Compare1, markedBehindIn_of_false hm]
  exact wpC_bind (wpC_mono h fun a s₁ h₁ => wpC_leaf (wpAny_holding (wpAny_mono h₁ (fun b s₂ h₂ => wpC_bind (wpC_standAt (wpC_operate (wpC_of_any h₂)))) fun _ _ x => x)))
theorem wpC_Call_1 {id : Str} {p2 p4 : Pos} {e : Expr} {fv : Value} {P : Heap → Prop} {Q : Value → Shared → Prop} (hf : ∀ Q : Value → Shared → Prop, Q fv s → wpAny M A (eval (.Name id p2) env) Q NoE s)
    (hk : ∀ h, P h → ∃ k, (k = Keeper.frame ∨ k = Keeper.machine ∨ k = Keeper.boundFrame) ∧ Looks M h (keeperOf fv) k)
    (hse : starEach [e] env = [(false, eval e env)])
    (ha : wpC M A (eval e env) (fun v s₁ => P s₁.heap ∧ wpC M A (call fv [v]) Q s₁) s) : wpC M A (eval (.Call (.Name id p2) [e] [] p4) env) Q s := by
  show wpC M A (do callWith p4 (← eval (.Name id p2) env) [] (backTo p4 (starEach [e] env)) (backToKw p4 (keywordEach [] env))) Q s
  refine wpC_leaf (hf _ ?_)
  rw [hse]
  show wpC M A (callWith p4 fv [] [(false, eval e env)] []) Q s
  unfold callWith
  refine wpC_bind (wpC_holding ?_)
  have args : ∀ {Q' : Args → Shared → Prop}, wpC M A (eval e env) (fun v s₁ => Q' ⟨[v], []⟩ s₁) s → wpC M A (evalArgs fv true [(false, eval e env)] []) Q' s := fun {Q'} h => by
    unfold evalArgs
    show wpC M A (spliced [(false, eval e env)] >>= _) Q' s
    refine wpC_bind ?_
    rw [spliced]
    refine wpC_bind (wpC_mono h fun v s₁ h₁ => ?_)
    simp only [Bool.false_eq_true, if_false]
    exact wpC_bind (wpC_pure (wpC_bind (wpC_holding (wpC_pure (wpC_pure (wpC_holding (wpC_bind (wpC_pure (wpC_bind (wpC_pure (wpC_pure h₁))))))))))) 
  refine args (wpC_mono ha fun v s₁ h₁ => wpC_bind (wpC_standAt ?_))
  obtain ⟨k, hk', L⟩ := hk _ h₁.1
  simp only [List.any_cons, List.any_nil, Bool.or_false, Bool.false_or]
  refine wpC_leaf (L.here ?_)
  have tail : ∀ {t : Sem Value}, wpC M A t Q s₁ → wpC M A (t >>= fun r => holding [r] point >>= fun _ => pure r) Q s₁ :=
    fun ht => wpC_bind (wpC_mono ht fun r s₂ hr => wpC_bind (wpC_holding (wpC_point (wpC_pure hr))))
  have marked (mk : Value) : wpC M A (callMarked mk fv ([] ++ [v]) []) Q s₁ := by unfold callMarked; exact wpC_keep h₁.2
  rcases hk' with rfl | rfl | rfl <;> dsimp only <;> first | exact tail h₁.2 | (split <;> first | exact tail h₁.2 | exact tail (marked _))
end
end Mine
end

section
set_option maxRecDepth 100000
open PySem PySem.W PySem.Calls PyProof.Rows
namespace Mine
def PL2 : Prop := ∀ n0 ns, (∀ n ∈ n0 :: ns, 0 ≤ n ∧ n < 256) → (n0 :: ns).length ≤ 30 → unpackI (n0 :: ns) = meantI (n0 :: ns) ∧ ((n0 :: ns).length ≤ 20 → Small (meantI (n0 :: ns))) ∧ KBw.bInts (packB (meantI (n0 :: ns))).toArray = shortI (n0 :: ns) ∧ (shortI (n0 :: ns)).length ≤ 30
theorem Tb.of20 {h0 h : Heap} {P : Addr} {ps0 ps : Array Value} (hc : h0.IsCode 20 P ps0) (ht : h0.TableAt 20 P ps0) (ne : P ≠ cStatics) (k : ∀ o, h0.get? 20 = some o → h.get? 20 = some o) (hP : h.get? P = some (tabObj ps)) (tri : TriplesOk ps.toList) (hit : Hit gpos ps) : Tb P h := by
  obtain ⟨o, vs, file, tf, flags, tg, inF, text, tt, op, ho, hd, h11, h2, h7, h9, h10, hop, hpd, htr, hne⟩ := hc
  obtain ⟨⟨oc, vc, hoc, hcc, hdc, h11c⟩, _⟩ := ht
  exact ⟨ne, ps, ⟨o, vs, file, tf, flags, tg, inF, text, tt, tabObj ps, k _ ho, hd, h11, h2, h7, h9, h10, hP, rfl, tri, hne⟩, ⟨⟨oc, vc, k _ hoc, hcc, hdc, h11c⟩, hP⟩, hit⟩
section
variable {w : World} {A : Around} {s : Shared} {mean : ExcName → Option Value} {mg mb : Str → Option Value} {hB : Heap} {L f : Addr} {m : Str → Option Value} {cn : Str} {cs : Scope} {cd : Value}
theorem st_meant {P D : Addr} {us : List Value} {n0 : Int} {ns : List Int} {a1 a2 a3 a4 a5 p1 p5 : Pos} {Q : Flow → Shared → Prop} (G : Gd w mean mg mb hB) (F : Fr hB L s.heap m) (hPB : hB.get? P = none) (hPL : P ≠ L) (hb : Tb P s.heap) (hgs : AllBare s.gens) (hd : A.depth + 1 < recursionLimit) (hh : A.handled = none)
    (hcs : cs.kind = .function) (hx : (envOfC cn cs L f cd).kindOf (Str.ofString "octets") = some .local) (hy : (envOfC cn cs L f cd).kindOf (Str.ofString "meant") = some .local)
    (g1 : (envOfC cn cs L f cd).kindOf (Str.ofString "varint_unpack") = some .globalImplicit) (g2 : (envOfC cn cs L f cd).kindOf (Str.ofString "bytes") = some .globalImplicit)
    (hsw : swapsWith (.Call (.Name (Str.ofString "varint_unpack") a1) [.Call (.Name (Str.ofString "bytes") a2) [.Name (Str.ofString "octets") a3] [] a4] [] a5) (some (.Name (Str.ofString "meant") p1)) p5.line (envOfC cn cs L f cd) = pure false)
    (hm : m (Str.ofString "octets") = some (.ref D)) (hl : s.heap.IsList D us.toArray) (hi : IntsAre us (n0 :: ns)) (hr : ∀ n ∈ n0 :: ns, 0 ≤ n ∧ n < 256) (hz : (n0 :: ns).length ≤ 30)
    (h : ∀ h' tk t gs, AllBare gs → Tb P h' → Fr hB L h' (fun y => if y = Str.ofString "meant" then some (.int (unpackI (n0 :: ns)) t) else m y) → (∀ c o, c ≠ P → c ≠ L → s.heap.get? c = some o → h'.get? c = some o) → Q .next { s with heap := h', toks := tk, gens := gs }) :
    wpAny (model PySem.Challenge.rw_vj0001_01.row.prog w) A (exec (.Assign [.Name (Str.ofString "meant") p1] (.Call (.Name (Str.ofString "varint_unpack") a1) [.Call (.Name (Str.ofString "bytes") a2) [.Name (Str.ofString "octets") a3] [] a4] [] a5) p5) (envOfC cn cs L f cd)) Q NoE s := by
  have X := G.X
  revert X
  k_fill
  intro X
  refine wpAny_Assign_Name (eval_unpack (b := byteArr (n0 :: ns)) G F hb hgs hd hh hcs g1 rfl (KBa.ints_make hr) hz (fun Q hQ => ?_) fun h1 t1 tk1 gs1 bare1 b1 k1 => ?_) hsw
  · refine Call_1 (P := fun _ => True) (fv := .type "bytes") (fun Q hQ => nameX_B F X G.T (by k_is) (by rfl) (by decide) hQ hcs g2 (by decide)) (keeps_plain (fun _ e => nomatch e)) rfl (nameX_L F hm ⟨trivial, ?_⟩ hcs hx (by decide))
    exact call_bytes_ints hl hi hr (by rw [hi.length]; exact Nat.le_trans hz (by decide)) hh fun h' t k kk => hQ t h' k kk
  · have F1 : Fr hB L h1 m := ⟨F.ns.at' fun o e => k1 _ o (Ne.symm hPL) e, fun c o e => k1 c o (fun q => by rw [q, hPB] at e; cases e) (F.keep c o e), F.above⟩
    refine wpAny_storeName_local hy F1.ns (fun h' hn hs => h h' _ t1 gs1 bare1 ?_ (F1.set hn hs) fun c o hc hcL e => (hs.2 c hcL).trans (k1 c o hc e)) (by show (cs.kind == .class || (cs.kind == .module && L != mainGlobals)) = false; rw [hcs]; rfl)
    obtain ⟨ps, hc, ht, hit⟩ := b1.out
    have hcode := hc
    obtain ⟨o, vs, file, tf, flags, tg, inF, text, tt, op, ho, hd', h11, h2, h7, h9, h10, hop, hpd, htr, hne⟩ := hcode
    have h20 : 20 ≠ L := fun e => by
      obtain ⟨oL, es, ep, hoL, hdL, _⟩ := F1.ns
      rw [← e] at hoL
      rw [ho] at hoL
      cases hoL
      rw [hd'] at hdL
      cases hdL
    exact Tb.of20 hc ht b1.ne (fun c e => (hs.2 20 h20).trans e) ((hs.2 P hPL).trans ht.2) htr hit
theorem st_return {D : Addr} {us : List Value} {t : Tok} {n0 : Int} {ns : List Int} {a1 a2 a3 a4 a5 b1 b2 b3 b4 b5 b6 b7 b8 b9 c1 c2 : Pos} {Q : Flow → Shared → Prop} (pl2 : PL2) (G : Gd w mean mg mb hB) (F : Fr hB L s.heap m) (hd : A.depth + 1 < recursionLimit) (hh : A.handled = none) (hg : A.guards = some []) (hu : A.units < cLine)
    (hcs : cs.kind = .function) (hx : (envOfC cn cs L f cd).kindOf (Str.ofString "octets") = some .local) (hy : (envOfC cn cs L f cd).kindOf (Str.ofString "meant") = some .local)
    (g1 : (envOfC cn cs L f cd).kindOf (Str.ofString "varint_pack") = some .globalImplicit) (g3 : (envOfC cn cs L f cd).kindOf (Str.ofString "_law_meant") = some .globalImplicit)
    (g4 : (envOfC cn cs L f cd).kindOf (Str.ofString "list") = some .globalImplicit) (g5 : (envOfC cn cs L f cd).kindOf (Str.ofString "_law_short") = some .globalImplicit)
    (hm : m (Str.ofString "octets") = some (.ref D)) (hw : m (Str.ofString "meant") = some (.int (unpackI (n0 :: ns)) t)) (hl : s.heap.IsList D us.toArray) (hi : IntsAre us (n0 :: ns)) (hr : ∀ n ∈ n0 :: ns, 0 ≤ n ∧ n < 256) (hz : (n0 :: ns).length ≤ 20)
    (h : ∀ h' tk, (∀ b o, s.heap.get? b = some o → h'.get? b = some o) → Q (.ret (.bool true)) { s with heap := h', toks := tk }) :
    wpC (model PySem.Challenge.rw_vj0001_01.row.prog w) A (exec (.Return (some (.BoolOp .And [.Compare (.Name (Str.ofString "meant") a1) [.Eq] [.Call (.Name (Str.ofString "_law_meant") a2) [.Name (Str.ofString "octets") a3] [] a4] a5,
      .Compare (.Call (.Name (Str.ofString "list") b1) [.Call (.Name (Str.ofString "varint_pack") b2) [.Name (Str.ofString "meant") b3] [] b4] [] b5) [.Eq] [.Call (.Name (Str.ofString "_law_short") b6) [.Name (Str.ofString "octets") b7] [] b8] b9] c1)) c2) (envOfC cn cs L f cd)) Q s := by
  have X := G.X
  revert X
  k_fill
  intro X
  obtain ⟨e1, e2, e3, e4⟩ := pl2 n0 ns hr (Nat.le_trans hz (by decide))
  have e2 := e2 hz
  rw [e1] at hw
  refine wpC_Return_some (wpC_BoolOp_and (wpAny_Compare1 (nameX_L F hw ?_ hcs hy (by decide)) (by with_unfolding_all rfl)))
  refine eval_meant G F (Nat.lt_of_succ_lt hd) hh hcs g3 rfl hr (Nat.le_trans hz (by decide)) (fun Q hQ => nameX_L F hm (hQ D s.heap s.toks us (fun _ _ e => e) hl hi) hcs hx (by decide)) fun h1 t1 tk1 k1 => ?_
  have F1 : Fr hB L h1 m := F.keeps k1
  refine PySem.P.eq_int (wpAny_truthy_bool ?_)
  rw [beq_self_eq_true, if_pos rfl]
  refine wpC_Compare1 (wpC_Call_1 (P := fun _ => True) (fv := .type "list") (s := { s with heap := h1, toks := tk1 }) (fun Q hQ => nameX_B F1 X G.T (by k_is) (by rfl) (by decide) hQ hcs g4 (by decide)) (keeps_plain (fun _ e => nomatch e)) rfl ?_)
  refine pack_call (s := { s with heap := h1, toks := tk1 }) G F1 hd hh hg hcs hy g1 (by decide) hw e2 fun h2 t2 tk2 k2 => ⟨trivial, wpC_of_any ?_⟩
  have F2 : Fr hB L h2 m := F1.keeps k2
  refine call_list_bytes (s := { s with heap := h2, toks := tk2 }) hh _ t2 (fun h3 tk3 ys3 k3 hl3 hi3 => ?_) ?_
  · have F3 : Fr hB L h3 m := F2.keeps k3
    refine eval_short (s := { s with heap := h3, toks := tk3 }) (ns := n0 :: ns) G F3 (Nat.lt_of_succ_lt hd) hh hcs g5 rfl (Nat.le_trans hz (by decide)) (fun Q hQ => nameX_L F3 hm (hQ D h3 tk3 us (fun _ _ e => e) (islist_keeps (islist_keeps (islist_keeps hl k1) k2) k3) hi) hcs hx (by decide)) fun l4 h4 tk4 ys4 k4 hl4 hi4 => ?_
    refine eq_same (s := { s with heap := h4, toks := tk4 }) (islist_keeps hl3 k4) hl4 hi3 (e3 ▸ hi4) hu ?_
    exact h h4 tk4 fun b o e => k4 b o (k3 b o (k2 b o (k1 b o e)))
  · have := KBw.ints_length (packB (meantI (n0 :: ns))).toArray
    rw [e3] at this
    exact Nat.le_trans (show _ ≤ 30 by omega) (by decide)
end
end Mine
end

section
set_option maxRecDepth 100000
open PySem PySem.W PySem.Calls PyProof.Rows
namespace Mine
section
variable {w : World} {s : Shared} {mean : ExcName → Option Value} {mg mb : Str → Option Value}
set_option maxHeartbeats 1200000 in
theorem law_ok (pl1 : PL1) (pl2 : PL2) {l P : Addr} {vs : List Value} {ns : List Int} {Q : Value → Shared → Prop} (T0 : Top MineHead.hd.view_39 (looseW MineHead.hd.view_39 []) mean mg mb s.heap) (G : Gd w mean mg mb s.heap) (hb : Tb P s.heap) (hg : AllBare s.gens)
    (hl : s.heap.IsList l vs.toArray) (hi : IntsAre vs ns) (hz : ns.length ≤ 63)
    (h : ∀ s', (∀ c o, c ≠ P → s.heap.get? c = some o → s'.heap.get? c = some o) → Tb P s'.heap → s'.os = s.os → AllBare s'.gens → Q (.bool true) s') :
    wpC (model PySem.Challenge.rw_vj0001_01.row.prog w) callerA (call (.ref 54) [.ref l]) Q s := by
  have pls := Stop.mk pl1
  clear pl1
  have pl2s := Stop.mk pl2
  clear pl2
  have X := G.X
  revert X
  k_fill
  intro X
  refine' wpC_call (call_cells_C (binds := [(Str.ofString "script", .ref l)]) (by decide) (in_of X ?l) ?dat G.T.nolimit (codeRec_of X ?cd) ?b ?kin ?nd (fun h₁ tk₁ cells F N0 X0 => ?_) ?co ?gn ?kf)
  case l => k_is
  case dat => exact rfl
  case cd => k_is
  case b => exact rfl
  case kin => exact kinds_of (by kinds_ok)
  case nd => decide
  case co => exact rfl
  case gn => exact rfl
  case kf => exact rfl
  k_cells X0
  rename _ = Data.cell _ => d1
  replace d1 : _ = Data.cell (some (.ref l)) := d1
  replace F : Fr s.heap s.heap.objs.size h₁ (fun _ => none) := F
  have Gs := Stop.mk G
  have hs := Stop.mk h
  clear h G
  dsimp only
  refine execsC_stop ?_
  k_steps
  have hs := hs.out
  have G := Gs.out
  obtain ⟨ps, hc, ht, hp⟩ := hb.out
  rename Fr _ _ _ _ => F1
  rename News _ _ _ _ => N1
  rename IntsAre ys _ => hys
  have GB : Gd w mean mg mb (hideAll s.heap [P]) := G.but ht.2 hb.ne fun b o hne e => hideAll_get _ e (by simpa using hne)
  have tri : TriplesOk ps.toList := by
    obtain ⟨o, vs, file, tf, flags, tg, inF, text, tt, op, ho, hd, h11, h2, h7, h9, h10, hop, hpd, htr, hne⟩ := hc
    exact htr
  generalize hnum : (List.map _ (rangeKs 0 _) : List Int) = nums at hys
  have hlen : nums.length = 16 := by rw [← hnum]; simp; decide
  have hP1 := F1.keep P _ ht.2
  have hPL : P ≠ s.heap.objs.size := Nat.ne_of_lt (Heap.lt_size ht.2)
  have N2 := news_cons (P := P) (news_hide (P := P) (news_head N1)) hP1 hPL (hideAll_none _ (List.mem_singleton.mpr rfl))
  simp only [List.cons_append, List.nil_append] at N2
  have F2 := fr_hide (P := P) F1
  clear F1 N1 T0 X hnum
  have X := GB.X
  revert X
  k_fill
  intro X
  have T := GB.T
  refine Stop.mk (wpC_execs_cons (wpC_For ?_ (fun _ => rfl)))
  k_steps
  rename IsRange _ _ 0 3 1 _ _ _ => hr
  rename Fr _ _ _ _ => F3
  rename News _ _ _ _ => N3
  refine Stop.mk (for3 (L := s.heap.objs.size) (hB := hideAll s.heap [P]) (P := P) (ys := ys) (os0 := s.os) rfl rfl rfl rfl hr ⟨F3, rfl, N3, tri, hp, hg, rfl⟩ ?_ ?_)
  · clear F3 N3 hr
    intro k tk I oI m ps s' hk0 hk3 hmk S hIL hIB hoI hI
    obtain ⟨h, g, d, tk', os⟩ := s'
    have N := news_cons S.N hI hIL hIB
    simp only [List.cons_append, List.nil_append] at N
    have hm2 := map2 hmk S.num
    have F := S.F
    rw [hm2] at F
    have S := Stop.mk S
    dsimp only at F N hI
    refine execsC_stop ?_
    k_steps
    refine Stop.mk ?_
    refine execsC_stop ?_
    k_steps
    refine Stop.mk ?_
    rename Fr _ _ _ _ => F3
    rename News _ _ _ _ => N3
    refine with_val F3 ?hb (fun W hWb F4 => ?_)
    case hb => exact small_w _ _ _ (by assumption) (by assumption) (fm2 _) (fm3 _) (fm0 _ (by decide)) (fm1 _ (by decide))
    clear F3
    refine wpC_execs_cons (st_pack GB F4 (depth_law _) rfl rfl rfl rfl rfl rfl rfl (if_pos rfl) hWb fun h5 tk5 t5 F5 k5 => ?_)
    have N5 : News (hideAll s.heap [P]) s.heap.objs.size h5 _ := fun p hp => ⟨k5 _ _ (N3 p hp).2.1 (N3 p hp).1, (N3 p hp).2⟩
    clear F4 N3 k5
    dsimp only
    obtain ⟨n0, ns', hbs, hlen', e1, e2, e3⟩ := pls.out W hWb
    have hT5 : Tb P h5 := Tb.of hc ht hb.ne (fun b o hne e => F5.keep b o (hideAll_get _ e (by simpa using hne))) (N5 (P, tabObj ps) (by simp)).1 S.out.tri S.out.hit
    refine wpC_execs_leaf (st_check GB F5 (Nat.lt_of_succ_lt (depth_law _)) rfl (units_law _) rfl rfl rfl rfl rfl rfl rfl rfl (if_pos rfl) ((if_neg (by decide)).trans (if_pos rfl)) hbs hlen' e1 e2 fun h6 tk6 k6 => ?_)
    have F6 := F5.keeps k6
    have N6 := news_keeps N5 k6
    dsimp only
    refine wpC_execs_leaf (st_check2 (P := P) GB F6 (hideAll_none _ (List.mem_singleton.mpr rfl)) hPL (hT5.keeps k6) S.out.gens (depth_law _) rfl rfl rfl rfl rfl (if_pos rfl) ((if_neg (by decide)).trans (if_pos rfl)) hbs hlen' e3 fun h7 tk7 gs7 bare7 b7 k7 => ?_)
    dsimp only at k7
    obtain ⟨ps7, hP7, tri7, hit7⟩ := b7.ledger
    have F7 : Fr (hideAll s.heap [P]) s.heap.objs.size h7 _ := ⟨F6.ns.at' fun o e => k7 _ o (Ne.symm hPL) e, fun c o e => k7 c o (fun q => by rw [q, hideAll_none _ (List.mem_singleton.mpr rfl)] at e; cases e) (F6.keep c o e), F6.above⟩
    have hIP : I ≠ P := fun q => by
      have h1 := (N6 (I, oI) (by simp)).1
      have h2 := (N6 (P, tabObj ps) (by simp)).1
      dsimp only at h1 h2
      rw [q, h2] at h1
      cases h1
      exact hoI rfl
    refine wpC_execs_nil ⟨rfl, ⟨_, ps7, F7, (if_neg (by decide)).trans ((if_neg (by decide)).trans ((if_neg (by decide)).trans ((if_neg (by decide)).trans (if_pos rfl)))), ?_, tri7, hit7, bare7, S.out.os⟩, k7 I oI hIP (N6 (I, oI) (by simp)).1⟩
    refine news_cons (news := [_]) (fun p hp => ?_) hP7 hPL (hideAll_none _ (List.mem_singleton.mpr rfl))
    rw [List.mem_singleton.mp hp]
    have hD := N6 _ (List.mem_cons_self ..)
    refine ⟨k7 _ _ (fun q => ?_) hD.1, hD.2⟩
    have h2 := (N6 (P, tabObj ps) (by simp)).1
    have h1 := hD.1
    dsimp only at h1 h2 q
    rw [q, h2] at h1
    cases h1
  · clear F3 N3 hr
    intro m ps s' S
    obtain ⟨h, g, d, tk', os⟩ := s'
    have N := S.N
    have hm2 := map1 S.num
    have F := S.F
    rw [hm2] at F
    have S := Stop.mk S
    dsimp only at F N ⊢
    refine execsC_stop ?_
    k_steps
    refine Stop.mk ?_
    refine execsC_stop ?_
    k_steps
    rename Fr _ _ _ _ => F3
    rename News _ _ _ _ => N3
    rename IntsAre (List.replicate _ _).flatten _ => i3
    rename IntsAre _ (List.map _ _) => i2
    refine with_oct (k := (nums.getD (Int.toNat 4) 0).fmod 4) i2 i3 ?o1 ?o2 ?o3 (fm1 _ (by decide)) (fun n0 r oct pre i2 i3 e hlen' hr' hsz => ?_)
    case o1 =>
      intro e
      have := congrArg List.length e
      simp only [List.length_map, List.length_take, List.length_drop, List.length_nil, hlen] at this
      omega
    case o2 =>
      simp only [List.length_map, List.length_take, List.length_drop, hlen]
      omega
    case o3 =>
      intro n hn
      obtain ⟨k', _, rfl⟩ := List.mem_map.mp hn
      exact ⟨fm0 _ (by decide), fm1 _ (by decide)⟩
    refine kmk_add_ints F3 N3 (News.isList N3 (.head _)) (News.isList N3 (.tail _ (.tail _ (.head _)))) i3 i2 (fun D us h9 F9 N9 l9 hI9 => ?_) hsz
    clear F3 N3
    rw [e] at hI9
    k_steps
    refine Stop.mk ?_
    rename Fr _ _ _ _ => F10
    rename News _ _ _ _ => N10
    have hT : Tb P _ := Tb.of hc ht hb.ne (fun b o hne e => F10.keep b o (hideAll_get _ e (by simpa using hne))) (N10 (P, tabObj ps) (by simp)).1 S.out.tri S.out.hit
    have hlD := News.isList N10 (.head _)
    refine wpC_execs_leaf (st_meant (P := P) GB F10 (hideAll_none _ (List.mem_singleton.mpr rfl)) hPL hT S.out.gens (depth_law _) rfl rfl rfl rfl rfl rfl rfl (if_pos rfl) hlD hI9 hr' (Nat.le_trans hlen' (by decide)) fun h11 tk11 t11 gs11 bare11 b11 F11 k11 => ?_)
    dsimp only at k11 ⊢
    have hDN := N10 _ (List.mem_cons_self ..)
    have hDP : D ≠ P := fun q => by
      have h2 := (N10 (P, tabObj ps) (by simp)).1
      have h1 := hDN.1
      dsimp only at h1 h2
      rw [q, h2] at h1
      cases h1
    have hl11 : h11.IsList D us.toArray := by
      obtain ⟨o, ho, r⟩ := hlD
      exact ⟨o, k11 _ _ hDP hDN.2.1 ho, r⟩
    refine wpC_execs_cons (st_return pl2s.out (t := t11) GB F11 (depth_law _) rfl rfl (units_law _) rfl rfl rfl rfl rfl rfl rfl ((if_neg (by decide)).trans (if_pos rfl)) (if_pos rfl) hl11 hI9 hr' hlen' fun h12 tk12 k12 => ?_)
    dsimp only at k12 ⊢
    exact hs _ (fun c o hne e => k12 c o (F11.keep c o (hideAll_get _ e (by simpa using hne)))) (b11.keeps k12) S.out.os bare11
end
end Mine
end

section
set_option maxRecDepth 100000
open PySem PySem.W PySem.Calls PyProof.Rows
namespace Mine
def leV : List UInt8 → Nat
  | [] => 0
  | c :: r => c.toNat + 256 * leV r
def bI (l : List UInt8) : List Int := l.map fun c => (c.toNat : Int)
abbrev fo (a o : Int) : Int := a * 256 + o
theorem leB_leV : ∀ l : List UInt8, (l = [] ∨ l.getLastD 0 ≠ 0) → leB (leV l) = l
  | [], _ => leB_zero
  | c :: r, h => by
    have hc : c.toNat < 256 := c.toNat_lt
    have hu : UInt8.ofNat c.toNat = c := by simp
    cases r with
    | nil =>
      have h0 : c ≠ 0 := by rcases h with h | h; exact absurd h (by simp); exact h
      have hn : c.toNat ≠ 0 := fun e => h0 (UInt8.toNat_inj.mp (by simpa using e))
      show leB (c.toNat + 256 * 0) = [c]
      rw [Nat.mul_zero, Nat.add_zero, leB_pos hn, Nat.mod_eq_of_lt hc, Nat.div_eq_of_lt hc, leB_zero, hu]
    | cons d r =>
      have hr : leB (leV (d :: r)) = d :: r := leB_leV (d :: r) (.inr (by rcases h with h | h; exact absurd h (by simp); exact h))
      have hv : leV (d :: r) ≠ 0 := fun e => by rw [e, leB_zero] at hr; cases hr
      show leB (c.toNat + 256 * leV (d :: r)) = c :: d :: r
      rw [leB_pos (by omega), show (c.toNat + 256 * leV (d :: r)) % 256 = c.toNat by omega, show (c.toNat + 256 * leV (d :: r)) / 256 = leV (d :: r) by omega, hr, hu]
theorem leV_lt : ∀ l : List UInt8, leV l < 256 ^ l.length
  | [] => by decide
  | c :: r => by
    have := leV_lt r
    have hc : c.toNat < 256 := c.toNat_lt
    show c.toNat + 256 * leV r < 256 ^ (r.length + 1)
    rw [Nat.pow_succ]
    omega
theorem leV_snoc : ∀ (w : List UInt8) (c : UInt8), leV (w ++ [c]) = leV w + c.toNat * 256 ^ w.length
  | [], c => by show c.toNat + 256 * 0 = 0 + c.toNat * 256 ^ 0; omega
  | d :: w, c => by
    have ih := leV_snoc w c
    show d.toNat + 256 * leV (w ++ [c]) = d.toNat + 256 * leV w + c.toNat * 256 ^ (w.length + 1)
    rw [ih, Nat.pow_succ, Nat.mul_add, Nat.add_assoc]
    congr 2
    rw [Nat.mul_comm 256, Nat.mul_assoc]
theorem fo_add (ns : List Int) : ∀ a d : Int, ns.foldl fo (a + d) = ns.foldl fo a + d * 256 ^ ns.length := by
  induction ns with
  | nil => intro a d; show a + d = a + d * 1; omega
  | cons n ns ih =>
    intro a d
    show ns.foldl fo (fo (a + d) n) = ns.foldl fo (fo a n) + d * 256 ^ (ns.length + 1)
    have e : fo (a + d) n = fo a n + d * 256 := by show (a + d) * 256 + n = a * 256 + n + d * 256; rw [Int.add_mul]; omega
    rw [e, ih, Int.pow_succ, Int.mul_assoc, Int.mul_comm 256]
theorem fo_rev (w : List UInt8) : (bI w.reverse).foldl fo 0 = (leV w : Int) := by
  induction w with
  | nil => rfl
  | cons c w ih =>
    unfold bI at *
    rw [List.reverse_cons, List.map_append, List.foldl_append, ih]
    show (leV w : Int) * 256 + (c.toNat : Int) = ((c.toNat + 256 * leV w : Nat) : Int)
    omega
theorem meant_form (c : UInt8) (w : List UInt8) : meantI (bI (c :: w.reverse)) = (if 127 < (c.toNat : Int) then (c.toNat : Int) - 256 else c.toNat) * 256 ^ w.length + leV w := by
  show (bI w.reverse).foldl fo (if 127 < (c.toNat : Int) then (c.toNat : Int) - 256 else c.toNat) = _
  have := fo_add (bI w.reverse) 0 (if 127 < (c.toNat : Int) then (c.toNat : Int) - 256 else c.toNat)
  rw [Int.zero_add] at this
  rw [this, fo_rev, Int.add_comm]
  congr 2
  simp [bI]
theorem unpack_meant (n : Int) (r : List Int) : unpackI (n :: r) = meantI (n :: r) := by
  have hb : beV (n :: r) = r.foldl fo n := by
    show r.foldl fo (0 * 256 + n) = _
    rw [Int.zero_mul, Int.zero_add]
  show (if 127 < n then beV (n :: r) - 2 ^ (8 * (r.length + 1)) else beV (n :: r)) = r.foldl fo (if 127 < n then n - 256 else n)
  rw [hb]
  split
  · have := fo_add r n (-256)
    show r.foldl fo n - 2 ^ (8 * (r.length + 1)) = r.foldl fo (n - 256)
    rw [show n - 256 = n + -256 by omega, this]
    have e : (2 : Int) ^ (8 * (r.length + 1)) = 256 * 256 ^ r.length := by
      rw [Int.pow_mul, Int.pow_succ, Int.mul_comm]; rfl
    rw [e]
    omega
  · rfl
theorem digits : ∀ (k n : Nat), n < 256 ^ k → ∃ v : List UInt8, v.length = k ∧ leV v = n
  | 0, n, h => ⟨[], rfl, by have : n < 1 := h; show 0 = n; omega⟩
  | k + 1, n, h => by
    obtain ⟨v, h1, h2⟩ := digits k (n / 256) (by rw [Nat.pow_succ] at h; omega)
    refine ⟨UInt8.ofNat (n % 256) :: v, by rw [List.length_cons, h1], ?_⟩
    show (UInt8.ofNat (n % 256)).toNat + 256 * leV v = n
    rw [h2, show (UInt8.ofNat (n % 256)).toNat = n % 256 by simp]
    omega
end Mine
end

section
set_option maxRecDepth 100000
open PySem PySem.W PySem.Calls PyProof.Rows
namespace Mine
theorem intBits_ge {n : Int} {j : Nat} (h : 2 ^ j ≤ n.natAbs) : j + 1 ≤ Builtin.Int.intBits n := by
  have h0 : n.natAbs ≠ 0 := by
    have : 0 < 2 ^ j := Nat.pow_pos (by decide)
    omega
  unfold Builtin.Int.intBits
  split
  · rename_i q
    exact absurd (by simpa using q) (fun e : n = 0 => h0 (by rw [e]; rfl))
  · exact Nat.succ_le_succ ((Nat.le_log2 h0).mpr h)
theorem and128_lt {c : UInt8} (h : c.toNat ≤ 127) : c.toNat &&& 128 = 0 := by
  have := (by decide +kernel : ∀ k : Fin 128, k.val &&& 128 = 0) ⟨c.toNat, by omega⟩
  exact this
theorem and128_ge {c : UInt8} (h : 128 ≤ c.toNat) : c.toNat &&& 128 ≠ 0 := by
  have := (by decide +kernel : ∀ k : Fin 128, (k.val + 128) &&& 128 ≠ 0) ⟨c.toNat - 128, by have := c.toNat_lt; omega⟩
  have e : c.toNat - 128 + 128 = c.toNat := by omega
  dsimp only at this
  rwa [e] at this
def Canon (c : UInt8) (w : List UInt8) : Prop := w ≠ [] → ¬ ((c.toNat = 0 ∧ (w.getLastD 0).toNat < 128) ∨ (c.toNat = 255 ∧ 127 < (w.getLastD 0).toNat))
theorem last_snoc (w : List UInt8) (c : UInt8) : (w ++ [c]).getLastD 0 = c := by simp [List.getLastD_eq_getLast?]
theorem snoc_of {w : List UInt8} (h : w ≠ []) : ∃ w', w = w' ++ [w.getLastD 0] := by
  refine ⟨w.dropLast, ?_⟩
  have := (List.dropLast_concat_getLast h).symm
  rw [List.getLastD_eq_getLast?, List.getLast?_eq_some_getLast h]
  exact this
theorem ne0 {c : UInt8} (h : c.toNat ≠ 0) : c ≠ 0 := fun e => h (by rw [e]; rfl)
theorem pack_canon (c : UInt8) (w : List UInt8) (hc : Canon c w) : packB (meantI (bI (c :: w.reverse))) = c :: w.reverse := by
  have hw := leV_lt w
  have hcl : c.toNat < 256 := c.toNat_lt
  have hs := leV_snoc w c
  rw [meant_form]
  have hrev : (w ++ [c]).reverse = c :: w.reverse := by simp
  by_cases h : 127 < (c.toNat : Int)
  · have h' : 127 < c.toNat := by omega
    rw [if_pos h]
    have hp : (0 : Int) < 256 ^ w.length := Int.pow_pos (by decide)
    have hwI : (leV w : Int) < 256 ^ w.length := by exact_mod_cast hw
    have hcI : (c.toNat : Int) ≤ 255 := by omega
    have hcn : (c.toNat : Int) - 256 ≤ -1 := by omega
    generalize hW : ((c.toNat : Int) - 256) * 256 ^ w.length + (leV w : Int) = W
    have hmul : ((c.toNat : Int) - 256) * 256 ^ w.length ≤ -1 * 256 ^ w.length := Int.mul_le_mul_of_nonneg_right hcn (Int.le_of_lt hp)
    have hneg : W < 0 := by omega
    have hmul2 : -128 * (256 : Int) ^ w.length ≤ ((c.toNat : Int) - 256) * 256 ^ w.length := Int.mul_le_mul_of_nonneg_right (by omega) (Int.le_of_lt hp)
    have hle0 : (0 : Int) ≤ leV w := Int.natCast_nonneg _
    have hab : (((W.natAbs : Nat) : Int) - 1).natAbs = W.natAbs - 1 := by omega
    have hbits : Builtin.Int.intBits ((W.natAbs : Int) - 1) / 8 = w.length := by
      have e8 : (2 : Nat) ^ (8 * w.length) = 256 ^ w.length := by rw [Nat.pow_mul]
      have hup : Builtin.Int.intBits ((W.natAbs : Int) - 1) ≤ 8 * w.length + 7 := by
        refine intBits_le ?_
        rw [hab, Nat.pow_add, e8]
        have hpn : ((256 ^ w.length : Nat) : Int) = 256 ^ w.length := by simp
        have : (W.natAbs : Int) ≤ 128 * 256 ^ w.length := by omega
        have hp' : (0 : Int) < ((256 ^ w.length : Nat) : Int) := by rw [hpn]; exact hp
        rw [← hpn] at this
        generalize 256 ^ w.length = q at *
        have : W.natAbs ≤ 128 * q := by omega
        show W.natAbs - 1 < q * 128
        omega
      have hlo : 8 * w.length ≤ Builtin.Int.intBits ((W.natAbs : Int) - 1) := by
        by_cases hn : w = []
        · rw [hn]; exact Nat.zero_le _
        · obtain ⟨w', hw'⟩ := snoc_of hn
          have hcan := hc hn
          generalize hd : w.getLastD 0 = d at *
          have hl : w.length = w'.length + 1 := by rw [hw']; simp
          have hw'l := leV_lt w'
          have hsw := leV_snoc w' d
          rw [← hw'] at hsw
          have hdl : d.toNat < 256 := d.toNat_lt
          have e9 : 8 * w.length = 8 * w'.length + 7 + 1 := by omega
          rw [e9]
          refine intBits_ge ?_
          rw [hab, Nat.pow_add, Nat.pow_mul]
          have hpw : (256 : Int) ^ w.length = 256 * ((256 ^ w'.length : Nat) : Int) := by rw [hl, Int.pow_succ, Int.mul_comm]; simp
          rw [hpw] at hW hwI
          show 256 ^ w'.length * 128 ≤ W.natAbs - 1
          generalize 256 ^ w'.length = q at *
          by_cases h255 : c.toNat = 255
          · have hd7 : d.toNat ≤ 127 := by
              have : ¬ 127 < d.toNat := fun x => hcan (.inr ⟨h255, x⟩)
              omega
            have : d.toNat * q ≤ 127 * q := Nat.mul_le_mul_right _ hd7
            rw [h255] at hW
            omega
          · have hc2 : (c.toNat : Int) - 256 ≤ -2 := by omega
            have hq0 : (0 : Int) ≤ 256 * (q : Int) := by omega
            have := Int.mul_le_mul_of_nonneg_right hc2 hq0
            omega
      omega
    unfold packB
    rw [if_neg (by omega), if_pos hneg, hbits]
    have hval : ((2 : Int) ^ (8 * (w.length + 1)) + W).toNat = leV (w ++ [c]) := by
      have e : (2 : Int) ^ (8 * (w.length + 1)) = 256 * 256 ^ w.length := by rw [Int.pow_mul, Int.pow_succ, Int.mul_comm]; rfl
      rw [e, ← hW, hs, Int.sub_mul]
      have : ((leV w + c.toNat * 256 ^ w.length : Nat) : Int) = (leV w : Int) + (c.toNat : Int) * 256 ^ w.length := by simp
      omega
    unfold packN
    rw [hval, leB_leV _ (.inr (by rw [last_snoc]; exact ne0 (by omega)))]
    unfold fixL
    rw [if_neg (by simp), hrev]
  · have h' : c.toNat ≤ 127 := by omega
    rw [if_neg h]
    have hval : (c.toNat : Int) * 256 ^ w.length + (leV w : Int) = ((leV (w ++ [c]) : Nat) : Int) := by rw [hs]; simp; omega
    rw [hval]
    by_cases h0 : c.toNat = 0
    · have hc0 : c = 0 := UInt8.toNat_inj.mp (by simpa using h0)
      have hsv : leV (w ++ [c]) = leV w := by rw [hs, h0]; simp
      rw [hsv]
      by_cases hn : w = []
      · subst hn
        rw [hc0]; rfl
      · have hd := hc hn
        have hd8 : 128 ≤ (w.getLastD 0).toNat := by
          have : ¬ (w.getLastD 0).toNat < 128 := fun x => hd (.inl ⟨h0, x⟩)
          omega
        have hlw : leB (leV w) = w := leB_leV w (.inr (ne0 (by omega)))
        have hv0 : leV w ≠ 0 := fun e => by rw [e, leB_zero] at hlw; exact hn hlw.symm
        unfold packB packN
        rw [if_neg (by omega), if_neg (by omega), Int.toNat_natCast, hlw]
        unfold fixL
        rw [if_pos ⟨rfl, and128_ge hd8⟩, ← hc0, hrev]
    · have hpos : leV (w ++ [c]) ≠ 0 := by
        rw [hs]
        have : 0 < c.toNat * 256 ^ w.length := Nat.mul_pos (by omega) (Nat.pow_pos (by decide))
        omega
      unfold packB packN
      rw [if_neg (by omega), if_neg (by omega), Int.toNat_natCast, leB_leV _ (.inr (by rw [last_snoc]; exact ne0 h0))]
      unfold fixL
      rw [last_snoc, if_neg (by rw [and128_lt h']; simp), hrev]
end Mine
end

section
set_option maxRecDepth 100000
open PySem PySem.W PySem.Calls PyProof.Rows
namespace Mine
def Byt (ns : List Int) : Prop := ∀ n ∈ ns, 0 ≤ n ∧ n < 256
theorem short_props : ∀ ns : List Int, ns ≠ [] → Byt ns → ∃ a r, shortI ns = a :: r ∧ Byt (a :: r) ∧ (a :: r).length ≤ ns.length ∧ meantI (a :: r) = meantI ns ∧ (∀ b r', r = b :: r' → ¬ ((a = 0 ∧ b < 128) ∨ (a = 255 ∧ 127 < b)))
  | [], h, _ => absurd rfl h
  | [a], _, hr => ⟨a, [], rfl, hr, Nat.le_refl _, rfl, fun _ _ e => nomatch e⟩
  | a :: b :: r, _, hr => by
    by_cases hc : (a = 0 ∧ b < 128) ∨ (a = 255 ∧ 127 < b)
    · obtain ⟨a', r', e1, e2, e3, e4, e5⟩ := short_props (b :: r) (by simp) fun n hn => hr n (List.mem_cons_of_mem _ hn)
      refine ⟨a', r', ?_, e2, Nat.le_trans e3 (Nat.le_succ _), e4.trans ?_, e5⟩
      · rw [← e1]; exact if_pos hc
      · show r.foldl fo (if 127 < b then b - 256 else b) = r.foldl fo (fo (if 127 < a then a - 256 else a) b)
        congr 1
        show _ = (if 127 < a then a - 256 else a) * 256 + b
        rcases hc with ⟨h1, h2⟩ | ⟨h1, h2⟩
        · rw [if_neg (by omega), if_neg (by omega)]; omega
        · rw [if_pos h2, if_pos (by omega)]; omega
    · exact ⟨a, b :: r, if_neg hc, hr, Nat.le_refl _, rfl, fun b' r' e => by injection e with h1 h2; subst h1; exact hc⟩
theorem short_idem {a : Int} {r : List Int} (h : ∀ b r', r = b :: r' → ¬ ((a = 0 ∧ b < 128) ∨ (a = 255 ∧ 127 < b))) : shortI (a :: r) = a :: r := by
  cases r with
  | nil => rfl
  | cons b r => exact if_neg (h b r rfl)
def f8 (n : Int) : UInt8 := n.toNat.toUInt8
theorem bI_f8 {ns : List Int} (h : Byt ns) : bI (ns.map f8) = ns := KBa.ints_make h
theorem pack_short {ns : List Int} (hn : ns ≠ []) (h : Byt ns) : bI (packB (meantI ns)) = shortI ns := by
  obtain ⟨a, r, e1, e2, e3, e4, e5⟩ := short_props ns hn h
  have hb := bI_f8 e2
  have ha : ((f8 a).toNat : Int) = a := by
    have := congrArg (fun l : List Int => l.head?) hb
    simpa [bI] using this
  have hcan : Canon (f8 a) (r.map f8).reverse := by
    intro hne
    cases r with
    | nil => exact absurd rfl hne
    | cons b r' =>
      have hbb : ((f8 b).toNat : Int) = b := by
        have := congrArg (fun l : List Int => l[1]?) hb
        simpa [bI] using this
      have := e5 b r' rfl
      have hl : ((b :: r').map f8).reverse.getLastD 0 = f8 b := by
        rw [List.map_cons, List.reverse_cons]; exact last_snoc _ _
      rw [hl]
      intro q
      apply this
      rcases q with ⟨q1, q2⟩ | ⟨q1, q2⟩
      · exact .inl ⟨by omega, by omega⟩
      · exact .inr ⟨by omega, by omega⟩
  have hp := pack_canon (f8 a) (r.map f8).reverse hcan
  rw [List.reverse_reverse] at hp
  have hb' : bI (f8 a :: r.map f8) = a :: r := hb
  rw [hb', e4] at hp
  rw [hp, hb', e1]
theorem meant_bounds (n : Int) (r : List Int) (h : Byt (n :: r)) : -128 * 256 ^ r.length ≤ meantI (n :: r) ∧ meantI (n :: r) < 128 * 256 ^ r.length := by
  have hn := h n (List.mem_cons_self ..)
  have hb := bI_f8 (ns := r) fun m hm => h m (List.mem_cons_of_mem _ hm)
  have hf := fo_rev (r.map f8).reverse
  rw [List.reverse_reverse, hb] at hf
  have hl := leV_lt (r.map f8).reverse
  rw [List.length_reverse, List.length_map] at hl
  have := fo_add r 0 (if 127 < n then n - 256 else n)
  rw [Int.zero_add, hf] at this
  have hm : meantI (n :: r) = (leV (r.map f8).reverse : Int) + (if 127 < n then n - 256 else n) * 256 ^ r.length := this
  rw [hm]
  have hp : (0 : Int) < 256 ^ r.length := Int.pow_pos (by decide)
  have hlI : (leV (r.map f8).reverse : Int) < 256 ^ r.length := by exact_mod_cast hl
  have hl0 : (0 : Int) ≤ leV (r.map f8).reverse := Int.natCast_nonneg _
  generalize hd : (if 127 < n then n - 256 else n) = d
  have hd1 : -128 ≤ d := by rw [← hd]; split <;> omega
  have hd2 : d ≤ 127 := by rw [← hd]; split <;> omega
  have m1 := Int.mul_le_mul_of_nonneg_right hd1 (Int.le_of_lt hp)
  have m2 := Int.mul_le_mul_of_nonneg_right hd2 (Int.le_of_lt hp)
  omega
theorem meant_small (n : Int) (r : List Int) (h : Byt (n :: r)) (hz : (n :: r).length ≤ 20) : Small (meantI (n :: r)) := by
  obtain ⟨h1, h2⟩ := meant_bounds n r h
  have hp : (256 : Nat) ^ r.length ≤ 256 ^ 19 := Nat.pow_le_pow_right (by decide) (by simp only [List.length_cons] at hz; omega)
  have hpI : (256 : Int) ^ r.length = ((256 ^ r.length : Nat) : Int) := by simp
  rw [hpI] at h1 h2
  have hb : (meantI (n :: r)).natAbs ≤ 128 * 256 ^ r.length := by
    generalize 256 ^ r.length = q at *
    omega
  exact Nat.lt_of_le_of_lt hb (Nat.lt_of_le_of_lt (Nat.mul_le_mul_left 128 hp) (by decide))
theorem pl2 : PL2 := fun n0 ns hr hz => by
  refine ⟨unpack_meant n0 ns, fun h => meant_small n0 ns hr h, pack_short (by simp) hr, ?_⟩
  obtain ⟨a, r, e1, e2, e3, e4, e5⟩ := short_props (n0 :: ns) (by simp) hr
  rw [e1]
  exact Nat.le_trans e3 hz
theorem pl1 : PL1 := fun W hW => by
  have hW : W.natAbs < 2 ^ 190 := hW
  have hq : (2 : Nat) ^ 190 ≤ 128 * 256 ^ 23 := by decide
  have hW2 : W.natAbs < 128 * 256 ^ 23 := Nat.lt_of_lt_of_le hW hq
  clear hW hq
  obtain ⟨n0, ns, hr, hl, hm⟩ : ∃ n0 ns, Byt (n0 :: ns) ∧ (n0 :: ns).length = 24 ∧ meantI (n0 :: ns) = W := by
    have e24 : (256 : Nat) ^ 24 = 256 * 256 ^ 23 := by decide
    have hpI : (256 : Int) ^ 23 = ((256 ^ 23 : Nat) : Int) := by simp
    have hn : (if 0 ≤ W then W else W + 256 * ((256 ^ 23 : Nat) : Int)).toNat < 256 ^ 24 := by
      rw [e24]
      generalize 256 ^ 23 = q at *
      split <;> omega
    obtain ⟨v, hv1, hv2⟩ := digits 24 _ hn
    have hne : v ≠ [] := fun e => by rw [e] at hv1; cases hv1
    obtain ⟨w, hw⟩ := snoc_of hne
    generalize v.getLastD 0 = c at hw
    have hwl : w.length = 23 := by rw [hw] at hv1; simpa using hv1
    have hs := leV_snoc w c
    rw [← hw, hv2, hwl] at hs
    have hlw := leV_lt w
    rw [hwl] at hlw
    have hcl : c.toNat < 256 := c.toNat_lt
    refine ⟨(c.toNat : Int), bI w.reverse, ?_, by simp [bI, hwl], ?_⟩
    · intro n hn
      obtain ⟨d, _, rfl⟩ := List.mem_map.mp (show n ∈ bI (c :: w.reverse) from hn)
      have := d.toNat_lt
      omega
    · have := meant_form c w
      rw [hwl] at this
      refine this.trans ?_
      rw [hpI]
      generalize 256 ^ 23 = q at *
      by_cases h0 : 0 ≤ W
      · rw [if_pos h0] at hs
        have hc : c.toNat ≤ 127 := by
          refine Classical.byContradiction fun x => ?_
          have : 128 * q ≤ c.toNat * q := Nat.mul_le_mul_right _ (by omega)
          omega
        rw [if_neg (by omega)]
        have e : (((c.toNat * q : Nat)) : Int) = (c.toNat : Int) * q := by simp
        omega
      · rw [if_neg h0] at hs
        have hc : 128 ≤ c.toNat := by
          refine Classical.byContradiction fun x => ?_
          have : c.toNat * q ≤ 127 * q := Nat.mul_le_mul_right _ (by omega)
          omega
        rw [if_pos (by omega), Int.sub_mul]
        have e : (((c.toNat * q : Nat)) : Int) = (c.toNat : Int) * q := by simp
        omega
  obtain ⟨a, r, e1, e2, e3, e4, e5⟩ := short_props (n0 :: ns) (by simp) hr
  have hp := pack_short (ns := n0 :: ns) (by simp) hr
  rw [hm, e1] at hp
  exact ⟨a, r, hp, by omega, e4.trans hm, short_idem e5, (unpack_meant a r).trans (e4.trans hm)⟩
end Mine
end

section
set_option maxRecDepth 100000
open PySem PySem.W PySem.Calls PyProof.Rows
namespace Mine
theorem law_end2 {s₀ s₁ s' : Shared} {args : List WData} (hk : OldK s₁.heap s'.heap) (hos : s'.os = s₁.os) (hg : AllBare s'.gens) :
    GoodWG PySem.Challenge.rw_vj0001_01.row.claim (classAt s₀.heap) (ExcName.means s₀.heap) args s₁ (.ok (.ret (.bool true))) s' :=
  ⟨.inl ⟨.bool true, .bool true, [], rfl, fun _ => rfl, .bool true, postW_of (r := PySem.Challenge.rw_vj0001_01.row.toRowW) (X := (true == true)) (by decide +kernel) (by exact w_eq_bool (k := true) (l := true) (w_res rfl) w_lit) rfl, fun _ => ⟨.nil, fun _ h => nomatch h⟩⟩, hk, hos, hg⟩
theorem oldk_of {h h' : Heap} {P : Addr} (t0 : h.IsCode 20 P #[] ∧ h.TableAt 20 P #[]) (t : Tb P h') (k : ∀ c o, c ≠ P → h.get? c = some o → h'.get? c = some o) : OldK h h' := by
  obtain ⟨ps, hc, ht, _⟩ := t.out
  exact (OldK.refl h).step_table (ps := #[]) (more := ps) t0.2 t0.2 (by simpa using ht) (fun b o hb e => k b o hb e) t.ne
theorem isn_ne {h : Heap} {P c : Addr} {ps : Array Value} (hl : h.NoLimit) (t : h.TableAt c P ps) : P ≠ cStatics := fun e => by
  obtain ⟨mc, hn, _⟩ := hl
  obtain ⟨o, es, ep, ho, hd, _⟩ := hn
  have := t.2
  rw [e, ho] at this
  cases this
  cases hd
set_option maxHeartbeats 8000000 in
theorem whole : PySem.Challenge.rw_vj0001_01.Holds := MineHead.hd (by
  k_fill
  intro w s₀ s₁ mg mb G Y fa o pm cd doc dV kV ho hd hcd hD hmg hg args vals as hpre hlay hrd hwl hlo
  have KX := kIn_of Y
  refine Ground.open G ?_
  intro T B D TE TW
  have hmg' := hmg
  try (obtain ⟨_, _, he, B0⟩ := based_of_top T rfl hmg ho hd; have he' : cd = _ := he; subst he'; clear he)
  clear hmg
  wrow_args hpre hlay hrd hwl hlo
  have h54 : mg (Str.ofString "law") = some (.ref 54) := mg_of KX T.g (by k_is)
  have hfa : (Value.ref fa) = .ref 54 := Option.some.inj (hmg'.symm.trans h54)
  rw [hfa]
  have h21 : mg (Str.ofString "varint_unpack") = some (.ref 21) := mg_of KX T.g (by k_is)
  have key := based_of_top T (name := Str.ofString "varint_unpack") rfl h21 (in_of KX (by k_is)) (by exact rfl)
  obtain ⟨c, P, he, BP⟩ := key
  have hc20 : Value.ref 20 = .ref c := he
  cases hc20
  have hM : ∃ bm ob, BMod s₁.heap mainGlobals mg bm ob := by
    obtain ⟨bm, ob, h1, h2, h3, h4, h5, h6⟩ := T.bmain
    exact ⟨bm, ob, T.g, h1, h2, h3, h4, h5, h6⟩
  have hb : Tb P s₁.heap := ⟨BP.notStatics, #[], BP.code, BP.tab, .inl rfl⟩
  refine any_calmly ?_ ?_
  · refine law_ok pl1 pl2 T ⟨KX, topRead_of T, hM⟩ hb (AllBare.of_eq hg) (by assumption) (by assumption) (by omega) (fun s' k tb os gens => law_end2 (oldk_of ⟨BP.code, BP.tab⟩ tb k) os gens)
  · exact law_end2 (.refl _) rfl (AllBare.of_eq (by assumption)))
end Mine
end

theorem PySem.Challenge.cw_vj0001_01_holds : PySem.Challenge.rw_vj0001_01.Holds := by
  exact Mine.whole
