import PyProof.Rows.All
import Wide.All
import OpenK.AllK
import Wide.FinOn
import Lean
import PySem.Challenge.RW_gy0001_01
set_option Elab.async false
set_option maxRecDepth 100000

/-! ## GyS -/
section
open PySem PySem.W PyProof.Rows PySem.Calls
namespace Mine

/-- a built-in that may hold a bytearray while it decodes -/
def isDec (c : Code) : Bool := match c with
  | .builtin id _ => Builtin.Bytes.decodersThatHold.contains id
  | _ => false
theorem isDec_builtin (id : String) (args : Args) : isDec (.builtin id args) = Builtin.Bytes.decodersThatHold.contains id := rfl
def CleanB (Γ : PySem.Ctx) : Prop := ∀ x ∈ Γ.below, isDec x.1 = false
def Clean (Γ : PySem.Ctx) : Prop := isDec Γ.code = false ∧ CleanB Γ

/-- wpAny, over the contexts alone whose stack holds no decoder -/
def wpS {α : Type} (M : Model) (A : Around) (t : Sem α) (Q : α → Shared → Prop) (E : Value → Shared → Prop) (s : Shared) : Prop :=
  ∀ Γ p, Γ.In A → Clean Γ → Sem.wp M Γ t (fun a _ s' => Q a s') (fun e _ s' => E e s') p s
def codeS (M : Model) (A : Around) (c : Code) (R : Result → Shared → Prop) (s : Shared) : Prop :=
  ∀ Γ p, Γ.code = c → Γ.Below A → CleanB Γ → wpCode M Γ R p s

section
variable {α β : Type} {M : Model} {A : Around} {E : Value → Shared → Prop} {s : Shared}

theorem S_any {t : Sem α} {Q : α → Shared → Prop} (h : wpAny M A t Q E s) : wpS M A t Q E s := fun Γ p hΓ _ => h Γ p hΓ
theorem codeS_any {c : Code} {R : Result → Shared → Prop} (h : codeAny M A c R s) : codeS M A c R s := fun Γ p hc hΓ _ => h Γ p hc hΓ
theorem S_mono {t : Sem α} {Q Q' : α → Shared → Prop} {E' : Value → Shared → Prop} (h : wpS M A t Q E s) (hQ : ∀ a s, Q a s → Q' a s) (hE : ∀ e s, E e s → E' e s) : wpS M A t Q' E' s :=
  fun Γ p hΓ hc => Sem.wp_mono M Γ t (fun a _ s => hQ a s) (fun e _ s => hE e s) p s (h Γ p hΓ hc)
theorem S_pure {a : α} {Q : α → Shared → Prop} (h : Q a s) : wpS M A (pure a) Q E s := fun _ _ _ _ => h
theorem S_bind {m : Sem α} {f : α → Sem β} {Q : β → Shared → Prop} (h : wpS M A m (fun a s' => wpS M A (f a) Q E s') E s) : wpS M A (m >>= f) Q E s := fun Γ p hΓ hc => by
  rw [Sem.wp_bind']
  exact Sem.wp_mono M Γ m (fun a p' s' h' => h' Γ p' hΓ hc) (fun _ _ _ h' => h') p s (h Γ p hΓ hc)
theorem S_map {m : Sem α} {f : α → β} {Q : β → Shared → Prop} (h : wpS M A m (fun a s' => Q (f a) s') E s) : wpS M A (f <$> m) Q E s := fun Γ p hΓ hc => by
  rw [Sem.wp_map]; exact h Γ p hΓ hc
theorem S_holding {vs : List Value} {m : Sem α} {Q : α → Shared → Prop} (h : wpS M A m Q E s) : wpS M A (holding vs m) Q E s := fun Γ p hΓ hc => by
  rw [Sem.wp_holding]; exact h Γ p hΓ hc
theorem S_standAt {pos : Pos} {Q : Unit → Shared → Prop} (h : Q () s) : wpS M A (standAt pos) Q E s := fun _ _ _ _ => h
theorem S_onRaise {m : Sem α} {k : Value → Sem Unit} {Q : α → Shared → Prop} (h : wpS M A m Q (fun e s' => wpAny M A (k e) (fun _ s'' => E e s'') E s') s) : wpS M A (m.onRaise k) Q E s := fun Γ p hΓ hc => by
  rw [Sem.wp_onRaise]
  exact Sem.wp_mono M Γ m (fun _ _ _ h' => h') (fun e p' s' h' => h' Γ p' hΓ) p s (h Γ p hΓ hc)
theorem S_of_eq {t t' : Sem α} {Q : α → Shared → Prop} (e : t = t') (h : wpS M A t' Q E s) : wpS M A t Q E s := by rw [e]; exact h
theorem codeS_mono {c : Code} {R R' : Result → Shared → Prop} (h : codeS M A c R s) (hR : ∀ r s, R r s → R' r s) : codeS M A c R' s :=
  fun Γ p hc hΓ hb => wpCode_mono hR (h Γ p hc hΓ hb)
theorem S_enter {Γ : PySem.Ctx} (hc : Clean Γ) (c : Code) (h : Option Value) (p : Pos) : CleanB (Γ.enter c h p) := by
  intro x hx
  rcases List.mem_cons.mp (show x ∈ (Γ.code, p) :: Γ.below from hx) with rfl | hx
  · exact hc.1
  · exact hc.2 x hx
theorem S_run {c : Code} {Q : Flow → Shared → Prop}
    (hc : codeS M (A.mark none) c (fun r s' => match r with | .ok f => Q f s' | .error e => E e s') s) : wpS M A (run c none) Q E s :=
  fun Γ p hΓ hb => by rw [Sem.wp_run]; exact hc _ p rfl (hΓ.enter c none p (by intro x; cases x)) (S_enter hb c none p)
theorem S_runValue {c : Code} {Q : Value → Shared → Prop}
    (hc : codeS M A c (fun r s' => match r with | .ok (.ret v) => Q v s' | .ok _ => False | .error e => E e s') s) : wpS M A (runValue c) Q E s :=
  fun Γ p hΓ hb => by rw [Sem.wp_runValue]; exact hc _ p rfl (hΓ.enter c none p (by intro x; cases x)) (S_enter hb c none p)
theorem S_call {f : Value} {pos : List Value} {Q : Value → Shared → Prop}
    (hc : codeS M A (.call f ⟨pos, []⟩) (fun r s' => match r with | .ok (.ret v) => Q v s' | .ok _ => False | .error e => E e s') s) : wpS M A (call f pos) Q E s := S_runValue hc
theorem codeS_of_tree {c : Code} {R : Result → Shared → Prop} (hd : isDec c = false)
    (h : wpS M (A.under c) (M.den c) (fun fin s' => match fin with | .done f => R (.ok f) s' | .again c' => c'.quiet = true ∧ codeS M A c' R s') (fun e s' => R (.error e) s') s) : codeS M A c R s := fun Γ p hc hΓ hb => by
  rw [wpCode_iff_wp, hc]
  refine Sem.wp_mono M Γ _ (fun fin p' s' h' => ?_) (fun _ _ _ h' => h') p s (h Γ p (hc ▸ hΓ.in) ⟨by rw [hc]; exact hd, hb⟩)
  cases fin with
  | done f => exact h'
  | again c' => exact ⟨h'.1, h'.2 (Γ.goto c') p' rfl (hΓ.goto c') hb⟩
/-- the look whether something holds the bytearray: nothing does -/
theorem S_exported {a : Addr} {Q : Bool → Shared → Prop} (hg : A.guards = some []) (h : Q false s) : wpS M A (Builtin.Bytes.exported (.ref a)) Q E s := fun Γ p hΓ hc => by
  have hgs : ∀ x ∈ (Γ.code, p) :: Γ.below, x.1.isGuard = false := by
    have h0 : guardsOf ((Γ.code, p) :: Γ.below) = [] := by
      rw [guardsOf_cons]; exact hΓ.2.2.2.1 [] hg
    intro x hx
    cases hq : x.1.isGuard with
    | false => rfl
    | true =>
      have : x.1 ∈ guardsOf ((Γ.code, p) :: Γ.below) := List.mem_filter.mpr ⟨List.mem_map_of_mem hx, hq⟩
      rw [h0] at this
      cases this
  have hds : ∀ x ∈ (Γ.code, p) :: Γ.below, isDec x.1 = false := by
    intro x hx
    rcases List.mem_cons.mp hx with rfl | hx
    · exact hc.1
    · exact hc.2 x hx
  have hf : (((Γ.code, p) :: Γ.below).any fun
    | (.builtin "bytearray.__contains__" ⟨v :: _, _⟩, _) | (.builtin "bytearray.__mod__" ⟨v :: _, _⟩, _)
    | (.builtin "bytearray.__rmod__" ⟨_ :: v :: _, _⟩, _) | (.builtin "_struct.pack_into.held" ⟨v :: _, _⟩, _) => Builtin.Bytes.sameRef v (.ref a)
    | (.builtin "bytearray.find.held" ⟨_ :: _ :: held, _⟩, _) => held.any (Builtin.Bytes.sameRef (.ref a))
    | (.builtin id ⟨v :: _, _⟩, _) => Builtin.Bytes.sameRef v (.ref a) && Builtin.Bytes.decodersThatHold.contains id
    | _ => false) = false := by
    rw [List.any_eq_false]
    intro x hx
    have h1 := hgs x hx
    have h2 := hds x hx
    obtain ⟨c, q⟩ := x
    have g1 : ∀ (id : String) (l : Args), c = .builtin id l → guardIds.contains id = false := by
      rintro id l rfl; exact h1
    have d1 : ∀ (id : String) (l : Args), c = .builtin id l → Builtin.Bytes.decodersThatHold.contains id = false := by
      rintro id l rfl; exact h2
    clear h1 h2
    split
    all_goals (rename_i e; first | exact Bool.false_ne_true | (have e1 := congrArg Prod.fst e; dsimp only at e1))
    · exact absurd (g1 _ _ e1) (by decide)
    · exact absurd (g1 _ _ e1) (by decide)
    · exact absurd (g1 _ _ e1) (by decide)
    · exact absurd (g1 _ _ e1) (by decide)
    · exact absurd (g1 _ _ e1) (by decide)
    · rw [d1 _ _ e1, Bool.and_false]
      exact Bool.false_ne_true
  show Q _ s
  refine Eq.mpr (congrArg (fun b => Q b s) ?_) h
  exact hf
end
end Mine
end

/-! ## GyB0 -/
section
open PySem PySem.W PyProof.Rows PySem.Calls
namespace Mine
section
variable {prog : Program} {w : World} {A : Around} {E : Value → Shared → Prop} {s : Shared}
theorem codeS_builtin {id : String} {args : Args} {b : Builtin} {R : Result → Shared → Prop} (hb : entryFor table id = some b) (hd : isDec (.builtin id args) = false)
    (h : wpS (model prog w) (A.under (.builtin id args)) (b args) (fun fin s' => match fin with | .done f => R (.ok f) s' | .again c' => c'.quiet = true ∧ codeS (model prog w) A c' R s') (fun e s' => R (.error e) s') s) :
    codeS (model prog w) A (.builtin id args) R s := by
  refine codeS_of_tree hd ?_
  show wpS _ _ (match entryFor table id with | some b => b args | none => unsupported ((withoutEnding? id "#data").getD id)) _ _ _
  rw [hb]
  exact h
theorem S_ite_false {α : Type} {M : Model} {c : Bool} {a b : Sem α} {Q : α → Shared → Prop} (hc : c = false) (h : wpS M A b Q E s) : wpS M A (if c = true then a else b) Q E s := by
  subst hc; exact h
theorem S_ite_true {α : Type} {M : Model} {c : Bool} {a b : Sem α} {Q : α → Shared → Prop} (hc : c = true) (h : wpS M A a Q E s) : wpS M A (if c = true then a else b) Q E s := by
  subst hc; exact h

theorem ba_mro : mroOf (.type "bytearray") = pure [.type "bytearray", .type "object"] := by rw [mroOf_type]; kernel_rfl
theorem ba_lookup_new : typeLookup (.type "bytearray") "__new__" = pure (some (.builtin "bytearray.__new__")) := by rw [typeLookup_type, builtinLookup_eq_fast]; kernel_rfl
theorem ba_slot_init : Slot "bytearray" "__init__" "bytearray.__init__" :=
  .of (owner := "bytearray") (n := "__init__") (by rw [typeLookup_type, builtinLookup_eq_fast]; kernel_rfl) (by decide +kernel) (by decide +kernel) (by decide +kernel)
    (by first | exact .inl (by decide +kernel) | exact .inr (by decide +kernel)) (by rw [isSubtype_type]; kernel_rfl)
theorem ba_sub : isSubtype (.type "bytearray") (.type "bytearray") = pure true := by rw [isSubtype_type]; kernel_rfl
theorem ba_called : TypeCalled "bytearray" "bytearray.__new__" "bytearray.__init__" :=
  ⟨by decide +kernel, by decide +kernel, ⟨_, _, ba_mro⟩, madeBy_type ba_mro ba_lookup_new (by decide +kernel), by decide +kernel, ba_sub, ba_slot_init⟩
theorem ba_typeCall (a : Value) : checkTypeCall "bytearray" ⟨[a], []⟩ = pure () := by kernel_rfl
theorem ba_newCall (a : Value) : checkBuiltinCall "bytearray.__new__" ⟨[.type "bytearray", a], []⟩ = pure () := by kernel_rfl
theorem ba_entry_new : entryFor table "bytearray.__new__" = some Builtin.«list.__new__» := entryFor_alias (id' := "list.__new__") (by kernel_rfl) (by decide +kernel) (by decide +kernel) (by kernel_rfl)
theorem ba_plain_new : plainId "bytearray.__new__" = true := by decide +kernel
theorem ba_plain_init : plainId "bytearray.__init__" = true := by decide +kernel
theorem ba_entry_init : entryFor table "bytearray.__init__" = some Builtin.«bytearray.__init__» := by first | exact entryFor_of_fast (by kernel_rfl) | exact entryFor_of_tree (by kernel_rfl)
theorem ba_bind (v : Value) : Builtin.Bytes.bindOptional "bytearray.__init__" "bytearray" ["source", "encoding", "errors"] [v] [] = pure [some v, none, none] := by kernel_rfl
set_option maxRecDepth 1000000 in
set_option maxHeartbeats 4000000 in
theorem ba_owner : ("bytearray.__new__".splitOn ".__new__").headD "" = "bytearray" := by simp +decide [String.splitOn, String.splitOnAux]

theorem ba_new (a : Value) {Q₁ : Value → Shared → Prop}
    (h : Q₁ (.ref s.heap.objs.size) { s with heap := s.heap.push { cls := .type "bytearray", data := .bytearray #[] } }) :
    codeAny (model prog w) A (.call (.builtin "bytearray.__new__") ⟨[.type "bytearray", a], []⟩) (wants Q₁ E) s := by
  refine codeAny_of_tree ?_
  show wpAny _ A.in1 (do checkBuiltinCall "bytearray.__new__" ⟨[.type "bytearray", a], []⟩; again (.builtin "bytearray.__new__" ⟨[.type "bytearray", a], []⟩)) _ _ s
  refine wpAny_bind (wpAny_of_eq (ba_newCall a) (wpAny_pure ⟨plainId_quiet ba_plain_new _, codeAny_builtin_stack ba_entry_new rfl fun p st => ?_⟩))
  rw [Around.under_plainId ba_plain_new _]
  have hsub := ba_sub
  have hown := ba_owner
  obtain ⟨hp, g, d, tk, os⟩ := s
  simp only [hown]
  wp_walk
  exact h

theorem ba_release : typeLookup (.type "bytearray") "__release_buffer__" = pure (some (.builtin "bytearray.__release_buffer__")) := by rw [typeLookup_type, builtinLookup_eq_fast]; kernel_rfl
theorem int_index : typeLookup (.type "int") "__index__" = pure (some (.builtin "int.__index__")) := by rw [typeLookup_type, builtinLookup_eq_fast]; kernel_rfl
theorem ownRelease_ba {a : Addr} {Q : Bool → Shared → Prop} (hT : s.TypeIs (.ref a) "bytearray") (h : Q false s) : wpAny (model prog w) A (Builtin.Bytes.ownRelease (.ref a)) Q E s := by
  unfold Builtin.Bytes.ownRelease Builtin.Bytes.slotIsOwn
  refine wpAny_bind (wpAny_bind (wpAny_specialOf hT ba_release ?_))
  dsimp only
  refine bm_if_false (by decide +kernel) ?_
  have e : ("bytearray.__release_buffer__".dropRight ("__release_buffer__".length + 1)) = "bytearray" := by decide +kernel
  rw [e]
  refine wpAny_isInstance hT ba_sub (wpAny_pure h)

end
end Mine
end

/-! ## GyB1 -/
section
open PySem PySem.W PyProof.Rows PySem.Calls
namespace Mine
section
variable {prog : Program} {w : World} {A : Around} {E : Value → Shared → Prop} {s : Shared}

def baObj (b : Array UInt8) : Obj := { cls := .type "bytearray", data := .bytearray b }

theorem ba_write {a : Addr} {b : Array UInt8} {f : Array UInt8 → Array UInt8} {Q : Unit → Shared → Prop} (ho : s.heap.get? a = some (baObj b)) (hz : (f b).size ≤ sizeLine)
    (h : ∀ h', Heap.SameBut a s.heap h' → h'.get? a = some (baObj (f b)) → Q () { s with heap := h' }) : wpAny (model prog w) A (Builtin.Bytes.write (.ref a) f) Q E s := by
  show wpAny _ _ (updateBytearray a f) _ _ _
  unfold updateBytearray
  refine wpAny_bind (wpAny_load ho ?_)
  show wpAny _ _ (update a (Obj.mapBytearray f) >>= fun _ => lookBehind a) _ _ _
  refine wpAny_bind (wpAny_update ho ?_)
  have h2 : (s.heap.update a (Obj.mapBytearray f)).get? a = some (baObj (f b)) := Heap.get?_update_self (Obj.mapBytearray f) ho rfl
  refine wpAny_lookBehind h2 ?_ (h _ (Heap.SameBut.update ..) h2)
  show (if (f b).size > sizeLine then some "bytearray:memory" else none) = none
  rw [if_neg (Nat.not_lt.mpr hz)]

theorem ba_init {S : Addr} {n : Int} {t : Tok} {R : Result → Shared → Prop} (hg : A.guards = some []) (h0 : 0 ≤ n) (h1 : n ≤ 4096) (ho : s.heap.get? S = some (baObj #[]))
    (h : ∀ h', Heap.SameBut S s.heap h' → h'.get? S = some (baObj (Array.replicate n.toNat 0)) → R (.ok (.ret .none)) { s with heap := h' }) :
    codeS (model prog w) A (.builtin "bytearray.__init__" ⟨[.ref S, .int n t], []⟩) R s := by
  refine codeS_builtin ba_entry_init ((isDec_builtin _ _).trans (by decide +kernel)) ?_
  rw [Around.under_plainId ba_plain_init _]
  have hT : s.TypeIs (.ref S) "bytearray" := ⟨_, ho, rfl⟩
  unfold Builtin.«bytearray.__init__»
  refine S_bind (S_any (ownRelease_ba hT ?_))
  refine S_ite_false rfl ?_
  refine S_bind (S_any (wpAny_of_eq (ba_bind _) ?_))
  dsimp only
  refine S_bind (S_any (wpAny_of_eq (a := ()) rfl ?_))
  refine S_bind (S_any (wpAny_of_eq (a := ()) rfl ?_))
  refine S_bind (S_bind (S_exported hg (S_any ?_)))
  show wpAny _ _ (Builtin.Bytes.exportsOf (.ref S) >>= fun k => pure (decide (k > 0))) _ _ _
  refine wpAny_bind ?_
  unfold Builtin.Bytes.exportsOf
  refine wpAny_bind (wpAny_load ho ?_)
  show wpAny _ _ (pure 0) _ _ _
  refine wpAny_pure (wpAny_pure ?_)
  refine S_ite_false rfl (S_any ?_)
  refine wpAny_bind (ba_write ho (Nat.zero_le _) fun h2 hs2 ho2 => ?_)
  refine wpAny_bind (wpAny_of_eq (a := none) rfl ?_)
  refine bm_if_false rfl ?_
  refine wpAny_bind (wpAny_of_eq (a := ()) rfl ?_)
  refine wpAny_bind (wpAny_specialOf_val (T := "int") rfl int_index ?_)
  refine bm_if_true rfl ?_
  refine wpAny_bind (wpAny_attempt (wpAny_of_eq (a := n) rfl ?_))
  dsimp only
  have k1 : (!Builtin.Bytes.fitsIndex n) = false := by
    simp only [Builtin.Bytes.fitsIndex, Bool.not_eq_false', Bool.and_eq_true, decide_eq_true_eq]; omega
  have k3 : (n == 2 ^ 63 - 1) = false := by
    simp only [beq_eq_false_iff_ne]; omega
  have k4 : Builtin.Bytes.tooLong n.toNat = false := by
    unfold Builtin.Bytes.tooLong
    simp only [decide_eq_false_iff_not]
    rw [sizeLine_eq]
    omega
  refine bm_if_false k1 ?_
  rw [if_neg (show ¬ n < 0 by omega)]
  refine bm_if_false k3 ?_
  refine bm_if_false k4 ?_
  refine wpAny_bind (wpAny_rule ?_)
  have hz : (Array.replicate n.toNat (0 : UInt8)).size ≤ sizeLine := by
    rw [Array.size_replicate, sizeLine_eq]; omega
  by_cases hn : n > 0
  · rw [if_pos hn]
    exact wpAny_bind (ba_write ho2 hz fun h3 hs3 ho3 => wpAny_pure (h h3 (hs2.trans hs3) ho3))
  · rw [if_neg hn]
    have e : n.toNat = 0 := by omega
    exact wpAny_pure (h h2 hs2 (by rw [e]; exact ho2))

/-- bytearray(n) -/
theorem S_bytearray {n : Int} {t : Tok} {Q : Value → Shared → Prop} (hg : A.guards = some []) (h0 : 0 ≤ n) (h1 : n ≤ 4096)
    (h : ∀ h', (∀ b o, s.heap.get? b = some o → h'.get? b = some o) → s.heap.objs.size < h'.objs.size → h'.get? s.heap.objs.size = some (baObj (Array.replicate n.toNat 0)) → Q (.ref s.heap.objs.size) { s with heap := h' }) :
    wpS (model prog w) A (call (.type "bytearray") [.int n t]) Q E s := by
  refine S_call (codeS_of_tree rfl ?_)
  show wpS _ _ (callAny (.type "bytearray") _) _ _ _
  refine S_pure ⟨Code.quiet_builtin _ (by decide +kernel), codeS_builtin F.entry_type_call ((isDec_builtin _ _).trans (by decide +kernel)) ?_⟩
  rw [Around.under_plain (weight_type_call_type "bytearray" _ []) rfl]
  unfold Builtin.«type.__call__»
  dsimp only
  refine S_ite_false (by decide) ?_
  refine S_ite_false ba_called.canCreate ?_
  refine S_bind (S_any (wpAny_of_eq (ba_typeCall _) ?_))
  refine S_bind (S_any (wpAny_of_eq ba_mro ?_))
  refine S_ite_false rfl ?_
  refine S_bind (S_any (wpAny_of_eq ba_called.made ?_))
  dsimp only
  refine S_bind (S_pure ?_)
  refine S_bind (S_holding (S_any (wpAny_call (codeAny_mono (ba_new (E := fun _ _ => False) (.int n t) (Q₁ := fun v s' => v = .ref s.heap.objs.size ∧ s' = { s with heap := s.heap.push (baObj #[]) }) ⟨rfl, rfl⟩) fun r s₁ hr => ?_))))
  cases r with
  | error e => exact hr.elim
  | ok fl =>
  cases fl with
  | next => exact hr.elim
  | brk => exact hr.elim
  | cont => exact hr.elim
  | ret v =>
  obtain ⟨rfl, rfl⟩ := hr
  have ho : (s.heap.push (baObj #[])).get? s.heap.objs.size = some (baObj #[]) := Heap.get?_push_size _ rfl
  have hT : ({ s with heap := s.heap.push (baObj #[]) } : Shared).TypeIs (.ref s.heap.objs.size) "bytearray" := ⟨_, ho, rfl⟩
  dsimp only
  refine S_bind (S_any (wpAny_isInstance hT ba_sub ?_))
  refine S_ite_false rfl ?_
  refine S_bind (S_holding ?_)
  unfold callSpecial?
  refine S_bind (S_any (wpAny_specialOf hT ba_called.init.lookup ?_))
  dsimp only
  refine S_holding (S_bind (S_any (wpAny_of_eq (ba_called.init.bind _) ?_)))
  dsimp only
  refine S_bind (S_call (codeS_of_tree rfl ?_))
  show wpS _ _ (do checkBuiltinCall "bytearray.__init__" ⟨[.ref s.heap.objs.size, .int n t], []⟩; again (.builtin "bytearray.__init__" ⟨[.ref s.heap.objs.size, .int n t], []⟩)) _ _ _
  refine S_bind (S_any (ba_called.init.check _ _ _ _ _ _ _ _ hT (by kernel_rfl) ?_))
  refine S_pure ⟨plainId_quiet ba_plain_init _, ba_init hg h0 h1 ho fun h' hs' ho' => ?_⟩
  refine S_pure ?_
  dsimp only
  refine S_ite_false rfl (S_pure ?_)
  refine h h' (fun b o e => ?_) ?_ ho'
  · exact hs'.extBut b o (Nat.ne_of_lt (Heap.lt_size e)) (Heap.get?_push_of_some _ e)
  · exact Heap.lt_size ho'

theorem S_bytearrayN {h₀ : Heap} {L : Addr} {m : Str → Option Value} {news : List (Addr × Obj)} {n : Int} {t : Tok} {Q : Value → Shared → Prop} (hg : A.guards = some []) (h0 : 0 ≤ n) (h1 : n ≤ 4096) (F : Fr h₀ L s.heap m) (N : News h₀ L s.heap news)
    (h : ∀ a h', Fr h₀ L h' m → News h₀ L h' ((a, baObj (Array.replicate n.toNat 0)) :: news) → (∀ p ∈ news, p.1 < a) → Q (.ref a) { s with heap := h' }) :
    wpS (model prog w) A (call (.type "bytearray") [.int n t]) Q E s := by
  refine S_bytearray hg h0 h1 fun h' k _ o => h _ h' (F.keeps k) (fun p hp => ?_) fun p hp => Heap.lt_size (N p hp).1
  rcases List.mem_cons.mp hp with rfl | hp
  · exact ⟨o, Nat.ne_of_gt F.ns.lt, next_is_new F⟩
  · exact ⟨k _ _ (N p hp).1, (N p hp).2⟩
end
end Mine
end

/-! ## GyB2 -/
section
open PySem PySem.W PyProof.Rows PySem.Calls
namespace Mine
section
variable {prog : Program} {w : World} {A : Around} {E : Value → Shared → Prop} {s : Shared}
theorem ba_slot_setitem : Slot "bytearray" "__setitem__" "bytearray.__setitem__" :=
  .of (owner := "bytearray") (n := "__setitem__") (by rw [typeLookup_type, builtinLookup_eq_fast]; kernel_rfl) (by decide +kernel) (by decide +kernel) (by decide +kernel)
    (by first | exact .inl (by decide +kernel) | exact .inr (by decide +kernel)) (by rw [isSubtype_type]; kernel_rfl)
theorem ba_entry_setitem : entryFor table "bytearray.__setitem__" = some Builtin.«bytearray.__setitem__» := by first | exact entryFor_of_fast (by kernel_rfl) | exact entryFor_of_tree (by kernel_rfl)
theorem ba_no_bytes : typeLookup (.type "bytearray") "__bytes__" = pure none := by rw [typeLookup_type, builtinLookup_eq_fast]; kernel_rfl
theorem ba_no_index : typeLookup (.type "bytearray") "__index__" = pure none := by rw [typeLookup_type, builtinLookup_eq_fast]; kernel_rfl
theorem ba_buffer : typeLookup (.type "bytearray") "__buffer__" = pure (some (.builtin "bytearray.__buffer__")) := by rw [typeLookup_type, builtinLookup_eq_fast]; kernel_rfl

theorem ba_setItem {a : Addr} {b : Array UInt8} {k x : Int} {t u : Tok} {Q : Unit → Shared → Prop} (ho : s.heap.get? a = some (baObj b)) (h0 : 0 ≤ k) (h1 : k < b.size) (hb : b.size ≤ 4096) (hx0 : 0 ≤ x) (hx : x < 256)
    (h : ∀ h', Heap.SameBut a s.heap h' → h'.get? a = some (baObj (b.setIfInBounds k.toNat x.toNat.toUInt8)) → Q () { s with heap := h' }) :
    wpAny (model prog w) A (setItem (.ref a) (.int k t) (.int x u)) Q E s := by
  have hT : s.TypeIs (.ref a) "bytearray" := ⟨_, ho, rfl⟩
  unfold setItem
  refine wpAny_holding ?_
  refine wpAny_bind (wpAny_sequenceKey hT (by decide) ?_)
  refine wpAny_bind (wpAny_callSpecial?_slot (name := Str.ofString "__setitem__") hT ba_slot_setitem
    (wpAny_call_entry ba_slot_setitem hT ba_entry_setitem ?_ (by kernel_rfl)))
  unfold Builtin.«bytearray.__setitem__»
  refine bm_if_false rfl ?_
  dsimp only
  unfold Builtin.Bytes.subscript?
  refine wpAny_bind (wpAny_bind (wpAny_specialOf_val (T := "int") rfl int_index ?_))
  refine bm_if_false rfl ?_
  refine wpAny_bind (wpAny_of_eq (a := k) rfl ?_)
  have k1 : (!Builtin.Bytes.fitsIndex k) = false := by
    simp only [Builtin.Bytes.fitsIndex, Bool.not_eq_false', Bool.and_eq_true, decide_eq_true_eq]; omega
  refine bm_if_false k1 (wpAny_pure ?_)
  dsimp only
  unfold Builtin.Bytes.byteValue
  refine wpAny_bind (wpAny_bind (wpAny_of_eq (a := x) rfl ?_))
  refine bm_if_false (by simp only [Bool.or_eq_false_iff, decide_eq_false_iff_not]; omega) (wpAny_pure ?_)
  refine wpAny_bind ?_
  unfold Builtin.Bytes.payload Builtin.Bytes.payload?
  refine wpAny_bind (wpAny_bind (wpAny_load ho ?_))
  refine wpAny_pure (wpAny_pure ?_)
  have e : seqIndex? k b.size = some k.toNat := by
    unfold seqIndex?
    simp only [if_neg (show ¬ k < 0 by omega), decide_eq_true h0, decide_eq_true h1, Bool.and_self, if_true]
  rw [e]
  dsimp only
  refine wpAny_bind (ba_write ho ?_ fun h' hs ho' => wpAny_pure ⟨.none, rfl, wpAny_pure (h h' hs ho')⟩)
  rw [Array.size_setIfInBounds, sizeLine_eq]; omega

theorem ba_buffer? {a : Addr} {b : Array UInt8} {Q : Option (Array UInt8) → Shared → Prop} (ho : s.heap.get? a = some (baObj b)) (h : Q (some b) s) : wpAny (model prog w) A (Builtin.Bytes.buffer? "bytes.__new__" (.ref a) true) Q E s := by
  have hT : s.TypeIs (.ref a) "bytearray" := ⟨_, ho, rfl⟩
  unfold Builtin.Bytes.buffer?
  refine wpAny_bind (wpAny_specialOf hT ba_buffer ?_)
  dsimp only
  unfold Builtin.Bytes.slotIsOwn
  refine wpAny_bind (wpAny_bind (wpAny_specialOf hT ba_buffer ?_))
  dsimp only
  refine bm_if_false (by decide +kernel) ?_
  have e : ("bytearray.__buffer__".dropRight ("__buffer__".length + 1)) = "bytearray" := by decide +kernel
  rw [e]
  refine wpAny_isInstance hT ba_sub ?_
  refine bm_if_false rfl ?_
  refine wpAny_bind (wpAny_specialOf hT ba_buffer ?_)
  show wpAny _ _ (Builtin.Bytes.ownRelease (.ref a) >>= _) _ _ _
  refine wpAny_bind (ownRelease_ba hT ?_)
  refine bm_if_false rfl ?_
  refine wpAny_bind ?_
  unfold Builtin.Bytes.payload Builtin.Bytes.payload?
  refine wpAny_bind (wpAny_bind (wpAny_load ho ?_))
  exact wpAny_pure (wpAny_pure (wpAny_pure h))

theorem bytes_new_ba {a : Addr} {b : Array UInt8} {Q : Value → Shared → Prop} (ho : s.heap.get? a = some (baObj b)) (hz : b.size ≤ sizeLine)
    (hQ : ∀ t k, Q (.bytes b t) { s with toks := k }) :
    codeAny (model prog w) A (.call (.builtin "bytes.__new__") ⟨[.type "bytes", .ref a], []⟩) (wants Q E) s := by
  have hT : s.TypeIs (.ref a) "bytearray" := ⟨_, ho, rfl⟩
  refine codeAny_of_tree ?_
  show wpAny _ A.in1 (do checkBuiltinCall "bytes.__new__" ⟨[.type "bytes", .ref a], []⟩; again (.builtin "bytes.__new__" ⟨[.type "bytes", .ref a], []⟩)) _ _ s
  refine wpAny_bind (wpAny_of_eq (F.bm_newCall _) (wpAny_pure ⟨plainId_quiet F.bm_plain _, codeAny_builtin F.bm_entry ?_⟩))
  rw [Around.under_plainId F.bm_plain _]
  unfold Builtin.«bytes.__new__»
  refine wpAny_bind (wpAny_of_eq (a := true) rfl ?_)
  refine bm_if_false rfl ?_
  refine wpAny_bind (wpAny_of_eq F.bm_sub ?_)
  refine bm_if_false rfl ?_
  refine wpAny_bind (wpAny_of_eq (F.bm_bind _) ?_)
  refine wpAny_bind (wpAny_of_eq (a := ()) rfl ?_)
  refine wpAny_bind (wpAny_of_eq (a := ()) rfl ?_)
  refine bm_if_false rfl ?_
  refine wpAny_bind (wpAny_specialOf hT ba_no_bytes ?_)
  refine wpAny_bind (wpAny_bind ?_)
  show wpAny _ _ (load a >>= _) _ _ _
  refine wpAny_bind (wpAny_load ho ?_)
  refine wpAny_pure (wpAny_pure ?_)
  refine bm_if_false rfl ?_
  refine wpAny_bind (wpAny_specialOf hT ba_no_index ?_)
  refine bm_if_true rfl ?_
  refine wpAny_bind (ba_buffer? ho ?_)
  dsimp only
  refine wpAny_bind (wpAny_rule ?_)
  refine wpAny_bind (wpAny_mkBytes ?_ hz)
  show wpAny _ _ (if (Value.type "bytes" == Value.type "bytes") = true then _ else _) _ _ _
  refine bm_if_true (by decide) ?_
  first
    | exact wpAny_pure (hQ _ _)
    | exact wpAny_bind (wpAny_pure (wpAny_pure (hQ _ _)))

/-- bytes(a bytearray) -/
theorem call_bytes_ba {a : Addr} {b : Array UInt8} {Q : Value → Shared → Prop} (ho : s.heap.get? a = some (baObj b)) (hz : b.size ≤ 4096)
    (hQ : ∀ t k, Q (.bytes b t) { s with toks := k }) : wpAny (model prog w) A (call (.type "bytes") [.ref a]) Q E s := by
  refine callType_codes (Q₁ := fun obj s₁ => s₁.TypeIs obj "bytes" ∧ Q obj s₁) F.bm_called (F.bm_typeCall _) F.entry_object_init
    (bytes_new_ba ho (by rw [sizeLine_eq]; omega) fun t k => ⟨PySem.W.typeIs_bytes _ _ _, hQ t k⟩) fun obj s₁ h₁ => ?_
  exact ⟨h₁.1, F.args_object_init_2 obj _, object_init_meets F.bm_called.init.lookup F.bm_called.made (by decide) prog w A.in1 _ s₁ ⟨h₁.1, rfl, h₁.2⟩⟩
end
end Mine
end

/-! ## GyS2 -/
section
open PySem PySem.W PyProof.Rows PySem.Calls
namespace Mine
section
variable {prog : Program} {w : World} {A : Around} {E : Value → Shared → Prop} {s : Shared} {env : Env}

theorem codeS_func {body : List Stmt} {R : Result → Shared → Prop}
    (h : wpS (model prog w) (A.deeper env) (execs body env) (fun f s' => R (.ok (.ret (match f with | .ret v => v | _ => .none))) s')
      (fun e s' => wpAny (model prog w) (A.deeper env) (leaving env e) (fun _ s'' => R (.error e) s'') (fun e' s'' => R (.error e') s'') s') s) :
    codeS (model prog w) A (.func body env) R s := by
  refine codeS_of_tree rfl ?_
  show wpS _ (A.deeper env) (do point; match ← (execs body env).onRaise (leaving env) with | .ret v => ret v | _ => ret .none) _ _ s
  refine S_bind (S_any (wpAny_point (S_bind (S_onRaise (S_mono h (fun f s' h' => ?_) fun _ _ h' => h')))))
  cases f <;> exact S_pure h'

theorem codeS_call_function {a : Addr} {args : Args} {o : Obj} {fd : FuncData} {body : List Stmt} {R : Result → Shared → Prop} (hroom : A.depth < recursionLimit)
    (ho : s.heap.get? a = some o) (hd' : o.data = .func fd) (hco : fd.scope.isCoroutine = false) (hgen : fd.scope.isGenerator = false) (hbody : fd.body = .stmts body) (hcd : s.heap.CodeRec fd.code fd.qualname)
    (h : wpAny (model prog w) A.in1 (bindArgs fd args) (fun binds s₁ =>
      wpAny (model prog w) A.in1 (newFunctionEnv fd.scope fd.globals fd.closure binds (fd.qualname ++ ".<locals>.") (some a) fd.code none fd.builtins)
        (fun env s₂ => s₂.heap.NoLimit ∧ codeS (model prog w) A (.func body env) R s₂) (fun e s' => R (.error e) s') s₁) (fun e s' => R (.error e) s') s) :
    codeS (model prog w) A (.call (.ref a) args) R s := by
  refine codeS_of_tree rfl ?_
  show wpS _ A.in1 (callAny (.ref a) args) _ _ s
  simp only [callAny]
  refine S_bind (S_any (wpAny_load ho ?_))
  obtain ⟨c, oc, vs, tq, hc, hoc, hdc, hq⟩ := hcd
  simp only [hd', callFunction, hco, hgen, hbody, hc]
  rw [hc] at h
  refine S_any (wpAny_bind (m := field (.ref c) 1) (wpAny_field hoc hdc hq (wpAny_bind (wpAny_pure ?_))))
  exact wpAny_bind (wpAny_mono h (fun binds s₁ h₁ => wpAny_bind (wpAny_mono h₁ (fun env s₂ h₂ => wpAny_bind (wpAny_enterFrame h₂.1 hroom
    (wpAny_pure (And.intro rfl h₂.2)))) fun _ _ h' => h')) fun _ _ h' => h')

/-- a def of the top is entered, over clean contexts -/
theorem codeS_def {A₀ : Around} {base h₀ : Heap} {outer : List Env} {L : Addr} {m mg mb : Str → Option Value} {news : List (Addr × Obj)} {K : Frag} {p : Program} {loose : List Str} {mean : ExcName → Option Value}
    {R : Result → Shared → Prop} {name qual : Str} {params : Arguments} {body : List Stmt} {scope : Scope} {dV kV doc pm cdv ct oc : Value} {an od : Option Addr} {osl : Array (Option Value)} {f : Addr} {args : Args} {binds : List (Str × Value)}
    (B : Below A₀ base outer h₀) (F : Fr h₀ L s.heap m) (X₀ : K.In h₀) (N : News h₀ L s.heap news) (T : Top p loose mean mg mb h₀) (hA : A.frames = some (env :: outer)) (hf : env.frame = some L) (hke : env.scope.kind = .function)
    (ho : K.lookup f = some ⟨oc, od, .func (fnOf name qual params body scope dV kV doc pm an cdv ct), osl⟩) (hcd : codeIn K cdv qual = true) (hroom : A.depth < recursionLimit)
    (hbind : BindsTo s (fnOf name qual params body scope dV kV doc pm an cdv ct) args binds) (hloc : ∀ y ∈ binds, scope.names.lookup y.1 = some .local)
    (h : ∀ g L' h₁ tk, Fr h₀ L g m → Fr g L' h₁ (fun y => binds.reverse.lookup y) → News g L' h₁ news → Below A base (env :: outer) g → K.In g → Top p loose mean mg mb g → (∀ p ∈ news, p.1 < L') →
      wpS (model prog w) (A.deeper (envOf qual scope L' f cdv)) (execs body (envOf qual scope L' f cdv))
        (fun fl s' => LeaveK h₀ L m g R (match fl with | .ret v => v | _ => .none) s')
        (fun e s' => wpAny (model prog w) (A.deeper (envOf qual scope L' f cdv)) (leaving (envOf qual scope L' f cdv) e) (fun _ s'' => R (.error e) s'') (fun e' s'' => R (.error e') s'') s')
        { s with heap := h₁, toks := tk })
    (hco : scope.isCoroutine = false) (hgen : scope.isGenerator = false) (hk : scope.kind = .function)
    (hcell : ∀ x ∈ scope.names, x.2 ≠ .cell) : codeS (model prog w) A (.call (.ref f) args) R s := by
  obtain ⟨FG, BG, st, lv⟩ := groundX (R := R) B F N hA hf hke
  have hlim : s.heap.NoLimit := T.nolimit.keeps F.keep
  refine codeS_call_function (fd := fnOf name qual params body scope dV kV doc pm an cdv ct) hroom ((X₀.keeps F.keep) _ _ ho) rfl hco hgen rfl (codeRec_of (X₀.keeps F.keep) hcd) (hbind _ _ _ _ ?_)
  refine wpAny_newFunctionEnv hcell hloc (fun h₁ hns hsb => ⟨hlim.fresh _ hsb, codeS_func ?_⟩) hk
  have kp : ∀ b o, s.heap.get? b = some o → h₁.get? b = some o := fun b o e => hsb.extBut b o (Nat.ne_of_lt (Heap.lt_size e)) (Heap.get?_push_of_some _ e)
  refine S_mono (h _ s.heap.objs.size h₁ _ FG ⟨hns, fun b o e => kp b o (of_hideAll _ e), Nat.le_of_eq (hideAll_size _ _)⟩
    (fun p hp => ⟨kp _ _ (N p hp).1, Nat.ne_of_lt (Heap.lt_size (N p hp).1), hideAll_none _ (List.mem_map_of_mem hp)⟩) BG (X₀.keeps st) (T.keeps st) (fun p hp => Heap.lt_size (N p hp).1)) (fun fl s' hl => lv _ _ hl) fun _ _ y => y
end
section
variable {M : Model} {A : Around} {E : Value → Shared → Prop} {s : Shared} {env : Env}
theorem S_execs_cons {st : Stmt} {rest : List Stmt} {Q : Flow → Shared → Prop} (h : wpS M A (exec st env) (fun f s' => match f with | .next => wpS M A (execs rest env) Q E s' | f => Q f s') E s) :
    wpS M A (execs (st :: rest) env) Q E s := by
  refine S_bind (S_mono h (fun f s' h' => ?_) fun _ _ x => x)
  cases f with
  | next => exact h'
  | brk => exact S_pure h'
  | cont => exact S_pure h'
  | ret v => exact S_pure h'
theorem S_Return {e : Expr} {pos : Pos} {Q : Flow → Shared → Prop} (h : wpS M A (eval e env) (fun v s' => Q (.ret v) s') E s) : wpS M A (exec (.Return (some e) pos) env) Q E s := by
  show wpS M A (do standAt pos; return .ret (← eval e env)) Q E s
  exact S_bind (S_standAt (S_bind (S_mono h (fun v s' h' => S_pure h') fun _ _ x => x)))
theorem S_AssignName {x : Str} {px pos : Pos} {value : Expr} {Q : Flow → Shared → Prop} (h : wpS M A (eval value env) (fun v s' => wpAny M A (storeName env x v) (fun _ s'' => Q .next s'') E s') E s)
    (h1 : swapsWithSole [.Name x px] value pos.line env = pure false := by rfl) : wpS M A (exec (.Assign [.Name x px] value pos) env) Q E s := by
  show wpS M A (do
    standAt pos
    if ← swapsWithSole [.Name x px] value pos.line env then do
      evalThenUse value env fun v => assignAll v ((assignEach [.Name x px] env).map (·.2))
      pure .next
    else do
      let v ← eval value env
      assignStores env v (← swappedStores [.Name x px] value env) ((assignEach [.Name x px] env).map (·.2))) Q E s
  rw [h1]
  refine S_bind (S_standAt (S_bind (S_pure (S_ite_false rfl (S_bind (S_mono h (fun v s' h' => ?_) fun _ _ x => x))))))
  refine S_any (wpAny_bind (wpAny_pure ?_))
  show wpAny M A (do assignAll v [assign (.Name x px) env]; pure .next) Q E s'
  exact wpAny_bind (wpAny_assign_Name (wpAny_mono h' (fun _ s'' q => wpAny_pure q) fun _ _ x => x))
theorem S_If {test : Expr} {body orelse : List Stmt} {pos : Pos} {Q : Flow → Shared → Prop} (h : wpS M A (isTrue test env (eval test env)) (fun b s' => if b = true then wpS M A (execs body env) Q E s' else wpS M A (execs orelse env) Q E s') E s) :
    wpS M A (exec (.If test body orelse pos) env) Q E s := by
  show wpS M A (do standAt pos; if ← isTrue test env (eval test env) then execs body env else execs orelse env) Q E s
  refine S_bind (S_standAt (S_bind (S_mono h (fun b s' h' => ?_) fun _ _ x => x)))
  cases b with
  | true => exact S_ite_true rfl h'
  | false => exact S_ite_false rfl h'
theorem S_For {target iter : Expr} {body orelse : List Stmt} {pos : Pos} {Q : Flow → Shared → Prop}
    (h : wpS M A (eval iter env) (fun x s₁ => wpAny M A (pyIter x) (fun it s₂ =>
      codeS M A (.forLoop target it body orelse env) (fun r s' => match r with | .ok f => Q f s' | .error e => cameBackBy M A env E e s') s₂) E s₁) E s)
    (hs : ∀ x, foldedSetIterable iter env x = pure x := by intro _; rfl) :
    wpS M A (exec (.For target iter body orelse pos) env) Q E s := by
  rw [exec_For]
  refine S_bind (S_standAt (S_bind (S_mono h (fun x s₁ h₁ => S_bind (S_of_eq (hs x) (S_pure (S_bind (S_standAt (S_bind (S_holding (S_any (wpAny_mono h₁ (fun it s₂ h₂ => ?_) fun _ _ x => x))))))))) fun _ _ x => x)))
  unfold runOwn
  refine S_onRaise (S_run ?_)
  exact h₂
theorem S_keep {α : Type} {vs : List Value} {m : Sem α} {Q : α → Shared → Prop} (h : wpS M A m Q E s) : wpS M A (m.keep vs) Q E s := fun Γ p hΓ hc => by
  rw [Sem.wp_keep]; exact h Γ p hΓ hc
theorem S_spliced_nil {Q : List Value → Shared → Prop} (h : Q [] s) : wpS M A (spliced []) Q E s := S_pure h
theorem S_spliced_cons {t : Sem Value} {rest : List (Bool × Sem Value)} {Q : List Value → Shared → Prop} (h : wpS M A t (fun v s₁ => wpS M A (spliced rest) (fun vs s₂ => Q (v :: vs) s₂) E s₁) E s) :
    wpS M A (spliced ((false, t) :: rest)) Q E s := by
  show wpS M A (do let v ← t; let here ← (pure [v] : Sem (List Value)); return here ++ (← holding here (spliced rest))) Q E s
  exact S_bind (S_mono h (fun v s₁ h₁ => S_bind (S_pure (S_bind (S_holding (S_mono h₁ (fun vs s₂ h₂ => S_pure h₂) fun _ _ x => x))))) fun _ _ x => x)
theorem S_evalArgs {f : Value} {t : Sem Value} {rest : List (Bool × Sem Value)} {Q : Args → Shared → Prop} (h : wpS M A (spliced ((false, t) :: rest)) (fun vs s₁ => Q ⟨vs, []⟩ s₁) E s) :
    wpS M A (evalArgs f true ((false, t) :: rest) []) Q E s := by
  unfold evalArgs
  show wpS M A (spliced ((false, t) :: rest) >>= _) Q E s
  refine S_bind (S_mono h (fun vs s₁ h₁ => S_bind (S_pure ?_)) fun _ _ x => x)
  refine S_holding ?_
  exact S_bind (S_pure (S_bind (S_pure (S_pure h₁))))
theorem S_callWith_fn {pos : Pos} {a : Addr} {o : Obj} {fd : FuncData} {t : Sem Value} {rest : List (Bool × Sem Value)} {Q : Value → Shared → Prop} (hplain : rest.any (·.1) = false) (hlen : decide (rest.length + 1 > 30) = false)
    (h : wpS M A (spliced ((false, t) :: rest)) (fun vs s₁ => (s₁.heap.get? a = some o ∧ o.data = .func fd) ∧ wpS M A (call (.ref a) vs) Q E s₁) E s) :
    wpS M A (callWith pos (.ref a) [] ((false, t) :: rest) []) Q E s := by
  unfold callWith
  refine S_bind (S_holding (S_evalArgs (S_mono h (fun vs s₁ h₁ => S_bind (S_standAt ?_)) fun _ _ x => x)))
  have e1 : (((false, t) :: rest).any (·.1) || ([] : List (Option Str × Sem Value)).any (·.1.isNone)) = false := by
    show ((false || rest.any (·.1)) || false) = false
    rw [hplain]; rfl
  dsimp only
  rw [e1]
  have tail : ∀ {t : Sem Value}, wpS M A t Q E s₁ → wpS M A (t >>= fun r => holding [r] point >>= fun _ => pure r) Q E s₁ :=
    fun ht => S_bind (S_mono ht (fun r s₂ hr => S_any (wpAny_bind (wpAny_holding (wpAny_point (wpAny_pure hr))))) fun _ _ x => x)
  refine S_bind (S_any ?_)
  unfold keeperOf
  refine wpAny_bind (wpAny_load h₁.1.1 ?_)
  rw [h₁.1.2]
  refine wpAny_pure ?_
  dsimp only
  have e2 : ¬ (((false, t) :: rest).length + 2 * ([] : List (Option Str × Sem Value)).length > 30) := by
    have := of_decide_eq_false hlen
    simpa using this
  rw [if_neg e2]
  exact tail (S_keep h₁.2)
theorem S_callWith_K {h₀ : Heap} {K : Frag} {oc : Value} {od : Option Addr} {osl : Array (Option Value)} {pos : Pos} {a : Addr} {fd : FuncData} {t : Sem Value} {rest : List (Bool × Sem Value)} {Q : Value → Shared → Prop} (X : K.In h₀) (ho : K.lookup a = some ⟨oc, od, .func fd, osl⟩)
    (hplain : rest.any (·.1) = false) (hlen : decide (rest.length + 1 > 30) = false)
    (h : wpS M A (spliced ((false, t) :: rest)) (fun vs s₁ => (∀ b o, h₀.get? b = some o → s₁.heap.get? b = some o) ∧ wpS M A (call (.ref a) vs) Q E s₁) E s) :
    wpS M A (callWith pos (.ref a) [] ((false, t) :: rest) []) Q E s :=
  S_callWith_fn (fd := fd) hplain hlen (S_mono h (fun vs s₁ h₁ => ⟨⟨(X.keeps h₁.1) _ _ ho, rfl⟩, h₁.2⟩) fun _ _ x => x)
theorem S_callWith_type {pos : Pos} {T : String} {t : Sem Value} {Q : Value → Shared → Prop}
    (h : wpS M A t (fun v s₁ => wpS M A (call (.type T) [v]) Q E s₁) E s) :
    wpS M A (callWith pos (.type T) [] [(false, t)] []) Q E s := by
  unfold callWith
  refine S_bind (S_holding (S_evalArgs (S_spliced_cons (S_mono h (fun v s₁ h₁ => S_spliced_nil (S_bind (S_standAt ?_))) fun _ _ x => x))))
  refine S_bind (S_pure ?_)
  exact S_bind (S_mono h₁ (fun r s₂ hr => S_any (wpAny_bind (wpAny_holding (wpAny_point (wpAny_pure hr))))) fun _ _ x => x)
theorem S_Call_Name {x : Str} {p pos : Pos} {args : List Expr} {trees : List (Bool × Sem Value)} {Q : Value → Shared → Prop} (ht : backTo pos (starEach args env) = trees)
    (h : wpS M A (eval (.Name x p) env) (fun f s₁ => wpS M A (callWith pos f [] trees []) Q E s₁) E s) :
    wpS M A (eval (.Call (.Name x p) args [] pos) env) Q E s := by
  subst ht
  exact S_bind h
theorem S_Call_Name1 {x : Str} {p pos : Pos} {e : Expr} {Q : Value → Shared → Prop}
    (h : wpS M A (eval (.Name x p) env) (fun f s₁ => wpS M A (callWith pos f [] [(false, eval e env)] []) Q E s₁) E s)
    (hs : starEach [e] env = [(false, eval e env)] := by rfl) :
    wpS M A (eval (.Call (.Name x p) [e] [] pos) env) Q E s := S_Call_Name (by rw [hs]; rfl) h
theorem S_Call_Name2 {x : Str} {p pos : Pos} {e e' : Expr} {Q : Value → Shared → Prop}
    (h : wpS M A (eval (.Name x p) env) (fun f s₁ => wpS M A (callWith pos f [] [(false, eval e env), (false, eval e' env)] []) Q E s₁) E s)
    (hs : starEach [e, e'] env = [(false, eval e env), (false, eval e' env)] := by rfl) :
    wpS M A (eval (.Call (.Name x p) [e, e'] [] pos) env) Q E s := S_Call_Name (by rw [hs]; rfl) h
theorem S_Tuple {elts : List Expr} {k : Nat} {pos : Pos} {Q : Value → Shared → Prop}
    (h : wpS M A (spliced (backTo pos (starEach elts env))) (fun vs s₁ => wpAny M A (newTuple vs) Q E s₁) E s) : wpS M A (eval (.Tuple elts k pos) env) Q E s := by
  show wpS M A (do standAt pos; newTuple (← spliced (backTo pos (starEach elts env)))) Q E s
  exact S_bind (S_standAt (S_bind (S_mono h (fun _ _ x => S_any x) fun _ _ x => x)))
theorem S_List {elts : List Expr} {pos : Pos} {Q : Value → Shared → Prop}
    (h : wpS M A (spliced (backTo pos (starEach elts env))) (fun vs s₁ => wpAny M A (newList vs) Q E s₁) E s) : wpS M A (eval (.List elts pos) env) Q E s := by
  show wpS M A (do standAt pos; newList (← spliced (backTo pos (starEach elts env)))) Q E s
  exact S_bind (S_standAt (S_bind (S_mono h (fun _ _ x => S_any x) fun _ _ x => x)))
theorem S_BinOp {l r : Expr} {op : Operator} {pos : Pos} {Q : Value → Shared → Prop}
    (h : wpS M A (eval l env) (fun a s₁ => wpS M A (eval r env) (fun b s₂ => wpAny M A (operate [a, b] (binaryOp op a b)) Q E s₂) E s₁) E s) : wpS M A (eval (.BinOp l op r pos) env) Q E s := by
  show wpS M A (do let a ← eval l env; let b ← holding [a] (eval r env); standAt pos; operate [a, b] (binaryOp op a b)) Q E s
  exact S_bind (S_mono h (fun a s₁ h₁ => S_bind (S_holding (S_mono h₁ (fun b s₂ h₂ => S_bind (S_standAt (S_any h₂))) fun _ _ x => x))) fun _ _ x => x)
theorem S_isTrue_Not {x : Expr} {pos : Pos} {whole : Sem Value} {Q : Bool → Shared → Prop} (h : wpS M A (isTrue x env (eval x env)) (fun b s' => Q (!b) s') E s) : wpS M A (isTrue (.UnaryOp .Not x pos) env whole) Q E s := by
  show wpS M A (do return !(← isTrue x env (eval x env))) Q E s
  exact S_bind (S_mono h (fun b s' h' => S_pure h') fun _ _ x => x)
theorem S_isTrue_Or2 {x y : Expr} {pos : Pos} {whole : Sem Value} {Q : Bool → Shared → Prop}
    (h : wpS M A (isTrue x env (eval x env)) (fun b s' => match b with | true => Q true s' | false => wpS M A (isTrue y env (eval y env)) Q E s') E s) : wpS M A (isTrue (.BoolOp .Or [x, y] pos) env whole) Q E s := by
  show wpS M A (do
    match BoolOp.Or, ← isTrue x env (eval x env) with
    | .And, false => pure false
    | .Or, true => pure true
    | _, _ => (do
      match BoolOp.Or, ← isTrue y env (eval y env) with
      | .And, false => pure false
      | .Or, true => pure true
      | _, _ => pure (BoolOp.Or == BoolOp.And))) Q E s
  refine S_bind (S_mono h (fun b s' h' => ?_) fun _ _ x => x)
  cases b with
  | true => exact S_pure h'
  | false =>
    refine S_bind (S_mono h' (fun b s' h' => ?_) fun _ _ x => x)
    cases b with
    | true => exact S_pure h'
    | false => exact S_pure h'
theorem S_isTrue_Compare {l r : Expr} {op : CmpOp} {pos : Pos} {whole : Sem Value} {Q : Bool → Shared → Prop} (hm : markedEach [op] [r] (evalEach [r] env) = [eval r env])
    (h : wpS M A (eval l env) (fun a s₁ => wpS M A (eval r env) (fun b s₂ => wpAny M A (operate [a, b] (compareOp op a b)) (fun c s₃ => wpAny M A (truthy c) Q E s₃) E s₂) E s₁) E s) :
    wpS M A (isTrue (.Compare l [op] [r] pos) env whole) Q E s := by
  show wpS M A (do testChain pos (← eval l env) [op] (markedEach [op] [r] (evalEach [r] env))) Q E s
  rw [hm]
  refine S_bind (S_mono h (fun a s₁ h₁ => ?_) fun _ _ x => x)
  show wpS M A (do let rv ← holding [a] (eval r env); standAt pos; let c ← operate [a, rv] (compareOp op a rv); holding [c] (truthy c)) Q E s₁
  exact S_bind (S_holding (S_mono h₁ (fun b s₂ h₂ => S_bind (S_standAt (S_bind (S_mono (S_any h₂) (fun c s₃ h₃ => S_holding (S_any h₃)) fun _ _ x => x)))) fun _ _ x => x))
theorem S_isTrue_Call {f : Expr} {args : List Expr} {kws : List Keyword} {pos : Pos} {whole : Sem Value} {Q : Bool → Shared → Prop}
    (h : wpS M A whole (fun v s' => wpAny M A (truthy v) Q E s') E s) : wpS M A (isTrue (.Call f args kws pos) env whole) Q E s := by
  show wpS M A (do let v ← whole; standAt (Expr.Call f args kws pos).pos; holding [v] (truthy v)) Q E s
  exact S_bind (S_mono h (fun v s' h' => S_bind (S_standAt (S_holding (S_any h')))) fun _ _ x => x)
/-- a comprehension whose source is reckoned over clean contexts; the rest is the library's -/
theorem S_comp_first {e : Expr} {scope : Scope} {pos : Pos} {newAcc first : Sem Value} {Q : Value → Shared → Prop}
    (h : wpS M A first (fun x s₁ => wpAny M A (comprehension e scope env pos newAcc false (pure x)) Q E s₁) E s) : wpS M A (comprehension e scope env pos newAcc false first) Q E s := by
  unfold comprehension at h ⊢
  exact S_bind (S_mono h (fun x s₁ h₁ => S_any h₁) fun _ _ x => x)
theorem S_ListComp {elt target iter : Expr} {ifs : List Expr} {rest : List Comprehension} {scope : Scope} {pos : Pos} {Q : Value → Shared → Prop}
    (h : wpS M A (eval iter env) (fun x s₁ => wpAny M A (comprehension (.ListComp elt (⟨target, iter, ifs, 0⟩ :: rest) scope pos) scope env iter.pos (newList []) false (pure x)) Q E s₁) E s) :
    wpS M A (eval (.ListComp elt (⟨target, iter, ifs, 0⟩ :: rest) scope pos) env) Q E s := by
  rw [eval_ListComp]
  exact S_comp_first h
end
end Mine
end

/-! ## GyL -/
section
open PySem PySem.W PyProof.Rows PySem.Calls
namespace Mine
/-- a goal that the walk leaves alone -/
def Hold (P : Prop) : Prop := P
theorem Hold.out {P : Prop} (h : Hold P) : P := h
theorem fits_small {i : Int} (h0 : -10000 ≤ i) (h1 : i ≤ 10000) : Builtin.Range.rangeFitsLong i = true := by
  unfold Builtin.Range.rangeFitsLong
  simp only [Bool.and_eq_true, decide_eq_true_eq]
  omega
theorem range01 {n : Int} (h0 : 0 ≤ n) (h1 : n ≤ 4096) : Builtin.Range.rangeSize 0 n 1 = n ∧ Builtin.Range.small 0 n 1 = true := by
  have e : Builtin.Range.rangeSize 0 n 1 = n := by
    unfold Builtin.Range.rangeSize
    rw [if_pos (by omega)]
    by_cases h : 0 < n
    · rw [if_pos h]; omega
    · rw [if_neg h]; omega
  refine ⟨e, ?_⟩
  unfold Builtin.Range.small
  rw [e, fits_small (by omega) (by omega), fits_small (by omega) (by omega), fits_small (by omega) (by omega), if_pos (by omega), fits_small (by omega) (by omega)]
  simp
theorem rangenn {n : Int} (h0 : 0 < n) (h1 : n ≤ 4096) : Builtin.Range.rangeSize 0 n n = 1 ∧ Builtin.Range.small 0 n n = true := by
  have e : Builtin.Range.rangeSize 0 n n = 1 := by
    unfold Builtin.Range.rangeSize
    rw [if_pos h0, if_pos h0, Int.ediv_eq_zero_of_lt (by omega) (by omega)]
    rfl
  refine ⟨e, ?_⟩
  unfold Builtin.Range.small
  rw [e, fits_small (by omega) (by omega), fits_small (by omega) (by omega), fits_small (by omega) (by omega), if_pos h0, fits_small (by omega) (by omega)]
  simp

section
variable {prog : Program} {w : World} {A : Around} {E : Value → Shared → Prop} {s : Shared} {env : Env} {h₀ : Heap} {x : Str} {body : List Stmt} {Q : Flow → Shared → Prop}

def itS (x left c : Int) : Obj := { cls := .type "range_iterator", data := .fields #[rawInt x, rawInt left, rawInt c] }

/-- a loop over a range by any step, by an invariant over the frame and a ledger that may grow -/
theorem range_J {r : Addr} {a₀ b₀ c₀ : Int} {t₀ u₀ v₀ : Tok} {n : Nat} {m₀ : Str → Option Value} {news : List (Addr × Obj)} (J : Nat → (Str → Option Value) → List (Addr × Obj) → Prop)
    (hh : A.handled = none) (hr : IsRange s.heap r a₀ b₀ c₀ t₀ u₀ v₀) (hsmall : Builtin.Range.small a₀ b₀ c₀ = true) (hn : Builtin.Range.rangeSize a₀ b₀ c₀ = (n : Int)) (F : Fr h₀ env.locals s.heap m₀) (N : News h₀ env.locals s.heap news)
    (hj : J 0 m₀ news)
    (turn : ∀ i I it t m₁ nx h tk, i < n → J i m₁ nx → (∀ p ∈ nx, p.1 ≠ I) → Fr h₀ env.locals h (fun y => if y = x then some (.int (a₀ + (i : Int) * c₀) t) else m₁ y) →
      News h₀ env.locals h ((I, itS (a₀ + ((i + 1 : Nat) : Int) * c₀) it c₀) :: nx) →
      wpAny (model prog w) A (execs body env) (UnrPost h₀ env.locals { s with heap := h, toks := tk } I (itS (a₀ + ((i + 1 : Nat) : Int) * c₀) it c₀) (J (i + 1)) Q) E { s with heap := h, toks := tk })
    (done : ∀ m₁ nx h tk, J n m₁ nx → Fr h₀ env.locals h m₁ → News h₀ env.locals h nx → Q .next { s with heap := h, toks := tk }) :
    wpAny (model prog w) A (pyIter (.ref r)) (fun it s₂ => LoopAtV prog w A h₀ env x body Q E it s₂) E s := by
  refine wpAny_pyIter_range hr hsmall ?_
  have W : Walks prog w A s.heap.objs.size [s.heap.objs.size] [s.heap.objs.size] n (fun i v => i < n ∧ ∃ t, v = .int (a₀ + i * c₀) t)
      (fun i h => IsRangeIter h s.heap.objs.size (a₀ + (i : Nat) * c₀) ((n : Int) - (i : Nat)) c₀) := (Walks.range hh _ a₀ c₀ n).bound
  have hnew := next_is_new F
  refine ⟨_, _, _, n, _, _, m₀, news, J, rfl, W, ?_, ?_, ?_, (by show IsRangeIter _ _ _ _ _; rw [hn]; simpa using Heap.get?_push_size _ rfl), F.push _, (fun p hp => ⟨Heap.get?_push_of_some _ (N p hp).1, (N p hp).2⟩), hj, ?_, ?_⟩
  · intro hm
    exact absurd F.ns.lt ((List.mem_singleton.mp hm) ▸ Nat.lt_irrefl _)
  · intro b hb
    rw [List.mem_singleton.mp hb]
    exact hnew
  · intro p hp hI
    exact absurd (Heap.lt_size (N p hp).1) ((List.mem_singleton.mp hI) ▸ Nat.lt_irrefl _)
  · rintro i v m₁ news₁ s₁ own ⟨hh', tk', rfl⟩ hin ⟨_, t, rfl⟩ hJ hoff hown hget hall hst F₁ N₁
    have hst' : hh'.get? s.heap.objs.size = some (itS (a₀ + ((i + 1 : Nat) : Int) * c₀) ((n : Int) - ((i + 1 : Nat) : Int)) c₀) := hst
    have hmem := hall s.heap.objs.size (List.mem_singleton.mpr rfl) hnew _ hst'
    have N₂ : News h₀ env.locals hh' ((s.heap.objs.size, itS (a₀ + ((i + 1 : Nat) : Int) * c₀) ((n : Int) - ((i + 1 : Nat) : Int)) c₀) :: news₁) := fun p hp => by
      rcases List.mem_cons.mp hp with rfl | hp
      · exact N₁ _ (List.mem_append_left _ hmem)
      · exact N₁ _ (List.mem_append_right _ hp)
    refine wpAny_mono (turn i _ _ t m₁ news₁ hh' tk' hin hJ (fun p hp hI => hoff p hp (List.mem_singleton.mpr hI)) F₁ N₂) (fun f s₂ p => ?_) fun _ _ e => e
    have fin : UnrEnd h₀ env.locals { s with heap := hh', toks := tk' } s.heap.objs.size (itS (a₀ + ((i + 1 : Nat) : Int) * c₀) ((n : Int) - ((i + 1 : Nat) : Int)) c₀) (J (i + 1)) s₂ →
        LoopStepU h₀ env.locals [s.heap.objs.size] own (J (i + 1)) { s with heap := hh', toks := tk' } .next s₂ := by
      rintro ⟨h', tk, m', news', e, F', N', ho, r⟩
      refine ⟨rfl, h', tk, m', news', e, F', fun p hp => ?_, fun p hp hI => ho p hp (List.mem_singleton.mp hI), r⟩
      rcases List.mem_append.mp hp with hp | hp
      · have h1 : p.1 = s.heap.objs.size := List.mem_singleton.mp (hown p hp)
        have h2 : hh'.get? p.1 = some p.2 := hget p hp
        have h3 : p = (s.heap.objs.size, itS (a₀ + ((i + 1 : Nat) : Int) * c₀) ((n : Int) - ((i + 1 : Nat) : Int)) c₀) := by
          rw [h1, hst'] at h2
          exact Prod.ext h1 (Option.some.inj h2).symm
        rw [h3]; exact N' _ (List.mem_cons_self ..)
      · exact N' _ (List.mem_cons_of_mem _ hp)
    cases f with
    | ret v => exact .ret p
    | brk => exact .brk p
    | next => exact .next (fin p)
    | cont => exact .cont (fin p)
  · rintro h' tk m' news' F' N' _ hJ
    exact done m' news' h' tk hJ F' N'

/-- a loop over a list of the ledger, its items whatever, by an invariant; the list stands throughout -/
theorem list_J {l : Addr} {vs : List Value} {nn : Nat} {m₀ : Str → Option Value} {news : List (Addr × Obj)} (J : Nat → (Str → Option Value) → List (Addr × Obj) → Prop)
    (hh : A.handled = none) (hl : (l, listOf vs.toArray nn) ∈ news) (hJl : ∀ i m₁ nx, J i m₁ nx → (l, listOf vs.toArray nn) ∈ nx) (F : Fr h₀ env.locals s.heap m₀) (N : News h₀ env.locals s.heap news)
    (hj : J 0 m₀ news)
    (turn : ∀ i v I it m₁ nx h tk, vs[i]? = some v → J i m₁ nx → (∀ p ∈ nx, p.1 ≠ I) → it.cls = .type "list_iterator" → Fr h₀ env.locals h (fun y => if y = x then some v else m₁ y) → News h₀ env.locals h ((I, it) :: nx) →
      wpAny (model prog w) A (execs body env) (UnrPost h₀ env.locals { s with heap := h, toks := tk } I it (J (i + 1)) Q) E { s with heap := h, toks := tk })
    (done : ∀ m₁ nx h tk, J vs.length m₁ nx → Fr h₀ env.locals h m₁ → News h₀ env.locals h nx → Q .next { s with heap := h, toks := tk }) :
    wpAny (model prog w) A (pyIter (.ref l)) (fun it s₂ => LoopAtV prog w A h₀ env x body Q E it s₂) E s := by
  have hol : s.heap.get? l = some (listOf vs.toArray nn) := (N _ hl).1
  have hls : s.heap.IsList l vs.toArray := ⟨_, hol, rfl, nn, rfl⟩
  have hne : l ≠ s.heap.objs.size := Nat.ne_of_lt (Heap.lt_size hol)
  refine wpAny_pyIter_list hls ?_
  have W := Walks.list (prog := prog) (w := w) hh s.heap.objs.size l hne vs.toArray
  have hlen : vs.toArray.size = vs.length := List.size_toArray ..
  rw [hlen] at W
  have hnew := next_is_new F
  refine ⟨_, _, _, vs.length, _, _, m₀, news, J, rfl, W, ?_, ?_, ?_, ⟨⟨_, Heap.get?_push_size _ rfl, rfl, rfl⟩, hls.at fun o e => Heap.get?_push_of_some _ e⟩, F.push _, (fun p hp => ⟨Heap.get?_push_of_some _ (N p hp).1, (N p hp).2⟩), hj, ?_, ?_⟩
  · intro hm
    rcases List.mem_cons.mp hm with e | hm
    · exact absurd F.ns.lt (e ▸ Nat.lt_irrefl _)
    · exact (N _ hl).2.1 ((List.mem_singleton.mp hm).symm)
  · intro b hb
    rw [List.mem_singleton.mp hb]
    exact hnew
  · intro p hp hI
    exact absurd (Heap.lt_size (N p hp).1) ((List.mem_singleton.mp hI) ▸ Nat.lt_irrefl _)
  · rintro i v m₁ news₁ s₁ own ⟨hh', tk', rfl⟩ hin hP hJ hoff hown hget hall hst F₁ N₁
    obtain ⟨⟨oI, hoI, hcI, _⟩, _⟩ := hst
    have hmem := hall s.heap.objs.size List.mem_cons_self hnew _ hoI
    have hlo : hh'.get? l = some (listOf vs.toArray nn) := (N₁ _ (List.mem_append.mpr (.inr (hJl _ _ _ hJ)))).1
    have N₂ : News h₀ env.locals hh' ((s.heap.objs.size, oI) :: news₁) := fun p hp => by
      rcases List.mem_cons.mp hp with rfl | hp
      · exact N₁ _ (List.mem_append_left _ hmem)
      · exact N₁ _ (List.mem_append_right _ hp)
    have hP' : vs[i]? = some v := by simpa using hP
    refine wpAny_mono (turn i v _ oI m₁ news₁ hh' tk' hP' hJ (fun p hp hI => hoff p hp (List.mem_singleton.mpr hI)) hcI F₁ N₂) (fun f s₂ p => ?_) fun _ _ e => e
    have fin : UnrEnd h₀ env.locals { s with heap := hh', toks := tk' } s.heap.objs.size oI (J (i + 1)) s₂ →
        LoopStepU h₀ env.locals [s.heap.objs.size] own (J (i + 1)) { s with heap := hh', toks := tk' } .next s₂ := by
      rintro ⟨h', tk, m', news', e, F', N', ho, r⟩
      refine ⟨rfl, h', tk, m', news', e, F', fun p hp => ?_, fun p hp hI => ho p hp (List.mem_singleton.mp hI), r⟩
      rcases List.mem_append.mp hp with hp | hp
      · have h2 : hh'.get? p.1 = some p.2 := hget p hp
        rcases List.mem_cons.mp (hown p hp) with h1 | h1
        · have h3 : p = (s.heap.objs.size, oI) := by
            rw [h1, hoI] at h2
            exact Prod.ext h1 (Option.some.inj h2).symm
          rw [h3]; exact N' _ (List.mem_cons_self ..)
        · have h1' := List.mem_singleton.mp h1
          have h3 : p = (l, listOf vs.toArray nn) := by
            rw [h1', hlo] at h2
            exact Prod.ext h1' (Option.some.inj h2).symm
          rw [h3]; exact N' _ (List.mem_cons_of_mem _ (hJl _ _ _ r))
      · exact N' _ (List.mem_cons_of_mem _ hp)
    cases f with
    | ret v => exact .ret p
    | brk => exact .brk p
    | next => exact .next (fin p)
    | cont => exact .cont (fin p)
  · rintro h' tk m' news' F' N' _ hJ
    exact done m' news' h' tk hJ F' N'

/-- the end of a turn: the ledger that the invariant speaks of lies within what stands, off the iterator -/
theorem unrEnd_J {I : Addr} {it : Obj} {rest : (Str → Option Value) → List (Addr × Obj) → Prop} {L : Addr} {s₁ : Shared} {h' : Heap} {tk : Nat} {m' : Str → Option Value} {all nx : List (Addr × Obj)} (F : Fr h₀ L h' m') (N : News h₀ L h' all)
    (hI : (I, it) ∈ all) (sub : ∀ p ∈ nx, p ∈ all) (off : ∀ p ∈ nx, p.2.cls ≠ it.cls ∨ p.1 ≠ I) (r : rest m' nx) : UnrEnd h₀ L s₁ I it rest { s₁ with heap := h', toks := tk } :=
  ⟨h', tk, m', nx, rfl, F, fun p hp => by
    rcases List.mem_cons.mp hp with rfl | hp
    · exact N _ hI
    · exact N p (sub p hp), fun p hp e => by
    rcases off p hp with h | h
    · have h1 := (N _ (sub p hp)).1
      have h2 := (N _ hI).1
      rw [e] at h1
      exact h (congrArg Obj.cls (Option.some.inj (h1.symm.trans h2)))
    · exact h e, r⟩

theorem fr_ovl {L : Addr} {h : Heap} {m : Str → Option Value} {a : Str} {v : Value} (F : Fr h₀ L h m) (e : m a = some v) : Fr h₀ L h (fun y => if y = a then some v else m y) := by
  have : (fun y => if y = a then some v else m y) = m := by
    funext y
    by_cases hy : y = a
    · rw [if_pos hy, hy, e]
    · rw [if_neg hy]
  rw [this]; exact F
theorem fr_more {L : Addr} {h : Heap} {m m' : Str → Option Value} {a : Str} {v : Value} (F : Fr h₀ L h m') (hm : ∀ y, m' y = m y) (e : m a = some v) :
    Fr h₀ L h (fun y => if y = a then some v else m' y) ∧ ∀ y, (if y = a then some v else m' y) = m y :=
  ⟨fr_ovl F ((hm a).trans e), fun y => by
    by_cases hy : y = a
    · rw [if_pos hy, hy, e]
    · rw [if_neg hy]; exact hm y⟩
theorem fr_ovl2 {L : Addr} {h : Heap} {m : Str → Option Value} {a b : Str} {va vb : Value} (F : Fr h₀ L h m) (e1 : m a = some va) (e2 : m b = some vb) :
    Fr h₀ L h (fun y => if y = a then some va else if y = b then some vb else m y) :=
  have x := fr_more F (fun _ => rfl) e2
  (fr_more x.1 x.2 e1).1
theorem fr_ovl3 {L : Addr} {h : Heap} {m : Str → Option Value} {a b c : Str} {va vb vc : Value} (F : Fr h₀ L h m) (e1 : m a = some va) (e2 : m b = some vb) (e3 : m c = some vc) :
    Fr h₀ L h (fun y => if y = a then some va else if y = b then some vb else if y = c then some vc else m y) :=
  have x := fr_more F (fun _ => rfl) e3
  have y := fr_more x.1 x.2 e2
  (fr_more y.1 y.2 e1).1
theorem fr_ovl4 {L : Addr} {h : Heap} {m : Str → Option Value} {a b c d : Str} {va vb vc vd : Value} (F : Fr h₀ L h m) (e1 : m a = some va) (e2 : m b = some vb) (e3 : m c = some vc) (e4 : m d = some vd) :
    Fr h₀ L h (fun y => if y = a then some va else if y = b then some vb else if y = c then some vc else if y = d then some vd else m y) :=
  have x := fr_more F (fun _ => rfl) e4
  have y := fr_more x.1 x.2 e3
  have z := fr_more y.1 y.2 e2
  (fr_more z.1 z.2 e1).1
theorem fr_ovl5 {L : Addr} {h : Heap} {m : Str → Option Value} {a b c d e : Str} {va vb vc vd ve : Value} (F : Fr h₀ L h m) (e1 : m a = some va) (e2 : m b = some vb) (e3 : m c = some vc) (e4 : m d = some vd) (e5 : m e = some ve) :
    Fr h₀ L h (fun y => if y = a then some va else if y = b then some vb else if y = c then some vc else if y = d then some vd else if y = e then some ve else m y) :=
  have w := fr_more F (fun _ => rfl) e5
  have x := fr_more w.1 w.2 e4
  have y := fr_more x.1 x.2 e3
  have z := fr_more y.1 y.2 e2
  (fr_more z.1 z.2 e1).1
theorem fr_change {L a : Addr} {h h' : Heap} {m : Str → Option Value} (F : Fr h₀ L h m) (hs : Heap.SameBut a h h') (hL : a ≠ L) (h0 : h₀.get? a = none) : Fr h₀ L h' m :=
  ⟨F.ns.sameBut hs (Ne.symm hL), fun b ob e => (hs.2 b (fun q => by rw [q, h0] at e; cases e)).trans (F.keep b ob e), F.above⟩
theorem led_set {L S : Addr} {h h' : Heap} {m : Str → Option Value} {o o' : Obj} {pre rest : List (Addr × Obj)} (F : Fr h₀ L h m) (N : News h₀ L h (pre ++ (S, o) :: rest)) (hs : Heap.SameBut S h h') (ho : h'.get? S = some o')
    (h1 : ∀ p ∈ pre, p.1 ≠ S) (h2 : ∀ p ∈ rest, p.1 ≠ S) : Fr h₀ L h' m ∧ News h₀ L h' (pre ++ (S, o') :: rest) := by
  have z := N (S, o) (List.mem_append.mpr (.inr (.head _)))
  refine ⟨fr_change F hs z.2.1 z.2.2, fun p hp => ?_⟩
  rcases List.mem_append.mp hp with hp | hp
  · have y := N p (List.mem_append.mpr (.inl hp))
    exact ⟨(hs.2 _ (h1 p hp)).trans y.1, y.2⟩
  · rcases List.mem_cons.mp hp with rfl | hp
    · exact ⟨ho, z.2⟩
    · have y := N p (List.mem_append.mpr (.inr (.tail _ hp)))
      exact ⟨(hs.2 _ (h2 p hp)).trans y.1, y.2⟩
end
end Mine
end

/-! ## GyH -/
section
open PySem PySem.W PyProof.Rows PySem.Calls PySem.Spec
namespace Mine

/-- the stack holds no decoder -/
def okStack (st : List (Code × Pos)) : Bool := st.all fun x => !isDec x.1
/-- a tree that looks at the stack first: where a decoder is on it, it gives up with a given end -/
def guarded {α : Type} (t : Sem α) (d : Sem α) : Sem α := .stack fun st => if okStack st = true then t else d

theorem clean_of {Γ : PySem.Ctx} {p : Pos} (h : okStack ((Γ.code, p) :: Γ.below) = true) : Clean Γ := by
  have h' := List.all_eq_true.mp h
  refine ⟨by simpa using h' (Γ.code, p) (.head _), fun x hx => by simpa using h' x (.tail _ hx)⟩

theorem any_guarded {α : Type} {M : Model} {A : Around} {t d : Sem α} {Q : α → Shared → Prop} {E : Value → Shared → Prop} {s : Shared} (h : wpS M A t Q E s) (hd : wpAny M A d Q E s) : wpAny M A (guarded t d) Q E s := fun Γ p hΓ => by
  show Sem.wp M Γ (if okStack ((Γ.code, p) :: Γ.below) = true then t else d) _ _ p s
  by_cases hk : okStack ((Γ.code, p) :: Γ.below) = true
  · rw [if_pos hk]; exact h Γ p hΓ (clean_of hk)
  · rw [if_neg hk]; exact hd Γ p hΓ

/-- what a thread's run with the guard ahead comes to, the thread's run comes to -/
theorem sched_guarded {prog : Program} {w : World} {n : Nat} {s s' : Shared} {o : Outcome} {t d : Sem Fin} (hz : s.asleep)
    (h : schedN (denote table) prog w n (.single s ⟨guarded t d, .builtin "claim.caller" {}, default, []⟩) = .halted o s') :
    ∃ m, schedN (denote table) prog w m (.single s ⟨t, .builtin "claim.caller" {}, default, []⟩) = .halted o s' := by
  cases n with
  | zero => cases h
  | succ n =>
    have hst : step (denote table) prog w s ⟨guarded t d, .builtin "claim.caller" {}, default, []⟩ = .go s ⟨t, .builtin "claim.caller" {}, default, []⟩ := by
      obtain ⟨hp, g, dr, tk, os⟩ := s
      rfl
    have hs := (sstep_single (denote table) prog w s ⟨guarded t d, .builtin "claim.caller" {}, default, []⟩ rfl hz).resolve_right (by rw [hst]; intro x; cases x)
    rw [hst] at hs
    simp only [schedN, hs, Step.lift] at h
    exact ⟨n, h⟩

/-- the claim, with the guard ahead of each call, is the claim -/
theorem unguard {c : ClaimW} {tree dt : List Value → Sem Fin} {defs keeps : List Str} {writes : Bool}
    (hsl : ∀ w s, AfterRun (opening c.prog) w s → ∃ s₀, fenceModules? c.prog s = some s₀ ∧ s₀.asleep)
    (h : c.HoldsOpenBy (fun vs => ⟨guarded (tree vs) (dt vs), .builtin "claim.caller" {}, default, []⟩) defs keeps writes) :
    c.HoldsOpenBy (fun vs => ⟨tree vs, .builtin "claim.caller" {}, default, []⟩) defs keeps writes := by
  refine ⟨h.1, h.2.1, fun w => ⟨(h.2.2 w).1, fun s hs => ?_⟩⟩
  obtain ⟨s₀, hf, hg, s₁, hT, hd, hr, hi, hc⟩ := (h.2.2 w).2 s hs
  refine ⟨s₀, hf, hg, s₁, hT, hd, hr, hi, fun args hpre hlay ord hord => ?_⟩
  obtain ⟨vs, s₂, hl, n, o, s', hn, rest⟩ := hc args hpre hlay ord hord
  obtain ⟨s₀', hf', hz⟩ := hsl w s hs
  rw [hf] at hf'
  cases hf'
  have hz₁ : s₁.asleep := Shared.asleep_of_life hT.2.1 hz
  have hz₂ : s₂.asleep := Shared.asleep_of_life (layAllW_rest _ _ _ hl).2.2.2 hz₁
  obtain ⟨m, hm⟩ := sched_guarded hz₂ hn
  exact ⟨vs, s₂, hl, m, o, s', hm, rest⟩

/-- a walk with the guard ahead: the plain answer True would do, and over clean contexts the call does -/
theorem guard_walk {M : Model} {A : Around} {t : Sem Value} {Q : Value → Shared → Prop} {E : Value → Shared → Prop} {s : Shared} (h : Q (.bool true) s ∧ wpS M A t Q E s) : wpAny M A (guarded t (pure (.bool true))) Q E s :=
  any_guarded h.2 (wpAny_pure h.1)
end Mine

namespace Mine.PySem.W
/-- Our head of a law. The kit's command «open_top» takes a law's head by this short name from the namespace it stands in:
here it takes this one, whose walk is asked over clean contexts alone, and not the library's. -/
theorem holds_open {r : OpenRow} {q : Program} {loose : List Str} {Xt : Shared → Bool} {XP : (Str → Option Value) → Heap → Prop} {α : Type} {Yf : Shared → α} {Ya : World → α} {YP : World → Heap → Prop} {d : DefRec} {kwd : List (Str × Expr)} {N : Nat}
    (left : LeftO r.prog q loose Xt Yf Ya N) (hY : ∀ w s, Yf s = Ya w → YP w s.heap) (hYk : ∀ w h h', YP w h → (∀ b o, h.get? b = some o → h'.get? b = some o) → YP w h')
    (hX : ∀ s, Xt s = true → XP (s.heap.nsMap mainGlobals) s.heap) (hXk : ∀ mg h h', XP mg h → (∀ b o, h.get? b = some o → h'.get? b = some o) → XP mg h')
    (hdef : defOf q r.name = some (d, kwd)) (hp : r.prog.theDef r.name = some (d.params, d.body, d.scope)) (hk : kwWritten? d.params.kwonlyargs d.params.kw_defaults = some kwd) (hRf : ∀ s, Xt s = true → RecFacts r.records s.heap) (hwr : (!r.writes || r.records.isEmpty) = true)
    (k1 : r.wellSaid = true) (ok : (chainsOk q && opensWell r.prog && (frees r.toRowW && r.within.isEmpty)) = true) (hb : r.prog.bare) (hw : r.toRowW.promised)
    (call : WalkO q loose XP YP r.toRowW d kwd fun f vs => guarded (PySem.call f vs) (pure (.bool true))) : r.Holds := by
  have hch : chainsOk q = true := (Bool.and_eq_true_iff.mp (Bool.and_eq_true_iff.mp ok).1).1
  refine ⟨k1, hw, unguard (fun w s hs => ?_) (open_anyG (r := r.toRowW) (run := fun f vs => guarded (PySem.call f vs) (pure (.bool true)))
    (tree := fun vs => guarded (do match ← nsGet mainNs r.name with
      | some f => do ret (← PySem.call f vs)
      | none => unsupported "claim.caller:no-such-global") (ret (.bool true))) left hY hYk hX hXk hRf hwr ok hb hw ?_ (fun w s hg G n hn => ?_) fun w s₀ s₁ mg mb G Y args vs as hpre hlay L low => ?_)⟩
  · obtain ⟨s₀, hf, _, s₁, hT, hz, _⟩ := (left.behind hX hch w).2 s hs
    exact ⟨s₀, hf, Shared.asleep_of_life hT.2.1.symm hz⟩
  · intro vs w s mg f Q E hg hf h Γ p hΓ
    have h1 : ∀ p', Sem.wp (model r.prog w) Γ (if okStack ((Γ.code, p) :: Γ.below) = true then PySem.call f vs else pure (.bool true)) (fun v _ s' => Q (.done (.ret v)) s') (fun e _ s' => E e s') p' s := fun p' => h Γ p' hΓ
    show Sem.wp _ Γ (if okStack ((Γ.code, p) :: Γ.below) = true then _ else _) _ _ p s
    by_cases hk : okStack ((Γ.code, p) :: Γ.below) = true
    · rw [if_pos hk]
      simp only [if_pos hk] at h1
      rw [Sem.wp_bind']
      refine Sem.wp_mono _ _ _ (fun x p' s' hx => ?_) (fun _ _ _ x => x) p s (wpAny_nsGet (E := fun e s' => E e s') hg (Q := fun v s' => v = some f ∧ s' = s) ⟨hf, rfl⟩ Γ p hΓ)
      obtain ⟨rfl, rfl⟩ := hx
      dsimp only
      rw [Sem.wp_bind']
      exact Sem.wp_mono _ _ _ (fun v p'' s'' hv => hv) (fun _ _ _ x => x) p' s' (h1 p')
    · rw [if_neg hk]
      simp only [if_neg hk] at h1
      exact h1 p
  · obtain rfl : n = r.name := by split at hn <;> simp_all
    exact pinned_of_view hg G hdef hp hk
  · obtain ⟨a, o, pm, cd, doc, dV, kV, h1, h2, h3, h4, h5⟩ := G.fn hdef
    exact ⟨.ref a, h1, call w s₀ s₁ mg mb G Y a o pm cd doc dV kV h2 h3 h4 h5 (defOf_name hdef ▸ h1) L.gens args vs as hpre hlay L.reads L.well (L.low low)⟩
end Mine.PySem.W
end

/-! ## GyHead2 -/
section
open PySem PySem.W PyProof.Rows
namespace Mine
set_option maxRecDepth 100000 in
set_option maxHeartbeats 8000000 in
open_top hd for PySem.Challenge.rw_gy0001_01
end Mine
end

/-! ## GyM -/
section
open PySem PySem.W PyProof.Rows PyProof.Rows.LCg PySem.Calls
namespace Mine
section
variable {prog : Program} {w : World} {A : Around} {E : Value → Shared → Prop} {s : Shared} {h₀ : Heap} {L : Addr} {m : Str → Option Value} {env : Env}

/-- the element's expression, in the comprehension's block, is g of the int under x -/
def EltIs (prog : Program) (w : World) (A : Around) (env : Env) (scope : Scope) (x : Str) (elt : Expr) (g : Int → Int) : Prop :=
  ∀ (C : Addr) (oC : Obj) (m₂ : Str → Option Value) (k : Int) (t : Tok) (s₁ : Shared) (E' : Value → Shared → Prop) (Q' : Value → Shared → Prop), s₁.heap.get? C = some oC → NsObj oC m₂ → m₂ x = some (.int k t) →
    (∀ t' tk', Q' (.int (g k) t') { s₁ with toks := tk' }) → wpAny (model prog w) A (eval elt (compEnvC scope [] C env)) Q' E' s₁

theorem rest_ints {elt : Expr} {x : Str} {scope : Scope} {S : List (Addr × Obj) → Prop} {P : Nat → Value → Prop} {news : List (Addr × Obj)} {g : Int → Int} (kk : List Int)
    (hP : ∀ i v, P i v → ∃ n t, kk[i]? = some n ∧ v = .int n t) (hS : S news) (he : EltIs prog w A env scope x elt g) :
    ∀ k i ys, i + k = kk.length → IntsAre ys ((kk.take i).map g) → CompRest prog w A h₀ L m env elt x scope [] s S P (fun ys nw => nw = news ∧ IntsAre ys (kk.map g)) k i ys news
  | 0, i, ys, hi, hy => CompRest.zero ⟨rfl, by rw [List.take_of_length_le (by omega)] at hy; exact hy⟩
  | k + 1, i, ys, hi, hy => CompRest.succ fun v I oI C oC D m₂ h tk E' hPv hC hx F N off hne => by
    obtain ⟨n, t, hn, rfl⟩ := hP i v hPv
    refine he C oC m₂ n t _ E' _ (N (C, oC) (.tail _ (.head _))).1 hC hx fun t' tk' => ?_
    refine CompEnd.intro (s₁ := { s with heap := h, toks := tk }) F N news (fun p hp => hp) off hS ?_
    refine rest_ints kk hP hS he k (i + 1) (ys ++ [.int (g n) t']) (by omega) ?_
    have : kk.take (i + 1) = kk.take i ++ [n] := by rw [List.take_add_one, hn]; rfl
    rw [this, List.map_append]
    exact IntsAre.append hy (.cons _ _ .nil)

theorem off1_mem {D : Addr} : ∀ {l : List (Addr × Obj)}, Off1 D l → ∀ p ∈ l, p.1 ≠ D
  | [], _, _, h => nomatch h
  | _ :: _, x, p, h => by
    rcases List.mem_cons.mp h with rfl | h
    · exact x.1
    · exact off1_mem x.2 p h
theorem comp_bytes {elt iter : Expr} {x : Str} {px : Pos} {scope : Scope} {pos ipos : Pos} {Q : Value → Shared → Prop} {news : List (Addr × Obj)} {b : Array UInt8} {t : Tok} {g : Int → Int} (hh : A.handled = none) (hsz : b.size ≤ sizeLine)
    (F : Fr h₀ env.locals s.heap m) (N : News h₀ env.locals s.heap news) (he : EltIs prog w A env scope x elt g)
    (hclos : closureFor scope env = pure []) (hcell : ∀ y ∈ scope.names, y.2 ≠ .cell) (hkind : scope.kind = .function)
    (hnames : ∀ y ∈ scope.names, y.2 = .local → scope.names.lookup y.1 = some .local) (hx : scope.names.lookup x = some .local)
    (fin : ∀ D h tk ys, Fr h₀ env.locals h m → News h₀ env.locals h ((D, listOf ys.toArray ys.length) :: news) → (∀ p ∈ news, p.1 ≠ D) → IntsAre ys ((KBw.bInts b).map g) → Q (.ref D) { s with heap := h, toks := tk })
    (hs : ∀ x, foldedSetIterable iter env x = pure x) :
    wpAny (model prog w) A (comprehension (.ListComp elt [⟨.Name x px, iter, [], 0⟩] scope pos) scope env ipos (newList []) false (pure (.bytes b t))) Q E s := by
  refine wpAny_comprehension_free (use := none) rfl hs hclos hkind hnames (wpAny_pure (KBw.pyIter_bytes ?_))
  have W := KBw.walks (prog := prog) (w := w) hh s.heap.objs.size b t
  refine block_U (h₀ := h₀) (L := env.locals) (m := m) (S := fun _ => True) (news := news) (Fin := fun ys nw => nw = news ∧ IntsAre ys ((KBw.bInts b).map g)) W hsz (fun i h st => let ⟨o, e, _⟩ := st; ⟨o, e⟩) (fun i h h' o nw st e e' _ _ _ => ?_) hcell hkind hx ⟨_, Heap.get?_push_size _ rfl, rfl, rfl⟩ (fun b hb => ?_)
      (F.push _) (fun p hp => ⟨Heap.get?_push_of_some _ (N p hp).1, (N p hp).2⟩) (Nat.ne_of_lt F.ns.lt) (next_is_new F) (fun p hp => Nat.ne_of_lt (Heap.lt_size (N p hp).1)) trivial ?_ ?_
  · obtain ⟨o', q, r⟩ := st
    rw [e] at q; cases q
    exact ⟨o, e', r⟩
  · rw [List.mem_singleton.mp hb]
    show s.heap.objs.size < (s.heap.push _).objs.size
    rw [Heap.size_push]; exact Nat.lt_succ_self _
  · rw [← KBw.ints_length b]
    refine rest_ints (KBw.bInts b) (fun i v => ?_) trivial he (KBw.bInts b).length 0 [] (Nat.zero_add _) .nil
    rintro ⟨c, u, hc, rfl⟩
    exact ⟨_, u, KBw.ints_get hc, rfl⟩
  · rintro D C h tk m' ys news' F' N' o1 hn hC₀ hD₀ hCL hDL hCD offC ⟨rfl, hi⟩
    refine ⟨m', hn, fun h'' hs'' => ?_⟩
    refine fin D h'' tk ys (F'.change hs'' hCL hC₀) (fun p hp => ?_) (off1_mem o1) hi
    · refine ⟨hs''.extBut _ _ ?_ (N' p hp).1, (N' p hp).2⟩
      rcases List.mem_cons.mp hp with rfl | hp
      · exact Ne.symm hCD
      · exact offC p hp

theorem comp_list {elt iter : Expr} {x : Str} {px : Pos} {scope : Scope} {pos ipos : Pos} {Q : Value → Shared → Prop} {news : List (Addr × Obj)} {l : Addr} {vs : List Value} {ns : List Int} {nn : Nat} {g : Int → Int} (hh : A.handled = none) (hsz : vs.length ≤ sizeLine)
    (F : Fr h₀ env.locals s.heap m) (N : News h₀ env.locals s.heap news) (hl : (l, listOf vs.toArray nn) ∈ news) (hi : IntsAre vs ns) (he : EltIs prog w A env scope x elt g)
    (hclos : closureFor scope env = pure []) (hcell : ∀ y ∈ scope.names, y.2 ≠ .cell) (hkind : scope.kind = .function)
    (hnames : ∀ y ∈ scope.names, y.2 = .local → scope.names.lookup y.1 = some .local) (hx : scope.names.lookup x = some .local)
    (fin : ∀ D h tk ys, Fr h₀ env.locals h m → News h₀ env.locals h ((D, listOf ys.toArray ys.length) :: news) → (∀ p ∈ news, p.1 ≠ D) → IntsAre ys (ns.map g) → Q (.ref D) { s with heap := h, toks := tk })
    (hs : ∀ x, foldedSetIterable iter env x = pure x) :
    wpAny (model prog w) A (comprehension (.ListComp elt [⟨.Name x px, iter, [], 0⟩] scope pos) scope env ipos (newList []) false (pure (.ref l))) Q E s := by
  have hol : s.heap.get? l = some (listOf vs.toArray nn) := (N _ hl).1
  have hls : s.heap.IsList l vs.toArray := ⟨_, hol, rfl, nn, rfl⟩
  have hlt : l < s.heap.objs.size := Heap.lt_size hol
  have hsa : SrcAt h₀ l vs.toArray news := .inr ⟨_, hl, rfl, nn, rfl⟩
  refine wpAny_comprehension_free (use := none) rfl hs hclos hkind hnames (wpAny_pure (wpAny_pyIter_list hls ?_))
  refine block_U (h₀ := h₀) (L := env.locals) (m := m) (S := SrcAt h₀ l vs.toArray) (news := news) (Fin := fun ys nw => nw = news ∧ IntsAre ys (ns.map g)) (Walks.list hh s.heap.objs.size l (Nat.ne_of_lt hlt) vs.toArray) (by rw [List.size_toArray]; exact hsz) (fun i h st => let ⟨o, e, _⟩ := st.1; ⟨o, e⟩) list_st hcell hkind hx
      ⟨⟨_, Heap.get?_push_size _ rfl, rfl, rfl⟩, hls.push _⟩ (fun b hb => ?_)
      (F.push _) (fun p hp => ⟨Heap.get?_push_of_some _ (N p hp).1, (N p hp).2⟩) (Nat.ne_of_lt F.ns.lt) (next_is_new F) (fun p hp => Nat.ne_of_lt (Heap.lt_size (N p hp).1)) hsa ?_ ?_
  · show b < (s.heap.push _).objs.size
    rw [Heap.size_push]
    rcases List.mem_cons.mp hb with rfl | hb
    · exact Nat.lt_succ_self _
    · rw [List.mem_singleton.mp hb]; exact Nat.lt_succ_of_lt hlt
  · have hn : vs.toArray.size = ns.length := by rw [List.size_toArray]; exact hi.length
    rw [hn]
    refine rest_ints ns (fun i v hv => ?_) hsa he ns.length 0 [] (Nat.zero_add _) .nil
    have hv' : vs[i]? = some v := by simpa using hv
    obtain ⟨n, t, rfl, hn⟩ := IntsAre.at hi i v hv'
    exact ⟨n, t, hn, rfl⟩
  · rintro D C h tk m' ys news' F' N' o1 hn hC₀ hD₀ hCL hDL hCD offC ⟨rfl, hi⟩
    refine ⟨m', hn, fun h'' hs'' => ?_⟩
    refine fin D h'' tk ys (F'.change hs'' hCL hC₀) (fun p hp => ?_) (off1_mem o1) hi
    refine ⟨hs''.extBut _ _ ?_ (N' p hp).1, (N' p hp).2⟩
    rcases List.mem_cons.mp hp with rfl | hp
    · exact Ne.symm hCD
    · exact offC p hp

/-- the two elements of this law: octet - 1, and 0 - sign -/
theorem elt_less {scope : Scope} {x : Str} {px cp pos : Pos} {kk : Nat} (hx : scope.names.lookup x = some .local) (hkind : scope.kind = .function) (hd : (x == ("__debug__" : Str)) = false) :
    EltIs prog w A env scope x (.BinOp (.Name x px) .Sub (.Constant (.int 1) kk cp) pos) (fun k => k - 1) := by
  intro C oC m₂ k t s₁ E' Q' ho hC hm hQ
  show wpAny _ _ (do let a ← eval (.Name x px) _; let b ← holding [a] (eval (.Constant (.int 1) kk cp) _); standAt pos; operate [a, b] (binaryOp .Sub a b)) _ _ _
  refine wpAny_bind (wpAny_Name (wpAny_loadName_local (env := compEnvC scope [] C env) hkind (lookup_relabel_local hx) (hC.ns ho) hm ?_) hd)
  refine wpAny_bind (wpAny_holding ?_)
  show wpAny _ _ (mkInt 1) _ _ _
  refine wpAny_mkInt (wpAny_bind (wpAny_standAt ?_))
  exact wpAny_operate' (sub_int' (hQ _ _))
theorem elt_neg {scope : Scope} {x : Str} {px cp pos : Pos} {kk : Nat} (hx : scope.names.lookup x = some .local) (hkind : scope.kind = .function) (hd : (x == ("__debug__" : Str)) = false) :
    EltIs prog w A env scope x (.BinOp (.Constant (.int 0) kk cp) .Sub (.Name x px) pos) (fun k => 0 - k) := by
  intro C oC m₂ k t s₁ E' Q' ho hC hm hQ
  show wpAny _ _ (do let a ← eval (.Constant (.int 0) kk cp) _; let b ← holding [a] (eval (.Name x px) _); standAt pos; operate [a, b] (binaryOp .Sub a b)) _ _ _
  refine wpAny_bind ?_
  show wpAny _ _ (mkInt 0) _ _ _
  refine wpAny_mkInt (wpAny_bind (wpAny_holding ?_))
  refine wpAny_Name (wpAny_loadName_local (env := compEnvC scope [] C env) hkind (lookup_relabel_local hx) (hC.ns ho) hm ?_) hd
  exact wpAny_bind (wpAny_standAt (wpAny_operate' (sub_int' (hQ _ _))))
end
end Mine
end

/-! ## GyC0 -/
section
open PySem PySem.W PyProof.Rows PySem.Calls
namespace Mine
theorem fill : (fun (_ : OpenLaw) (_ : Params → Frag) => True) PySem.Challenge.rw_gy0001_01 hd.heap_39 := by
  k_fill
  trivial
/-- the swapped octets behind i turns -/
def stage (d : List UInt8) : Nat → List UInt8
  | 0 => List.replicate d.length 0
  | i + 1 => (stage d i).set (d.length - 1 - i) (d.getD i 0)
theorem stage_len (d : List UInt8) : ∀ i, (stage d i).length = d.length
  | 0 => List.length_replicate
  | i + 1 => by rw [stage, List.length_set]; exact stage_len d i
theorem stage_at (d : List UInt8) : ∀ i, i ≤ d.length → ∀ k, k < d.length → (stage d i)[k]? = some (if d.length - 1 - k < i then d.getD (d.length - 1 - k) 0 else 0)
  | 0, _, k, hk => by simp [stage, hk]
  | i + 1, hi, k, hk => by
    rw [stage, List.getElem?_set, stage_at d i (by omega) k hk, stage_len]
    by_cases h : d.length - 1 - i = k
    · rw [if_pos h, if_pos (by omega), if_pos (by omega)]
      congr 2
      omega
    · rw [if_neg h]
      congr 1
      by_cases h2 : d.length - 1 - k < i
      · rw [if_pos h2, if_pos (by omega)]
      · rw [if_neg h2, if_neg (by omega)]
theorem stage_end (d : List UInt8) : stage d d.length = d.reverse := by
  apply List.ext_getElem?
  intro k
  by_cases hk : k < d.length
  · rw [stage_at d _ (Nat.le_refl _) k hk, if_pos (by omega), List.getElem?_reverse hk, List.getD_eq_getElem?_getD, List.getElem?_eq_getElem (by omega)]
    rfl
  · rw [List.getElem?_eq_none (by rw [stage_len]; omega), List.getElem?_eq_none (by rw [List.length_reverse]; omega)]
abbrev P : Program := PySem.Challenge.rw_gy0001_01.row.prog
section
local macro_rules | `(tactic| walk_at "pyIter ref") => `(tactic| ((with_reducible show wpAny _ _ (pyIter (Value.ref _)) _ _ _); refine Hold.out ?_))
set_option maxHeartbeats 2000000 in
theorem bs {w : World} {mean : ExcName → Option Value} {mg mb : Str → Option Value} {dp un : Nat} {cn : Str} {cs : Scope} {a : Addr} {ccd : Value} {cl : List (Str × Addr)} {outer : List Env} {A₀ : Around} {base h₀ : Heap} {L : Addr} {m : Str → Option Value} {news : List (Addr × Obj)} {s : Shared} {Q E : Value → Shared → Prop}
  {d : List UInt8} {t t2 : Tok} {n : Int} (hn : n = d.length) (hn0 : 0 < n) (hn1 : n ≤ 64)
  (B : Below A₀ base outer h₀) (F : Fr h₀ L s.heap m) (X : (hd.heap_39 w.params).In h₀) (N : News h₀ L s.heap news) (T : Top hd.view_39 (looseW hd.view_39 []) mean mg mb h₀) (hk : cs.kind = .function)
  (hd : dp + 1 < recursionLimit) (hu : un + 8 < cLine)
  (hret : ∀ t h' tk', Fr h₀ L h' m → News h₀ L h' news → Q (.bytes d.reverse.toArray t) { s with heap := h', toks := tk' }) :
  wpS (model P w) (ktrTop dp un (some []) cn cs L a ccd cl outer) (call (.ref 21) [.bytes d.toArray t, .int n t2]) Q E s := by
  have hsz : d.toArray.size = d.length := List.size_toArray ..
  refine S_call ?_
  k_dflt (refine' codeS_def ?k1 ?k2 ?k3 ?k4 ?k5 ?kA ?kF ?kK ?k6 ?k7 ?k8 ?k9 ?kB ?_ ?c2 ?c3 ?c4 ?c5; (case kA => exact rfl); (case kF => exact rfl); (case kK => assumption); (case k1 => k_asm); (case k2 => k_asm); (case k3 => k_asm); (case k4 => k_asm); (case k5 => k_asm); (case k6 => k_is); (case k7 => k_is); (case k8 => ktr_room); (case k9 => exact BindsTo.of_eq rfl); (case c5 => decide); (case kB => exact locs rfl); (case c2 => exact rfl); (case c3 => exact rfl); (case c4 => exact rfl); k_whole; intro g' L' h' tk' FG' F' N' B' X' T' hlt'; (try dsimp only); (try k_lift B'); (try k_fold))
  refine S_execs_cons (S_AssignName (S_Call_Name1 (S_any ?_)))
  k_steps
  refine S_callWith_type (S_any ?_)
  k_steps
  rename Fr _ _ _ _ => kF
  rename News _ _ _ _ => kN
  refine S_bytearrayN rfl ?_ ?_ kF kN ?_
  · omega
  · omega
  clear kF kN
  intro S h2 F2 N2 hlt2
  k_steps
  dsimp only
  refine S_any ?_
  k_steps
  unfold Hold
  rename Fr _ _ _ _ => kF
  rename News _ _ _ _ => kN
  with_reducible rename IsRange _ _ _ _ _ _ _ _ => hr
  have hN : (d.toArray.size : Int) = n := by rw [hsz]; exact hn.symm
  rw [hN] at hr
  obtain ⟨hs2, hs1⟩ := rangenn hn0 (by omega : n ≤ 4096)
  obtain ⟨mX, FX, e1, e2, e3⟩ : ∃ mX, Fr g' L' _ mX ∧ mX "swapped_data" = some (.ref S) ∧ mX "data" = some (.bytes d.toArray t) ∧ mX "width" = some (.int n t2) := ⟨_, kF, by rfl, by rfl, by rfl⟩
  clear kF
  refine range_J (n := 1) (news := (S, baObj (stage d 0).toArray) :: news) (fun i m₁ nx => nx = (S, baObj (stage d (if i = 0 then 0 else d.length)).toArray) :: news ∧ m₁ "swapped_data" = some (.ref S) ∧ m₁ "data" = some (.bytes d.toArray t) ∧ m₁ "width" = some (.int n t2))
    rfl hr hs1 hs2 FX ?_ ⟨rfl, e1, e2, e3⟩ ?_ ?_
  · rw [hsz, Int.toNat_natCast, ← List.toArray_replicate] at kN
    exact kN
  · rintro i I it t1 m₁ nx h3 tk3 hi ⟨rfl, e1, e2, e3⟩ hoff F1 N1
    obtain rfl : i = 0 := by omega
    have hS : S ≠ I := hoff _ (.head _)
    have hoff' : ∀ p ∈ news, p.1 ≠ I := fun p hp => hoff p (.tail _ hp)
    clear hoff
    have z0 : (0 : Int) + ((0 : Nat) : Int) * n = 0 := by simp
    rw [z0] at F1
    obtain ⟨mY, FY, f1, f2, f3, f4⟩ : ∃ mY, Fr g' L' h3 mY ∧ mY "swapped_data" = some (.ref S) ∧ mY "data" = some (.bytes d.toArray t) ∧ mY "width" = some (.int n t2) ∧ mY "i" = some (.int 0 t1) :=
      ⟨_, F1, (if_neg (by decide)).trans e1, (if_neg (by decide)).trans e2, (if_neg (by decide)).trans e3, if_pos rfl⟩
    have FZ := fr_ovl4 FY f1 f2 f3 f4
    clear F1 FX kN FY
    k_steps
    unfold Hold
    rename Fr _ _ _ _ => kF
    rename News _ _ _ _ => kN
    with_reducible rename IsRange _ _ _ _ _ _ _ _ => hr2
    obtain ⟨hs4, hs3⟩ := range01 (n := n) (by omega) (by omega)
    obtain ⟨mU, FU, g1, g2, g3, g4⟩ : ∃ mU, Fr g' L' _ mU ∧ mU "swapped_data" = some (.ref S) ∧ mU "data" = some (.bytes d.toArray t) ∧ mU "width" = some (.int n t2) ∧ mU "i" = some (.int 0 t1) := ⟨_, kF, by rfl, by rfl, by rfl, by rfl⟩
    clear kF
    refine range_J (n := d.length) (news := (I, itS (0 + ((0 + 1 : Nat) : Int) * n) it n) :: (S, baObj (stage d 0).toArray) :: news) (fun j m₁ nx => nx = (I, itS (0 + ((0 + 1 : Nat) : Int) * n) it n) :: (S, baObj (stage d j).toArray) :: news ∧ m₁ "swapped_data" = some (.ref S) ∧ m₁ "data" = some (.bytes d.toArray t) ∧ m₁ "width" = some (.int n t2) ∧ m₁ "i" = some (.int 0 t1))
      rfl hr2 hs3 (hs4.trans hn) FU kN ⟨rfl, g1, g2, g3, g4⟩ ?_ ?_
    · rintro j I2 it2 t5 m₁ nx h5 tk5 hj ⟨rfl, e1, e2, e3, e4⟩ hoff2 F2 N2
      have zj : (0 : Int) + (j : Int) * 1 = j := by omega
      rw [zj] at F2
      obtain ⟨mZ, FZ2, f1, f2, f3, f4, f5⟩ : ∃ mZ, Fr g' L' h5 mZ ∧ mZ "swapped_data" = some (.ref S) ∧ mZ "data" = some (.bytes d.toArray t) ∧ mZ "width" = some (.int n t2) ∧ mZ "i" = some (.int 0 t1) ∧ mZ "j" = some (.int j t5) :=
        ⟨_, F2, (if_neg (by decide)).trans e1, (if_neg (by decide)).trans e2, (if_neg (by decide)).trans e3, (if_neg (by decide)).trans e4, if_pos rfl⟩
      have FZ3 := fr_ovl5 FZ2 f1 f2 f3 f4 f5
      clear F2 FU kN FZ2
      k_steps
      dsimp only
      refine ba_setItem (b := (stage d j).toArray) (N2 _ (.tail _ (.tail _ (.head _)))).1 ?_ ?_ ?_ ?_ ?_ ?_
      · omega
      · rw [List.size_toArray, stage_len]; omega
      · rw [List.size_toArray, stage_len]; omega
      · omega
      · have := (d.getD (0 + (j : Int)).toNat 0).toNat_lt; omega
      intro h6 hs6 ho6
      have hS2 : S ≠ I2 := hoff2 _ (.tail _ (.head _))
      obtain ⟨F6, N6⟩ := led_set (pre := [(I2, itS (0 + ((j + 1 : Nat) : Int) * 1) it2 1), (I, itS (0 + ((0 + 1 : Nat) : Int) * n) it n)]) FZ3 N2 hs6 ho6 (by
        intro p hp
        rcases List.mem_cons.mp hp with rfl | hp
        · exact Ne.symm hS2
        · rw [List.mem_singleton.mp hp]; exact Ne.symm hS) (fun p hp => Nat.ne_of_lt (hlt2 p hp))
      have es : ((stage d j).toArray.setIfInBounds (0 + n - 1 - (j : Int)).toNat (((d.getD (0 + (j : Int)).toNat 0).toNat : Nat) : Int).toNat.toUInt8) = (stage d (j + 1)).toArray := by
        rw [List.setIfInBounds_toArray, stage]
        have h1 : (0 + n - 1 - (j : Int)).toNat = d.length - 1 - j := by omega
        have h2 : (0 + (j : Int)).toNat = j := by omega
        rw [h1, h2, Int.toNat_natCast]
        congr 2
        exact UInt8.ofNat_toNat
      rw [es] at N6
      k_steps
      refine unrEnd_J F6 N6 (.head _) (nx := (I, itS (0 + ((0 + 1 : Nat) : Int) * n) it n) :: (S, baObj (stage d (j + 1)).toArray) :: news) (fun p hp => .tail _ hp) (fun p hp => ?_) ⟨rfl, by rfl, by rfl, by rfl, by rfl⟩
      rcases List.mem_cons.mp hp with rfl | hp
      · exact .inr (hoff2 _ (.head _))
      · rcases List.mem_cons.mp hp with rfl | hp
        · exact .inr hS2
        · exact .inr (hoff2 _ (.tail _ (.tail _ hp)))
    · rintro m₁ nx h5 tk5 ⟨rfl, e1, e2, e3, e4⟩ F2 N2
      dsimp only
      refine wpAny_execs_nil ?_
      show UnrEnd _ _ _ _ _ _ _
      refine unrEnd_J F2 N2 (.head _) (nx := (S, baObj (stage d d.length).toArray) :: news) ?_ ?_ ?_
      · exact fun p hp => .tail _ hp
      · intro p hp
        rcases List.mem_cons.mp hp with rfl | hp
        · exact .inr hS
        · exact .inr (hoff' p hp)
      · exact ⟨rfl, e1, e2, e3⟩
  · rintro m₁ nx h3 tk3 ⟨rfl, e1, e2, e3⟩ F1 N1
    have FZ := fr_ovl3 F1 e1 e2 e3
    clear F1 FX kN
    dsimp only
    k_steps
    refine call_bytes_ba (N1 _ (.head _)).1 ?_ ?_
    · rw [List.size_toArray, stage_len]; omega
    intro t9 k9
    rw [if_neg (by decide), stage_end]
    refine leaveK_ FZ N1 fun kF kN => ?_
    exact hret _ _ _ kF fun p hp => kN p (.tail _ hp)
end
end Mine
end

/-! ## GyC1 -/
section
open PySem PySem.W PyProof.Rows PySem.Calls
namespace Mine
theorem fill1 : (fun (_ : OpenLaw) (_ : Params → Frag) => True) PySem.Challenge.rw_gy0001_01 hd.heap_39 := by
  k_fill
  trivial
theorem turned_ints {ns : List Int} {d : List UInt8} (hd : List.map (fun a : Int => (a + 1).toNat.toUInt8) ns = d) (hpm : ∀ n ∈ ns, n = 1 ∨ n = -1) : (KBw.bInts d.reverse.toArray).map (fun k => k - 1) = ns.reverse := by
  subst hd
  rw [KBw.ints_list, List.map_map, ← List.map_reverse, List.map_map]
  refine (List.map_congr_left fun n hn => ?_).trans (List.map_id _)
  rcases hpm n (List.mem_reverse.mp hn) with rfl | rfl <;> decide
set_option maxHeartbeats 2000000 in
theorem tu {w : World} {mean : ExcName → Option Value} {mg mb : Str → Option Value} {dp un : Nat} {cn : Str} {cs : Scope} {a : Addr} {ccd : Value} {cl : List (Str × Addr)} {outer : List Env} {A₀ : Around} {base h₀ : Heap} {L : Addr} {m : Str → Option Value} {news : List (Addr × Obj)} {s : Shared} {Q E : Value → Shared → Prop}
  {l : Addr} {vs : List Value} {ns : List Int} {nn : Nat} (hi : IntsAre vs ns) (hn0 : 0 < ns.length) (hn1 : ns.length ≤ 64) (hpm : ∀ n ∈ ns, n = 1 ∨ n = -1)
  (B : Below A₀ base outer h₀) (F : Fr h₀ L s.heap m) (X : (hd.heap_39 w.params).In h₀) (N : News h₀ L s.heap ((l, listOf vs.toArray nn) :: news)) (T : Top hd.view_39 (looseW hd.view_39 []) mean mg mb h₀) (hk : cs.kind = .function)
  (hd : dp + 2 < recursionLimit) (hu : un + 16 < cLine)
  (hret : ∀ r us h' tk' c, Fr h₀ L h' m → News h₀ L h' ((r, listOf us.toArray c) :: (l, listOf vs.toArray nn) :: news) → IntsAre us ns.reverse → (∀ p ∈ (l, listOf vs.toArray nn) :: news, p.1 ≠ r) → Q (.ref r) { s with heap := h', toks := tk' }) :
  wpS (model P w) (ktrTop dp un (some []) cn cs L a ccd cl outer) (call (.ref 40) [.ref l]) Q E s := by
  refine S_call ?_
  k_dflt (refine' codeS_def ?k1 ?k2 ?k3 ?k4 ?k5 ?kA ?kF ?kK ?k6 ?k7 ?k8 ?k9 ?kB ?_ ?c2 ?c3 ?c4 ?c5; (case kA => exact rfl); (case kF => exact rfl); (case kK => assumption); (case k1 => k_asm); (case k2 => k_asm); (case k3 => k_asm); (case k4 => k_asm); (case k5 => k_asm); (case k6 => k_is); (case k7 => k_is); (case k8 => ktr_room); (case k9 => exact BindsTo.of_eq rfl); (case c5 => decide); (case kB => exact locs rfl); (case c2 => exact rfl); (case c3 => exact rfl); (case c4 => exact rfl); k_whole; intro g' L' h' tk' FG' F' N' B' X' T' hlt'; (try dsimp only); (try k_lift B'); (try k_fold))
  refine S_execs_cons (S_any ?_)
  k_steps
  rename Fr _ _ _ _ => kF
  rename News _ _ _ _ => kN
  with_reducible rename CarriedAll _ _ => hc
  simp only [PyProof.Rows.filter_true'] at hc
  have hii := CarriedAll.intsOf hc
  refine call_bytes_ints (by assumption) hii ?_ ?_ rfl ?_
  · intro n hn
    obtain ⟨k, hk, rfl⟩ := List.mem_map.mp hn
    rcases hpm k hk with rfl | rfl <;> decide
  · have := hii.length
    rw [List.length_map] at this
    rw [this, sizeLine_eq]; omega
  intro h4 t4 k4 keep4
  have eb : byteArr (List.map (fun a => a + 1) ns) = (List.map (fun a : Int => (a + 1).toNat.toUInt8) ns).toArray := by simp [byteArr]
  rw [eb]
  generalize hdd : List.map (fun a : Int => (a + 1).toNat.toUInt8) ns = d
  have hdl : d.length = ns.length := by rw [← hdd, List.length_map]
  have F4 := kF.keeps keep4
  have N4 := kN.grown keep4
  clear kF kN
  k_steps
  dsimp only
  refine S_execs_cons (S_Return (S_ListComp (S_Call_Name2 (S_any ?_))))
  k_steps
  refine S_callWith_K X' (by k_is) rfl rfl (S_spliced_cons (S_any ?_))
  k_steps
  refine S_spliced_cons (S_any ?_)
  k_steps
  refine S_spliced_nil ⟨Fr.keep (by assumption), ?_⟩
  rename Fr _ _ _ _ => kF
  rename News _ _ _ _ => kN
  refine bs ?_ ?_ ?_ B' kF X' kN T' rfl ?_ ?_ ?_
  · rw [List.size_toArray]
  · rw [List.size_toArray]; omega
  · rw [List.size_toArray]; omega
  · show dp + 1 + 1 < recursionLimit
    omega
  · show un + 3 + 8 < cLine
    omega
  · intro t9 h9 tk9 F9 N9
    dsimp only
    refine comp_bytes rfl ?_ F9 N9 (elt_less rfl rfl (by decide)) rfl (by decide) rfl (by decide) rfl ?_ (fun _ => rfl)
    · rw [List.size_toArray, List.length_reverse, sizeLine_eq]; omega
    intro D h10 tk10 ys F10 N10 hne hys
    rw [show (KBw.bInts d.reverse.toArray).map (fun k => k - 1) = ns.reverse from turned_ints hdd hpm] at hys
    exact leaveK_ F10 N10 fun kF kN => hret D ys h10 tk10 _ kF kN hys hne
end Mine
end

/-! ## GyC2a -/
section
open PySem PySem.W PyProof.Rows PySem.Calls
namespace Mine
theorem fill2 : (fun (_ : OpenLaw) (_ : Params → Frag) => True) PySem.Challenge.rw_gy0001_01 hd.heap_39 := by
  k_fill
  trivial
abbrev tupOf (vs : List Value) : Obj := { cls := .type "tuple", data := .seq vs.toArray }
/-- an empty dict -/
abbrev NilD (w : World) (o : Obj) : Prop := Obj.IsDictOf (PySem.strKind P w) o []
theorem For_items_nil {w : World} {A : Around} {E : Value → Shared → Prop} {s : Shared} {h₀ : Heap} {m : Str → Option Value} {env : Env} {news : List (Addr × Obj)} {Q : Flow → Shared → Prop} {xk xv xd : Str} {pk pv pt pos apos cpos pd : Pos} {x1 : Nat} {body : List Stmt} {d : Addr} {o : Obj}
    (F : Fr h₀ env.locals s.heap m) (N : News h₀ env.locals s.heap news) (hm : (d, o) ∈ news) (ho : NilD w o) (hdS : (d == sysModules) = false) (hv : m xd = some (.ref d)) (hh : A.handled = none) (hk : env.scope.kind = .function)
    (hxk : env.kindOf xk = some .local) (hxv : env.kindOf xv = some .local) (hxd : env.kindOf xd = some .local) (hdb : (xd == ("__debug__" : Str)) = false)
    (hbase : attributeBase (.Name xd pd) "items" env (eval (.Name xd pd) env) = eval (.Name xd pd) env) (hline : (apos.endLine == cpos.line) = true)
    (hE : PassesOwn (model P w) A env E)
    (h : ∀ h' tk, Fr h₀ env.locals h' m → News h₀ env.locals h' news → Q .next { s with heap := h', toks := tk }) :
    wpAny (model P w) A (exec (.For (.Tuple [.Name xk pk, .Name xv pv] x1 pt) (.Call (.Attribute (.Name xd pd) "items" apos) [] [] cpos) body [] pos) env) Q E s := by
  have z := N _ hm
  have hD : s.heap.DictOf (PySem.strKind P w) d [] := Heap.dictOf_iff.mpr ⟨o, z.1, ho⟩
  obtain ⟨o', es, ep, ho', hrest⟩ := hD
  have hAt : s.heap.DictAt (PySem.strKind P w) d [] ep := ⟨o', es, ho', hrest⟩
  refine wpAny_For_items_locals (ep := ep) hh hxk hxv (by rw [hk]; rfl) z.2.1 hdS hAt F.ns hbase hline (fun Q' hq => wpAny_Name (wpAny_loadName_local hk hxd F.ns hv hq) hdb) (fun _ m' => m' = m) rfl ?_ ?_ (hE := hE)
  · intro i k v key m₁ s₁ hx
    cases hx
  · rintro h' tk m' hn rfl keep
    refine h h' tk ⟨hn, fun b ob e => ?_, F.above⟩ fun p hp => ⟨keep _ _ (N p hp).2.1 (N p hp).1, (N p hp).2⟩
    refine keep b ob ?_ (F.keep b ob e)
    rintro rfl
    exact absurd (Nat.lt_of_lt_of_le (Heap.lt_size e) F.above) (Nat.lt_irrefl _)
set_option maxHeartbeats 2000000 in
theorem ac {w : World} {mean : ExcName → Option Value} {mg mb : Str → Option Value} {dp un : Nat} {cn : Str} {cs : Scope} {a : Addr} {ccd : Value} {cl : List (Str × Addr)} {outer : List Env} {A₀ : Around} {base h₀ : Heap} {L : Addr} {m : Str → Option Value} {news : List (Addr × Obj)} {s : Shared} {Q E : Value → Shared → Prop}
  {d1 d2 : Addr} {o1 o2 : Obj} (lo1 : (d1 == sysModules) = false) (hs1 : NilD w o1) (lo2 : (d2 == sysModules) = false) (hs2 : NilD w o2)
  (B : Below A₀ base outer h₀) (F : Fr h₀ L s.heap m) (X : (hd.heap_39 w.params).In h₀)
  (N : News h₀ L s.heap ((d2, o2) :: (d1, o1) :: news)) (T : Top hd.view_39 (looseW hd.view_39 []) mean mg mb h₀) (hk : cs.kind = .function)
  (hd : dp + 1 < recursionLimit) (hu : un + 8 < cLine)
  (hret : ∀ d o h' tk', (d == sysModules) = false → NilD w o → Fr h₀ L h' m → News h₀ L h' ((d, o) :: (d2, o2) :: (d1, o1) :: news) → Q (.ref d) { s with heap := h', toks := tk' }) :
  wpAny (model P w) (ktrTop dp un (some []) cn cs L a ccd cl outer) (call (.ref 35) [.ref d1, .ref d2]) Q E s := by
  refine wpAny_call ?_
  k_dflt cell_enter
  k_steps
  rename Fr _ _ _ _ => kF
  rename News _ _ _ _ => kN
  refine For_items_nil kF kN (.tail _ (.tail _ (.head _))) hs1 lo1 (by rfl) rfl rfl rfl rfl rfl (by decide) rfl rfl ?_ ?_
  · passes_own
  intro h7 tk7 F7 N7
  clear kF kN
  dsimp only
  k_steps
  exact hret _ _ _ _ (by assumption) (by assumption) (by assumption) (by first | assumption | exact cb_drop (by assumption) (by kcj_all))
end Mine
end

/-! ## GyC2 -/
section
open PySem PySem.W PyProof.Rows PySem.Calls
namespace Mine
theorem fill3 : (fun (_ : OpenLaw) (_ : Params → Frag) => True) PySem.Challenge.rw_gy0001_01 hd.heap_39 := by
  k_fill
  trivial
set_option maxHeartbeats 2000000 in
theorem af {w : World} {mean : ExcName → Option Value} {mg mb : Str → Option Value} {dp un : Nat} {cn : Str} {cs : Scope} {a : Addr} {ccd : Value} {cl : List (Str × Addr)} {outer : List Env} {A₀ : Around} {base h₀ : Heap} {L : Addr} {m : Str → Option Value} {news : List (Addr × Obj)} {s : Shared} {Q E : Value → Shared → Prop}
  {t1 t2 d1 d2 : Addr} {o1 o2 : Obj} {x y z u : Int} {k1 k2 k3 k4 : Tok} {p : Int} {j1 j2 j3 j4 : Tok} (lo1 : (d1 == sysModules) = false) (hs1 : NilD w o1) (lo2 : (d2 == sysModules) = false) (hs2 : NilD w o2)
  (B : Below A₀ base outer h₀) (F : Fr h₀ L s.heap m) (X : (hd.heap_39 w.params).In h₀)
  (N : News h₀ L s.heap ((t2, tupOf [.int p j1, .int 1 j2, .int 0 j3, .int 0 j4, .ref d2]) :: (d2, o2) :: (t1, tupOf [.int x k1, .int y k2, .int z k3, .int u k4, .ref d1]) :: (d1, o1) :: news)) (T : Top hd.view_39 (looseW hd.view_39 []) mean mg mb h₀) (hk : cs.kind = .function)
  (hd : dp + 2 < recursionLimit) (hu : un + 16 < cLine)
  (hret : ∀ r d o h' tk' i1 i2 i3 i4, (d == sysModules) = false → NilD w o → Fr h₀ L h' m → News h₀ L h' ((r, tupOf [.int (p + x) i1, .int (1 + y) i2, .int (0 + z) i3, .int (0 + u) i4, .ref d]) :: (d, o) :: news) → Q (.ref r) { s with heap := h', toks := tk' }) :
  wpAny (model P w) (ktrTop dp un (some []) cn cs L a ccd cl outer) (call (.ref 28) [.ref t1, .ref t2]) Q E s := by
  refine wpAny_call ?_
  k_dflt cell_enter
  k_steps
  rename Fr _ _ _ _ => kF
  rename News _ _ _ _ => kN
  refine ac (news := (t2, tupOf [.int p j1, .int 1 j2, .int 0 j3, .int 0 j4, .ref d2]) :: (t1, tupOf [.int x k1, .int y k2, .int z k3, .int u k4, .ref d1]) :: news) lo1 hs1 lo2 hs2 (by assumption) kF (by assumption) (cb_drop kN (by kcj_all)) (by assumption) rfl ?_ ?_ ?_
  · show dp + 1 + 1 < recursionLimit
    omega
  · show un + 3 + 8 < cLine
    omega
  intro d9 o9 h9 tk9 lo9 hs9 F9 N9
  clear kF kN
  dsimp only
  k_steps
  rename News _ _ _ _ => kN
  exact hret _ d9 o9 _ _ _ _ _ _ lo9 hs9 (by assumption) (cb_drop kN (by kcj_all))
end Mine
end

/-! ## GyC3 -/
section
open PySem PySem.W PyProof.Rows PySem.Calls
namespace Mine
theorem fill4 : (fun (_ : OpenLaw) (_ : Params → Frag) => True) PySem.Challenge.rw_gy0001_01 hd.heap_39 := by
  k_fill
  trivial
/-- a row beside itself moved on, summed up to a place, on top of c -/
def corS (ns : List Int) (mv : Nat) (c : Int) : Nat → Int
  | 0 => c
  | j + 1 => ns.getD j 0 * ns.getD (j + mv) 0 + corS ns mv c j
/-- both rows' numbers at a move -/
def both (ns ms : List Int) (mv : Nat) : Int := corS ms mv (corS ns mv 0 (ns.length - mv)) (ms.length - mv)
def beside (ns ms : List Int) : List Int := (List.range ns.length).map (both ns ms)
theorem pm_ok {a b : Int} (ha : a = 1 ∨ a = -1) (hb : b = 1 ∨ b = -1) : IntMulOk a b := by
  rcases ha with rfl | rfl <;> rcases hb with rfl | rfl <;> mul_fits
theorem pm_get {rs : List Int} (h : ∀ n ∈ rs, n = 1 ∨ n = -1) {k : Nat} (hk : k < rs.length) : rs.getD k 0 = 1 ∨ rs.getD k 0 = -1 := by
  rw [List.getD_eq_getElem?_getD, List.getElem?_eq_getElem hk]
  exact h _ (List.getElem_mem hk)
theorem allLt_ne {D : Addr} : ∀ {l : List (Addr × Obj)}, AllLt D l → ∀ p ∈ l, p.1 ≠ D
  | [], _, _, h => nomatch h
  | _ :: _, x, p, h => by
    rcases List.mem_cons.mp h with rfl | h
    · exact Nat.ne_of_lt x.1
    · exact allLt_ne x.2 p h
theorem nilD_cls {w : World} {o : Obj} {n : String} (h : NilD w o) (hn : (Value.type "dict") ≠ (Value.type n)) : o.cls ≠ Value.type n := by
  obtain ⟨es, ep, hx, _⟩ := h
  have : o.cls = .type "dict" := hx.1
  rw [this]; exact hn
section
local macro_rules | `(tactic| walk_at "pyIter ref") => `(tactic| ((with_reducible show wpAny _ _ (pyIter (Value.ref _)) (fun it s₂ => LoopAtV _ _ _ _ _ (Str.ofString "k") _ _ _ it s₂) _ _); refine Hold.out ?_))
local macro_rules | `(tactic| walk_at "pyIter ref") => `(tactic| ((with_reducible show wpAny _ _ (pyIter (Value.ref _)) (fun it s₂ => LoopAtV _ _ _ _ _ (Str.ofString "move") _ _ _ it s₂) _ _); refine Hold.out ?_))
set_option maxHeartbeats 2000000 in
theorem bd {w : World} {mean : ExcName → Option Value} {mg mb : Str → Option Value} {dp un : Nat} {cn : Str} {cs : Scope} {a : Addr} {ccd : Value} {cl : List (Str × Addr)} {outer : List Env} {A₀ : Around} {base h₀ : Heap} {L : Addr} {m : Str → Option Value} {news : List (Addr × Obj)} {s : Shared} {Q E : Value → Shared → Prop}
  {l1 l2 : Addr} {vs1 vs2 : List Value} {ns ms : List Int} {c1 c2 : Nat} (hi1 : IntsAre vs1 ns) (hi2 : IntsAre vs2 ms) (hn0 : 0 < ns.length) (hn1 : ns.length ≤ 64) (hnm : ms.length = ns.length) (hp1 : ∀ n ∈ ns, n = 1 ∨ n = -1) (hp2 : ∀ n ∈ ms, n = 1 ∨ n = -1)
  (B : Below A₀ base outer h₀) (F : Fr h₀ L s.heap m) (X : (hd.heap_39 w.params).In h₀)
  (N : News h₀ L s.heap ((l1, listOf vs1.toArray c1) :: (l2, listOf vs2.toArray c2) :: news)) (T : Top hd.view_39 (looseW hd.view_39 []) mean mg mb h₀) (hk : cs.kind = .function)
  (hd : dp + 3 < recursionLimit) (hu : un + 24 < cLine)
  (hret : ∀ r us h' tk' c, Fr h₀ L h' m → News h₀ L h' ((r, listOf us.toArray c) :: (l1, listOf vs1.toArray c1) :: (l2, listOf vs2.toArray c2) :: news) → IntsAre us (beside ns ms) → Q (.ref r) { s with heap := h', toks := tk' }) :
  wpAny (model P w) (ktrTop dp un (some []) cn cs L a ccd cl outer) (call (.ref 47) [.ref l1, .ref l2]) Q E s := by
  refine wpAny_call ?_
  k_dflt (refine' code_def ?k1 ?k2 ?k3 ?k4 ?k5 ?kA ?kF ?kK ?k6 ?k7 ?k8 ?k9 ?kB ?_ ?c2 ?c3 ?c4 ?c5; (case kA => exact rfl); (case kF => exact rfl); (case kK => assumption); (case k1 => k_asm); (case k2 => k_asm); (case k3 => k_asm); (case k4 => k_asm); (case k5 => k_asm); (case k6 => k_is); (case k7 => k_is); (case k8 => ktr_room); (case k9 => exact BindsTo.of_eq rfl); (case c5 => decide); (case kB => exact locs rfl); (case c2 => exact rfl); (case c3 => exact rfl); (case c4 => exact rfl); k_whole; intro g' L' h' FG' F' N' B' X' T'; (try dsimp only); (try k_lift B'); (try k_fold))
  k_steps
  unfold Hold
  rename Fr _ _ _ _ => kF
  rename News _ _ _ _ => kN
  rename _ < _ ∧ _ < _ ∧ AllLt _ _ => kL
  with_reducible rename IsRange _ _ _ _ _ _ _ _ => hr
  obtain ⟨hs2, hs1⟩ := range01 (n := (ns.length : Int)) (by omega) (by omega)
  obtain ⟨fl, mX, hfl, FX, NX, e1, e2, e3⟩ : ∃ fl mX, (l1 < fl ∧ l2 < fl ∧ AllLt fl news) ∧ Fr g' L' _ mX ∧ News g' L' _ ((fl, listOf #[] 0) :: (l1, listOf vs1.toArray c1) :: (l2, listOf vs2.toArray c2) :: news) ∧ mX "found" = some (.ref fl) ∧ mX "one" = some (.ref l1) ∧ mX "other" = some (.ref l2) := ⟨_, _, kL, kF, kN, by rfl, by rfl, by rfl⟩
  clear kF kN kL
  have hfn : ∀ p ∈ (l1, listOf vs1.toArray c1) :: (l2, listOf vs2.toArray c2) :: news, p.1 ≠ fl := fun p hp => by
    rcases List.mem_cons.mp hp with rfl | hp
    · exact Nat.ne_of_lt hfl.1
    rcases List.mem_cons.mp hp with rfl | hp
    · exact Nat.ne_of_lt hfl.2.1
    · exact allLt_ne hfl.2.2 p hp
  refine range_J (n := ns.length) (news := (fl, listOf #[] 0) :: (l1, listOf vs1.toArray c1) :: (l2, listOf vs2.toArray c2) :: news)
    (fun i m₁ nx => ∃ fs c, nx = (fl, listOf fs.toArray c) :: (l1, listOf vs1.toArray c1) :: (l2, listOf vs2.toArray c2) :: news ∧ IntsAre fs ((List.range i).map (both ns ms)) ∧ m₁ "found" = some (.ref fl) ∧ m₁ "one" = some (.ref l1) ∧ m₁ "other" = some (.ref l2))
    rfl hr hs1 hs2 FX NX ⟨[], 0, rfl, .nil, e1, e2, e3⟩ ?_ ?_
  · rintro i I it t1 m₁ nx h3 tk3 hi ⟨fs, cf, rfl, hfs, e1, e2, e3⟩ hoff F1 N1
    have zi : (0 : Int) + (i : Int) * 1 = i := by omega
    rw [zi] at F1
    obtain ⟨mY, FY, f1, f2, f3, f4⟩ : ∃ mY, Fr g' L' h3 mY ∧ mY "found" = some (.ref fl) ∧ mY "one" = some (.ref l1) ∧ mY "other" = some (.ref l2) ∧ mY "move" = some (.int i t1) :=
      ⟨_, F1, (if_neg (by decide)).trans e1, (if_neg (by decide)).trans e2, (if_neg (by decide)).trans e3, if_pos rfl⟩
    have FZ := fr_ovl4 FY f1 f2 f3 f4
    clear FX NX FY
    k_steps
    rename Fr _ _ _ _ => kF
    rename News _ _ _ _ => kN
    dsimp only at kN ⊢
    show wpAny _ _ (pyIter (Value.ref ?LS)) _ _ _
    generalize hLS : ?LS = LS at kN ⊢
    obtain ⟨wt, wd, wo, q1, q2, q3, q4, mX, FX, NX, low, hnd, e0, e1, e2, e3, e4⟩ : ∃ wt wd wo q1 q2 q3 q4 mX, Fr g' L' _ mX ∧
        News g' L' _ ((LS, listOf [Value.ref l1, Value.ref l2].toArray 0) :: (wt, tupOf [.int 0 q1, .int 0 q2, .int 0 q3, .int 0 q4, .ref wd]) :: (wd, wo) :: (I, itS (0 + ((i + 1 : Nat) : Int) * 1) it 1) :: (fl, listOf fs.toArray cf) :: (l1, listOf vs1.toArray c1) :: (l2, listOf vs2.toArray c2) :: news) ∧
        (wd == sysModules) = false ∧ NilD w wo ∧ mX "whole" = some (.ref wt) ∧ mX "found" = some (.ref fl) ∧ mX "one" = some (.ref l1) ∧ mX "other" = some (.ref l2) ∧ mX "move" = some (.int i t1) := ⟨_, _, _, _, _, _, _, _, kF, kN, by assumption, by assumption, by rfl, by rfl, by rfl, by rfl, by rfl⟩
    clear kF kN
    have hX1 : ∀ t : Nat, t < 2 → ∃ lr vr cr rs, [Value.ref l1, Value.ref l2][t]? = some (.ref lr) ∧ ((lr, listOf vr.toArray cr) ∈ [(l1, listOf vs1.toArray c1), (l2, listOf vs2.toArray c2)]) ∧ IntsAre vr rs ∧ rs.length = ns.length ∧ (∀ n ∈ rs, n = 1 ∨ n = -1) ∧
        (if t + 1 = 1 then corS ns i 0 (ns.length - i) else both ns ms i) = corS rs i (if t = 0 then 0 else if t = 1 then corS ns i 0 (ns.length - i) else both ns ms i) (ns.length - i) := by
      intro t ht
      have : t = 0 ∨ t = 1 := by omega
      rcases this with rfl | rfl
      · exact ⟨l1, vs1, c1, ns, rfl, .head _, hi1, rfl, hp1, rfl⟩
      · refine ⟨l2, vs2, c2, ms, rfl, .tail _ (.head _), hi2, hnm, hp2, ?_⟩
        show both ns ms i = corS ms i (corS ns i 0 (ns.length - i)) (ns.length - i)
        rw [both, hnm]
    refine list_J (vs := [Value.ref l1, Value.ref l2]) (nn := 0) (l := LS) (news := (LS, listOf [Value.ref l1, Value.ref l2].toArray 0) :: (wt, tupOf [.int 0 q1, .int 0 q2, .int 0 q3, .int 0 q4, .ref wd]) :: (wd, wo) :: (I, itS (0 + ((i + 1 : Nat) : Int) * 1) it 1) :: (fl, listOf fs.toArray cf) :: (l1, listOf vs1.toArray c1) :: (l2, listOf vs2.toArray c2) :: news)
      (fun t m₁ nx => ∃ wt wd wo q1 q2 q3 q4, nx = (LS, listOf [Value.ref l1, Value.ref l2].toArray 0) :: (wt, tupOf [.int (if t = 0 then 0 else if t = 1 then corS ns i 0 (ns.length - i) else both ns ms i) q1, .int ((t * (ns.length - i) : Nat) : Int) q2, .int 0 q3, .int 0 q4, .ref wd]) :: (wd, wo) :: (I, itS (0 + ((i + 1 : Nat) : Int) * 1) it 1) :: (fl, listOf fs.toArray cf) :: (l1, listOf vs1.toArray c1) :: (l2, listOf vs2.toArray c2) :: news ∧
        (wd == sysModules) = false ∧ NilD w wo ∧ m₁ "whole" = some (.ref wt) ∧ m₁ "found" = some (.ref fl) ∧ m₁ "one" = some (.ref l1) ∧ m₁ "other" = some (.ref l2) ∧ m₁ "move" = some (.int i t1))
      rfl (.head _) (fun t m₁ nx hj => by obtain ⟨_, _, _, _, _, _, _, rfl, _⟩ := hj; exact .head _) ?_ ?_ ⟨wt, wd, wo, q1, q2, q3, q4, ?_, low, hnd, e0, e1, e2, e3, e4⟩ ?_ ?_
    · exact FX
    · exact NX
    · rw [if_pos rfl, Nat.zero_mul]; rfl
    · clear FX NX low hnd e0 e1 e2 e3 e4
      clear wt wd wo q1 q2 q3 q4
      rintro t v I2 it2 m₁ nx h5 tk5 hv ⟨wt, wd, wo, q1, q2, q3, q4, rfl, low, hnd, e0, e1, e2, e3, e4⟩ hoff2 hc2 F2 N2
      have ht : t < 2 := by
        rcases Nat.lt_or_ge t 2 with h | h
        · exact h
        · rw [List.getElem?_eq_none h] at hv; cases hv
      obtain ⟨lr, vr, cr, rs, hvr, hmr, hir, hlr, hpr, hXr⟩ := hX1 t ht
      rw [hvr] at hv
      cases hv
      generalize hXt : (if t = 0 then 0 else if t = 1 then corS ns i 0 (ns.length - i) else both ns ms i) = Xt at *
      have hmem : (lr, listOf vr.toArray cr) ∈ (I, itS (0 + ((i + 1 : Nat) : Int) * 1) it 1) :: (fl, listOf fs.toArray cf) :: (l1, listOf vs1.toArray c1) :: (l2, listOf vs2.toArray c2) :: news := by
        rcases List.mem_cons.mp hmr with h | h
        · rw [h]; exact .tail _ (.tail _ (.head _))
        · rw [List.mem_singleton.mp h]; exact .tail _ (.tail _ (.tail _ (.head _)))
      generalize hbs : (I, itS (0 + ((i + 1 : Nat) : Int) * 1) it 1) :: (fl, listOf fs.toArray cf) :: (l1, listOf vs1.toArray c1) :: (l2, listOf vs2.toArray c2) :: news = bs at *
      have N3 : News g' L' h5 ((I2, it2) :: (wt, tupOf [.int Xt q1, .int ((t * (ns.length - i) : Nat) : Int) q2, .int 0 q3, .int 0 q4, .ref wd]) :: (wd, wo) :: (lr, listOf vr.toArray cr) :: (LS, listOf [Value.ref l1, Value.ref l2].toArray 0) :: bs) := by
        intro p hp
        refine N2 p ?_
        rcases List.mem_cons.mp hp with rfl | hp
        · exact .head _
        rcases List.mem_cons.mp hp with rfl | hp
        · exact .tail _ (.tail _ (.head _))
        rcases List.mem_cons.mp hp with rfl | hp
        · exact .tail _ (.tail _ (.tail _ (.head _)))
        rcases List.mem_cons.mp hp with rfl | hp
        · exact .tail _ (.tail _ (.tail _ (.tail _ hmem)))
        rcases List.mem_cons.mp hp with rfl | hp
        · exact .tail _ (.head _)
        · exact .tail _ (.tail _ (.tail _ (.tail _ hp)))
      obtain ⟨mZ, FZ2, f0, f1, f2, f3, f4, f5⟩ : ∃ mZ, Fr g' L' h5 mZ ∧ mZ "whole" = some (.ref wt) ∧ mZ "found" = some (.ref fl) ∧ mZ "one" = some (.ref l1) ∧ mZ "other" = some (.ref l2) ∧ mZ "move" = some (.int i t1) ∧ mZ "row" = some (.ref lr) :=
        ⟨_, F2, (if_neg (by decide)).trans e0, (if_neg (by decide)).trans e1, (if_neg (by decide)).trans e2, (if_neg (by decide)).trans e3, (if_neg (by decide)).trans e4, if_pos rfl⟩
      have FZ3 := fr_ovl3 FZ2 f0 f4 f5
      clear F2 FZ2 N2
      k_steps
      unfold Hold
      rename Fr _ _ _ _ => kF
      rename News _ _ _ _ => kN
      with_reducible rename IsRange _ _ _ _ _ _ _ _ => hr2
      obtain ⟨hs4, hs3⟩ := range01 (n := (rs.length : Int) - i) (by omega) (by omega)
      obtain ⟨mU, FU, g0, g1, g2, g3, g4, g5⟩ : ∃ mU, Fr g' L' _ mU ∧ mU "whole" = some (.ref wt) ∧ mU "found" = some (.ref fl) ∧ mU "one" = some (.ref l1) ∧ mU "other" = some (.ref l2) ∧ mU "move" = some (.int i t1) ∧ mU "row" = some (.ref lr) :=
        ⟨_, kF, by rfl, (if_neg (by decide)).trans ((if_neg (by decide)).trans ((if_neg (by decide)).trans f1)), (if_neg (by decide)).trans ((if_neg (by decide)).trans ((if_neg (by decide)).trans f2)), (if_neg (by decide)).trans ((if_neg (by decide)).trans ((if_neg (by decide)).trans f3)), by rfl, by rfl⟩
      clear kF
      refine range_J (n := ns.length - i) (news := (wt, tupOf [.int Xt q1, .int ((t * (ns.length - i) : Nat) : Int) q2, .int 0 q3, .int 0 q4, .ref wd]) :: (wd, wo) :: (I2, it2) :: (lr, listOf vr.toArray cr) :: (LS, listOf [Value.ref l1, Value.ref l2].toArray 0) :: bs)
        (fun j m₁ nx => ∃ wt wd wo q1 q2 q3 q4, nx = (wt, tupOf [.int (corS rs i Xt j) q1, .int ((t * (ns.length - i) + j : Nat) : Int) q2, .int 0 q3, .int 0 q4, .ref wd]) :: (wd, wo) :: (I2, it2) :: (lr, listOf vr.toArray cr) :: (LS, listOf [Value.ref l1, Value.ref l2].toArray 0) :: bs ∧
          (wd == sysModules) = false ∧ NilD w wo ∧ m₁ "whole" = some (.ref wt) ∧ m₁ "found" = some (.ref fl) ∧ m₁ "one" = some (.ref l1) ∧ m₁ "other" = some (.ref l2) ∧ m₁ "move" = some (.int i t1) ∧ m₁ "row" = some (.ref lr))
        rfl hr2 hs3 (by rw [hs4]; omega) FU (cb_drop kN (by kcj_all)) ⟨wt, wd, wo, q1, q2, q3, q4, rfl, low, hnd, g0, g1, g2, g3, g4, g5⟩ ?_ ?_
      · clear FU low hnd g0 g1 g2 g3 g4 g5 e0 f0
        clear kN
        rintro j I3 it3 t5 m₁ nx h7 tk7 hj ⟨wt, wd, wo, q1, q2, q3, q4, rfl, low, hnd, g0, g1, g2, g3, g4, g5⟩ hoff3 F3 N4
        have zj : (0 : Int) + (j : Int) * 1 = j := by omega
        rw [zj] at F3
        obtain ⟨mV, FV, k0, k1, k2, k3, k4, k5, k6⟩ : ∃ mV, Fr g' L' h7 mV ∧ mV "whole" = some (.ref wt) ∧ mV "found" = some (.ref fl) ∧ mV "one" = some (.ref l1) ∧ mV "other" = some (.ref l2) ∧ mV "move" = some (.int i t1) ∧ mV "row" = some (.ref lr) ∧ mV "k" = some (.int j t5) :=
          ⟨_, F3, (if_neg (by decide)).trans g0, (if_neg (by decide)).trans g1, (if_neg (by decide)).trans g2, (if_neg (by decide)).trans g3, (if_neg (by decide)).trans g4, (if_neg (by decide)).trans g5, if_pos rfl⟩
        have FV3 := fr_ovl4 FV k0 k4 k5 k6
        clear F3 FV
        k_steps
        refine PyProof.Rows.mul_int (hm := pm_ok (pm_get hpr (by omega)) (pm_get hpr (by omega))) ?_
        k_steps
        rename Fr _ _ _ _ => kF
        rename News _ _ _ _ => kN
        refine af (news := (I3, itS (0 + ((j + 1 : Nat) : Int) * 1) it3 1) :: (I2, it2) :: (lr, listOf vr.toArray cr) :: (LS, listOf [Value.ref l1, Value.ref l2].toArray 0) :: bs) low hnd (by assumption) (by assumption) B' kF X' (cb_drop kN (by kcj_all)) T' rfl ?_ ?_ ?_
        · show dp + 1 + 2 < recursionLimit
          omega
        · show un + 3 + 16 < cLine
          omega
        intro wt9 wd9 wo9 h9 tk9 i1 i2 i3 i4 low9 hnd9 F9 N9
        clear kF kN
        k_steps
        rename Fr _ _ _ _ => kF
        rename News _ _ _ _ => kN
        have zz : (1 : Int) + ((t * (ns.length - i) + j : Nat) : Int) = ((t * (ns.length - i) + (j + 1) : Nat) : Int) := by omega
        have z2 : ((j : Int) + (i : Int)).toNat = j + i := by omega
        have z3 : (j : Int).toNat = j := by omega
        rw [zz, z2, z3] at kN
        refine unrEnd_J kF kN (.tail _ (.tail _ (.head _))) (nx := (wt9, tupOf [.int (corS rs i Xt (j + 1)) i1, .int ((t * (ns.length - i) + (j + 1) : Nat) : Int) i2, .int 0 i3, .int 0 i4, .ref wd9]) :: (wd9, wo9) :: (I2, it2) :: (lr, listOf vr.toArray cr) :: (LS, listOf [Value.ref l1, Value.ref l2].toArray 0) :: bs) ?_ ?_ ⟨wt9, wd9, wo9, i1, i2, i3, i4, rfl, low9, hnd9, ?_, ?_, ?_, ?_, ?_, ?_⟩
        · intro p hp
          rcases List.mem_cons.mp hp with rfl | hp
          · exact .head _
          rcases List.mem_cons.mp hp with rfl | hp
          · exact .tail _ (.head _)
          · exact .tail _ (.tail _ (.tail _ hp))
        · intro p hp
          rcases List.mem_cons.mp hp with rfl | hp
          · exact .inl fun h => absurd (Value.type.inj h) (by decide)
          rcases List.mem_cons.mp hp with rfl | hp
          · exact .inl (nilD_cls hnd9 (by decide))
          · exact .inr (hoff3 p (.tail _ (.tail _ hp)))
        all_goals first | rfl | exact (if_neg (by decide)).trans ((if_neg (by decide)).trans ((if_neg (by decide)).trans ((if_neg (by decide)).trans ((if_neg (by decide)).trans (by assumption)))))
      · rintro m₁ nx h7 tk7 ⟨wt, wd, wo, q1, q2, q3, q4, rfl, low, hnd, g0, g1, g2, g3, g4, g5⟩ F3 N4
        dsimp only
        refine wpAny_execs_nil ?_
        show UnrEnd _ _ _ _ _ _ _
        refine unrEnd_J F3 N4 (.tail _ (.tail _ (.head _))) (nx := (LS, listOf [Value.ref l1, Value.ref l2].toArray 0) :: (wt, tupOf [.int (corS rs i Xt (ns.length - i)) q1, .int ((t * (ns.length - i) + (ns.length - i) : Nat) : Int) q2, .int 0 q3, .int 0 q4, .ref wd]) :: (wd, wo) :: bs) ?_ ?_ ⟨wt, wd, wo, q1, q2, q3, q4, ?_, low, hnd, g0, g1, g2, g3, g4⟩
        · intro p hp
          rcases List.mem_cons.mp hp with rfl | hp
          · exact .tail _ (.tail _ (.tail _ (.tail _ (.head _))))
          rcases List.mem_cons.mp hp with rfl | hp
          · exact .head _
          rcases List.mem_cons.mp hp with rfl | hp
          · exact .tail _ (.head _)
          · exact .tail _ (.tail _ (.tail _ (.tail _ (.tail _ hp))))
        · intro p hp
          rcases List.mem_cons.mp hp with rfl | hp
          · exact .inr (hoff2 _ (.head _))
          rcases List.mem_cons.mp hp with rfl | hp
          · exact .inl (by rw [hc2]; exact fun h => absurd (Value.type.inj h) (by decide))
          rcases List.mem_cons.mp hp with rfl | hp
          · exact .inl (by rw [hc2]; exact nilD_cls hnd (by decide))
          · exact .inr (hoff2 p (.tail _ (.tail _ (.tail _ hp))))
        · rw [if_neg (Nat.succ_ne_zero t), hXr, Nat.succ_mul]
    · rintro m₁ nx h5 tk5 ⟨wt, wd, wo, q1, q2, q3, q4, rfl, low, hnd, e0, e1, e2, e3, e4⟩ F2 N2
      have h22 : [Value.ref l1, Value.ref l2].length = 2 := rfl
      rw [h22, if_neg (show ¬ (2 : Nat) = 0 by decide), if_neg (show ¬ (2 : Nat) = 1 by decide)] at N2
      have FZ3 := fr_ovl4 F2 e0 e2 e4 e1
      clear F2
      dsimp only
      have hcnt : ((2 * (ns.length - i) : Nat) : Int) = 2 * ((ns.length : Int) - i) := by omega
      k_steps
      · rename _ ≠ _ => hne
        exact absurd hcnt hne
      · refine append_head (hsz := by have := hfs.length; rw [List.length_map, List.length_range] at this; rw [List.size_toArray, this, sizeLine_eq]; omega) (rest := (I, itS (0 + ((i + 1 : Nat) : Int) * 1) it 1) :: (l1, listOf vs1.toArray c1) :: (l2, listOf vs2.toArray c2) :: news) FZ3 (cb_drop N2 (by kcj_all)) (fun p hp => ?_) ?_
        · rcases List.mem_cons.mp hp with rfl | hp
          · exact fun e => hoff _ (.head _) e.symm
          · exact hfn p hp
        · intro h8 F8 N8
          k_steps
          rename Fr _ _ _ _ => kF
          rename News _ _ _ _ => kN
          refine unrEnd_J kF kN (.tail _ (.head _)) (nx := (fl, listOf (fs ++ [Value.int (both ns ms i) q1]).toArray (cf + 1)) :: (l1, listOf vs1.toArray c1) :: (l2, listOf vs2.toArray c2) :: news) ?_ ?_ ⟨fs ++ [Value.int (both ns ms i) q1], cf + 1, rfl, ?_, ?_, ?_, ?_⟩
          · intro p hp
            rcases List.mem_cons.mp hp with rfl | hp
            · rw [← List.push_toArray]; exact .head _
            · exact .tail _ (.tail _ hp)
          · intro p hp
            rcases List.mem_cons.mp hp with rfl | hp
            · exact .inr (hoff (fl, listOf fs.toArray cf) (.head _))
            · exact .inr (hoff p (.tail _ hp))
          · rw [List.range_succ, List.map_append]
            exact IntsAre.append hfs (.cons _ _ .nil)
          all_goals first | rfl | exact (if_neg (by decide)).trans ((if_neg (by decide)).trans ((if_neg (by decide)).trans ((if_neg (by decide)).trans (by assumption))))
  · rintro m₁ nx h3 tk3 ⟨fs, cf, rfl, hfs, e1, e2, e3⟩ F1 N1
    have FZ := fr_ovl3 F1 e1 e2 e3
    clear F1 FX NX
    dsimp only
    k_steps
    exact hret _ _ _ _ _ (by assumption) (by assumption) hfs
end
end Mine
end

/-! ## GyC4 -/
section
open PySem PySem.W PyProof.Rows PySem.Calls
namespace Mine
theorem fill5 : (fun (_ : OpenLaw) (_ : Params → Frag) => True) PySem.Challenge.rw_gy0001_01 hd.heap_39 := by
  k_fill
  trivial
def isGood (ns ms : List Int) : Bool := decide (beside ns ms = [2 * (ns.length : Int)] ++ List.replicate (ns.length - 1) 0)
section
local macro_rules | `(tactic| walk_at "compareOp Eq ref ref") => `(tactic| refine Hold.out ?_)
set_option maxHeartbeats 400000 in
theorem gd {w : World} {mean : ExcName → Option Value} {mg mb : Str → Option Value} {dp un : Nat} {cn : Str} {cs : Scope} {a : Addr} {ccd : Value} {cl : List (Str × Addr)} {outer : List Env} {A₀ : Around} {base h₀ : Heap} {L : Addr} {m : Str → Option Value} {news : List (Addr × Obj)} {s : Shared} {Q E : Value → Shared → Prop}
  {l1 l2 : Addr} {vs1 vs2 : List Value} {ns ms : List Int} {c1 c2 : Nat} (hi1 : IntsAre vs1 ns) (hi2 : IntsAre vs2 ms) (hn0 : 0 < ns.length) (hn1 : ns.length ≤ 64) (hnm : ms.length = ns.length) (hp1 : ∀ n ∈ ns, n = 1 ∨ n = -1) (hp2 : ∀ n ∈ ms, n = 1 ∨ n = -1)
  (B : Below A₀ base outer h₀) (F : Fr h₀ L s.heap m) (X : (hd.heap_39 w.params).In h₀)
  (N : News h₀ L s.heap ((l1, listOf vs1.toArray c1) :: (l2, listOf vs2.toArray c2) :: news)) (T : Top hd.view_39 (looseW hd.view_39 []) mean mg mb h₀) (hk : cs.kind = .function)
  (hd : dp + 4 < recursionLimit) (hu : un + 100 < cLine)
  (hret : ∀ h' tk', Fr h₀ L h' m → News h₀ L h' ((l1, listOf vs1.toArray c1) :: (l2, listOf vs2.toArray c2) :: news) → Q (.bool (isGood ns ms)) { s with heap := h', toks := tk' }) :
  wpAny (model P w) (ktrTop dp un (some []) cn cs L a ccd cl outer) (call (.ref 54) [.ref l1, .ref l2]) Q E s := by
  refine wpAny_call ?_
  k_dflt (refine' code_def ?k1 ?k2 ?k3 ?k4 ?k5 ?kA ?kF ?kK ?k6 ?k7 ?k8 ?k9 ?kB ?_ ?c2 ?c3 ?c4 ?c5; (case kA => exact rfl); (case kF => exact rfl); (case kK => assumption); (case k1 => k_asm); (case k2 => k_asm); (case k3 => k_asm); (case k4 => k_asm); (case k5 => k_asm); (case k6 => k_is); (case k7 => k_is); (case k8 => ktr_room); (case k9 => exact BindsTo.of_eq rfl); (case c5 => decide); (case kB => exact locs rfl); (case c2 => exact rfl); (case c3 => exact rfl); (case c4 => exact rfl); k_whole; intro g' L' h' FG' F' N' B' X' T'; (try dsimp only); (try k_lift B'); (try k_fold))
  k_steps
  rename Fr _ _ _ _ => kF
  rename News _ _ _ _ => kN
  refine bd hi1 hi2 hn0 hn1 hnm hp1 hp2 B' kF X' kN T' rfl ?_ ?_ ?_
  · show dp + 1 + 3 < recursionLimit
    omega
  · show un + 3 + 24 < cLine
    omega
  intro r us h9 tk9 c9 F9 N9 hus
  clear kF kN
  k_steps
  unfold Hold
  rename Fr _ _ _ _ => kF
  rename News _ _ _ _ => kN
  rename IntsAre _ (_ ++ _) => hw
  refine ke_eq_ints ⟨_, (kN (r, listOf us.toArray c9) (.tail _ (.tail _ (.tail _ (.tail _ (.head _)))))).1, rfl, _, rfl⟩ ⟨_, (kN _ (.head _)).1, rfl, _, rfl⟩ hus hw ?_ ?_
  · show un + 3 + 64 < cLine
    omega
  have e0 : (List.replicate ((ns.length : Int) - 1).toNat [(0 : Int)]).flatten = List.replicate (ns.length - 1) 0 := by
    rw [show ((ns.length : Int) - 1).toNat = ns.length - 1 by omega]
    generalize ns.length - 1 = z
    induction z with
    | zero => rfl
    | succ z ih => rw [List.replicate_succ, List.flatten_cons, ih]; rfl
  rw [e0]
  exact leaveK_ kF kN fun kF kN => hret _ _ kF (cb_drop kN (by kcj_all))
end
end Mine
end

/-! ## GyE -/
section
open PySem PySem.W PyProof.Rows PySem.Calls
namespace Mine
/-- the law itself is entered, over clean contexts; its cells stand in the ledger -/
theorem S_call_cellsN {prog : Program} {w : World} {A : Around} {R : Result → Shared → Prop} {s : Shared} {name : Str} {params : Arguments} {body : List Stmt} {scope : Scope}
    {pm cd doc : Value} {a : Addr} {o : Obj} {args : List Value} {binds : List (Str × Value)}
    (hroom : A.depth < recursionLimit) (ho : s.heap.get? a = some o) (hdata : o.data = .func (Calls.docDef name params body scope pm cd doc)) (hlim : s.heap.NoLimit) (hcd : s.heap.CodeRec cd name)
    (hbind : bindArgs (Calls.docDef name params body scope pm cd doc) ⟨args, []⟩ = pure binds)
    (hkind : ∀ x ∈ binds, scope.names.lookup x.1 = some .local ∨ (scope.names.lookup x.1 = some .cell ∧ ((cellsFrom (s.heap.objs.size + 1) scope.names []).lookup x.1).isSome = true))
    (hnd : ((cellsFrom 0 scope.names []).map (·.1)).Nodup)
    (h : ∀ h₁ tk cells, Fr s.heap s.heap.objs.size h₁ (bindL (envOfC name scope s.heap.objs.size a cd).kindOf binds fun _ => none) → News s.heap s.heap.objs.size h₁ cells →
      CellsAre (bindC (envOfC name scope s.heap.objs.size a cd).kindOf binds fun _ => none) (cellsFrom (s.heap.objs.size + 1) scope.names []) cells →
      wpS (model prog w) (A.deeper (envOfC name scope s.heap.objs.size a cd)) (execs body (envOfC name scope s.heap.objs.size a cd))
        (fun f s' => R (.ok (.ret (match f with | .ret v => v | _ => .none))) s')
        (fun e s' => wpAny (model prog w) (A.deeper (envOfC name scope s.heap.objs.size a cd)) (leaving (envOfC name scope s.heap.objs.size a cd) e)
          (fun _ s'' => R (.error e) s'') (fun e' s'' => R (.error e') s'') s')
        { s with heap := h₁, toks := tk })
    (hco : scope.isCoroutine = false := by rfl) (hgen : scope.isGenerator = false := by rfl) (hk : scope.kind = .function := by rfl) :
    codeS (model prog w) A (.call (.ref a) ⟨args, []⟩) R s := by
  refine codeS_call_function (fd := Calls.docDef name params body scope pm cd doc) hroom ho hdata hco hgen rfl hcd ?_
  rw [hbind]
  refine wpAny_pure (wpAny_newFunctionEnv_cells hk hkind fun env he s' X => ?_)
  subst he
  obtain ⟨h₁, tk, rfl, _⟩ := X.done
  refine ⟨hlim.keeps X.toInCall.keep, codeS_func ?_⟩
  obtain ⟨cells, N, Y⟩ := Cl.news (h₀ := s.heap) (Nat.le_refl _) fun n c hm => ⟨X.cell n c (lookup_of_mem_nodup (cellsFrom_names scope.names 0 (s.heap.objs.size + 1) [] [] rfl ▸ hnd) hm), X.above n c hm⟩
  exact h h₁ tk cells ⟨X.toInCall.ns, X.toInCall.keep, X.toInCall.fresh⟩ N Y
/-- the law's end: True, whatever stands beside what stood -/
theorem endS {prog : Program} {w : World} {A : Around} {f : Value} {vals : List Value} {c : ClaimW} {cl : Str → Option Addr} {mean : ExcName → Option Value} {args : List WData} {s₁ : Shared} (hg : s₁.gens = #[])
    (hn : ∀ cls, c.raises args cls = false) (hp : c.post args (.bool true) args = true)
    (hs : codeS (model prog w) A (.call f ⟨vals, []⟩) (fun r s' => ∃ h' tk', (∀ b o, s₁.heap.get? b = some o → h'.get? b = some o) ∧ r = .ok (.ret (.bool true)) ∧ s' = { s₁ with heap := h', toks := tk' }) s₁) :
    GoodWG c cl mean args s₁ (.ok (.ret (.bool true))) s₁ ∧
      wpS (model prog w) A (PySem.call f vals) (fun v s' => GoodWG c cl mean args s₁ (.ok (.ret v)) s') (fun e s' => GoodWG c cl mean args s₁ (.error e) s') s₁ := by
  have g : ∀ h' tk', (∀ b o, s₁.heap.get? b = some o → h'.get? b = some o) → GoodWG c cl mean args s₁ (.ok (.ret (.bool true))) { s₁ with heap := h', toks := tk' } :=
    fun h' tk' keep => GoodW.toG ⟨.inl ⟨_, _, _, rfl, hn, .bool true, hp, unshared_nil⟩, keep, rfl, hg⟩
  refine ⟨g s₁.heap s₁.toks fun _ _ e => e, S_call (codeS_mono hs ?_)⟩
  rintro r s' ⟨h', tk', keep, rfl, rfl⟩
  exact g h' tk' keep
end Mine
end

/-! ## GyN -/
section
open PySem PySem.W PyProof.Rows PySem.Calls
namespace Mine
section
variable {prog : Program} {w : World} {A : Around} {s : Shared} {env : Env}
theorem codeS_loop {c : Code} {R : Result → Shared → Prop} {M : Model} (hdc : isDec c = false) (hq : c.quiet = true) (I : Nat → Shared → Prop)
    (turn : ∀ n s, I n s → wpS M (A.under c) (M.den c)
      (fun fin s' => match fin with
        | .done f => R (.ok f) s'
        | .again c' => (c' = c ∧ ∃ m, m < n ∧ I m s') ∨ (c'.quiet = true ∧ codeS M A c' R s')) (fun e s' => R (.error e) s') s)
    (n : Nat) (h : I n s) : codeS M A c R s := by
  induction n using Nat.strongRecOn generalizing s with
  | ind n ih =>
    refine codeS_of_tree hdc (S_mono (turn n s h) (fun fin s' hf => ?_) fun _ _ h' => h')
    cases fin with
    | done f => exact hf
    | again c' =>
      rcases hf with ⟨rfl, m, hm, hI⟩ | hf
      · exact ⟨hq, ih m hm hI⟩
      · exact hf
theorem S_noted {α : Type} {M : Model} {E : Value → Shared → Prop} {m : Sem α} {Q : α → Shared → Prop} (h : wpS M A m Q (notedBy M A env E) s) : wpS M A (m.onRaise fun x => do noteFrame x env; theTreesLotGoes x) Q E s :=
  S_onRaise (S_mono h (fun _ _ q => q) fun _ _ hx => wpAny_bind (wpAny_mono hx (fun _ _ e => wpAny_theTreesLotGoes e) fun _ _ e => e))
theorem codeS_forLoop {R : Result → Shared → Prop} {target it body orelse} (I : Nat → Shared → Prop)
    (turn : ∀ n s, I n s → wpAny (model prog w) A (pyNext it) (fun r s₁ => match r with
      | none => wpAny (model prog w) A (execs orelse env) (fun f s₃ => R (.ok f) s₃) (notedBy (model prog w) A env fun e s' => R (.error e) s') s₁
      | some v => wpAny (model prog w) A (assign target env v) (fun _ s₂ => wpS (model prog w) A (execs body env) (fun f s₃ => match f with
          | .next | .cont => ∃ m, m < n ∧ I m s₃
          | .brk => R (.ok .next) s₃
          | .ret v => R (.ok (.ret v)) s₃) (notedBy (model prog w) A env fun e s' => R (.error e) s') s₂) (notedBy (model prog w) A env fun e s' => R (.error e) s') s₁) (notedBy (model prog w) A env fun e s' => R (.error e) s') s)
    (n : Nat) (h : I n s) (ht : ∀ v, letOwnedTupleGo target it v = pure () := by intro _; rfl) : codeS (model prog w) A (.forLoop target it body orelse env) R s := by
  refine codeS_loop rfl rfl I (fun n s hI => ?_) n h
  show wpS _ _ ((forTurn target it body orelse env).onRaise (fun x => do noteFrame x env; theTreesLotGoes x)) _ _ s
  refine S_noted ?_
  simp only [forTurn]
  refine S_bind (S_standAt (S_bind (S_any (wpAny_onRaise (wpAny_mono (turn n s hI) (fun r s₁ h₁ => ?_) fun _ _ h' => wpAny_standAt h')))))
  cases r with
  | none => exact S_pure (.inr ⟨rfl, codeS_any (codeAny_block h₁)⟩)
  | some v =>
    refine S_bind (S_of_eq (ht v) (S_pure ?_))
    refine S_bind (S_any (wpAny_mono h₁ (fun _ s₂ h₂ => S_bind (S_mono h₂ (fun f s₃ h₃ => ?_) fun _ _ h' => h')) fun _ _ h' => h'))
    cases f with
    | next => exact S_pure (.inl ⟨rfl, h₃⟩)
    | cont => exact S_pure (.inl ⟨rfl, h₃⟩)
    | brk => exact S_pure h₃
    | ret v => exact S_pure h₃
/-- how a turn of the loop over clean contexts ends -/
def TurnEnd (h₀ : Heap) (L : Addr) (s : Shared) (I l : Addr) (it lo : Obj) (Jn : (Str → Option Value) → List (Addr × Obj) → Prop) (f : Flow) (s₂ : Shared) : Prop :=
  f = .next ∧ ∃ h' tk' m' nx', s₂ = { s with heap := h', toks := tk' } ∧ Fr h₀ L h' m' ∧ News h₀ L h' ((I, it) :: (l, lo) :: nx') ∧ (∀ p ∈ nx', p.1 ≠ I) ∧ Jn m' nx'
/-- a loop over a list of the ledger by an invariant, its body over clean contexts -/
theorem S_For_list {h₀ : Heap} {x : Str} {px pos : Pos} {iter : Expr} {body : List Stmt} {Q : Flow → Shared → Prop} (V : List Value → Prop) (J : Nat → (Str → Option Value) → List (Addr × Obj) → Prop) (hx : env.kindOf x = some .local)
    (hp : (env.scope.kind == .class || (env.scope.kind == .module && env.locals != env.globals)) = false) (hh : A.handled = none)
    (h : wpS (model prog w) A (eval iter env) (fun v s₁ => Hold (∃ vs l nn m nx h tk, V vs ∧ v = .ref l ∧ s₁ = { s with heap := h, toks := tk } ∧ Fr h₀ env.locals h m ∧ News h₀ env.locals h ((l, listOf vs.toArray nn) :: nx) ∧ J 0 m nx)) (fun _ _ => False) s)
    (turn : ∀ vs i v m₁ nx I it l nn h tk, V vs → vs[i]? = some v → J i m₁ nx → it.cls = .type "list_iterator" → (∀ p ∈ nx, p.1 ≠ I) → Fr h₀ env.locals h (fun y => if y = x then some v else m₁ y) → News h₀ env.locals h ((I, it) :: (l, listOf vs.toArray nn) :: nx) →
      wpS (model prog w) A (execs body env) (TurnEnd h₀ env.locals s I l it (listOf vs.toArray nn) (J (i + 1))) (fun _ _ => False) { s with heap := h, toks := tk })
    (done : ∀ vs m₁ nx h tk, V vs → J vs.length m₁ nx → Fr h₀ env.locals h m₁ → News h₀ env.locals h nx → Q .next { s with heap := h, toks := tk })
    (hs : ∀ x, foldedSetIterable iter env x = pure x := by intro _; rfl) :
    wpS (model prog w) A (exec (.For (.Name x px) iter body [] pos) env) Q (fun _ _ => False) s := by
  refine S_For (S_mono h (fun v s₁ h₁ => ?_) fun _ _ e => e) hs
  obtain ⟨vs, l, nn, m, nx, h, tk, hV, rfl, rfl, F, N, hJ⟩ := h₁
  have hol : h.get? l = some (listOf vs.toArray nn) := (N _ (.head _)).1
  have hls : h.IsList l vs.toArray := ⟨_, hol, rfl, nn, rfl⟩
  refine wpAny_pyIter_list (s := { s with heap := h, toks := tk }) hls ?_
  have hIL : h.objs.size ≠ env.locals := Ne.symm (Nat.ne_of_lt F.ns.lt)
  have hI0 : h₀.get? h.objs.size = none := next_is_new F
  generalize hIe : h.objs.size = I at hIL hI0 ⊢
  refine codeS_forLoop (fun k s' => ∃ i h' tk' m' nx' it, s' = { s with heap := h', toks := tk' } ∧ h'.get? I = some it ∧ it.cls = .type "list_iterator" ∧ h'.IsListIter I l i ∧ Fr h₀ env.locals h' m' ∧ News h₀ env.locals h' ((l, listOf vs.toArray nn) :: nx') ∧ (∀ p ∈ nx', p.1 ≠ I) ∧ J i m' nx' ∧ i ≤ vs.length ∧ k = vs.length + 1 - i) ?_ (vs.length + 1)
    ⟨0, _, tk, m, nx, _, rfl, hIe ▸ Heap.get?_push_size _ rfl, rfl, ⟨_, hIe ▸ Heap.get?_push_size _ rfl, rfl, rfl⟩, F.push _, fun p hp => ⟨Heap.get?_push_of_some _ (N p hp).1, (N p hp).2⟩, fun p hp e => ?_, hJ, Nat.zero_le _, rfl⟩
  · rintro k s' ⟨i, h', tk', m', nx', it, rfl, hit, hic, hli, F', N', off, hJ', hi, rfl⟩
    have hol' : h'.get? l = some (listOf vs.toArray nn) := (N' _ (.head _)).1
    have hls' : h'.IsList l vs.toArray := ⟨_, hol', rfl, nn, rfl⟩
    have hlI : l ≠ I := fun e => by
      rw [e, hit] at hol'
      rw [Option.some.inj hol'] at hic
      exact absurd (Value.type.inj hic) (by decide)
    by_cases hlt : i < vs.length
    · have hxv : vs.toArray[i]? = some vs[i] := by simp [hlt]
      refine wpAny_pyNext_list_item (s := { s with heap := h', toks := tk' }) hli hls' hxv fun h₁ hli₁ hs₁ => ?_
      obtain ⟨it₁, hit₁, hic₁, _⟩ := id hli₁
      have F₁ : Fr h₀ env.locals h₁ m' := fr_change F' hs₁ hIL hI0
      have N₁ : News h₀ env.locals h₁ ((I, it₁) :: (l, listOf vs.toArray nn) :: nx') := fun p hp => by
        rcases List.mem_cons.mp hp with rfl | hp
        · exact ⟨hit₁, hIL, hI0⟩
        · refine ⟨(hs₁.2 _ ?_).trans (N' p hp).1, (N' p hp).2⟩
          rcases List.mem_cons.mp hp with rfl | hp
          · exact hlI
          · exact off p hp
      refine wpAny_assign_Name (wpAny_storeName_local hx F₁.ns (fun h₂ hn₂ hs₂ => ?_) hp)
      refine S_mono (turn vs i _ m' nx' I it₁ l nn h₂ _ hV (by simp [hlt]) hJ' hic₁ off (F₁.set hn₂ hs₂) (N₁.set hs₂)) (fun f s₃ h₃ => ?_) fun _ _ e => e.elim
      obtain ⟨rfl, h₃', tk₃, m₃, nx₃, rfl, F₃, N₃, off₃, hJ₃⟩ := h₃
      have hit₂ : h₂.get? I = some it₁ := (N₁.set hs₂ _ (.head _)).1
      refine ⟨_, ?_, i + 1, h₃', tk₃, m₃, nx₃, it₁, rfl, (N₃ _ (.head _)).1, hic₁, ?_, F₃, fun p hp => N₃ p (.tail _ hp), off₃, hJ₃, hlt, rfl⟩
      · omega
      · obtain ⟨o', ho', r⟩ := hli₁
        rw [hit₁] at ho'
        cases ho'
        exact ⟨it₁, (N₃ _ (.head _)).1, r⟩
    · have hie : i = vs.length := by omega
      subst hie
      have hxn : vs.toArray[vs.length]? = none := by simp
      refine wpAny_pyNext_list_end (s := { s with heap := h', toks := tk' }) hh hli hls' hxn fun h₁ hx₁ => ?_
      refine wpAny_execs_nil ?_
      refine done vs m' nx' h₁ tk' hV hJ' ⟨F'.ns.at' fun o e => hx₁ _ o (Ne.symm hIL) e, fun b o e => hx₁ b o (fun q => ?_) (F'.keep b o e), F'.above⟩ fun p hp => ⟨hx₁ _ _ (off p hp) (N' p (.tail _ hp)).1, (N' p (.tail _ hp)).2⟩
      rw [q, hI0] at e; cases e
  · have := Heap.lt_size (N p (.tail _ hp)).1
    rw [e, ← hIe] at this
    exact absurd this (Nat.lt_irrefl _)
end
end Mine
end

/-! ## GyP -/
section
open PySem PySem.W PyProof.Rows PySem.Calls
namespace Mine
/-- a turn of the law's first loop, by the residue -/
def stepR (st : List Int × List Int) (r : Int) : List Int × List Int :=
  let o1 := if r = 1 then st.2.reverse else st.2
  let o2 := if r = 2 then o1.map (fun k => 0 - k) else o1
  (st.1 ++ o2, st.1 ++ o2.map (fun k => 0 - k))
def stR (rs : List Int) : List Int × List Int := rs.foldl stepR ([1], [1])
theorem stR_snoc (rs : List Int) (r : Int) : stR (rs ++ [r]) = stepR (stR rs) r := by rw [stR, List.foldl_append]; rfl
def PM (ns : List Int) : Prop := ∀ n ∈ ns, n = 1 ∨ n = -1
theorem PM.neg {ns : List Int} (h : PM ns) : PM (ns.map fun k => 0 - k) := fun n hn => by
  obtain ⟨k, hk, rfl⟩ := List.mem_map.mp hn
  rcases h k hk with rfl | rfl
  · exact .inr rfl
  · exact .inl rfl
theorem PM.rev {ns : List Int} (h : PM ns) : PM ns.reverse := fun n hn => h n (List.mem_reverse.mp hn)
theorem PM.app {ns ms : List Int} (h : PM ns) (h' : PM ms) : PM (ns ++ ms) := fun n hn => (List.mem_append.mp hn).elim (h n) (h' n)
theorem step_ok {st : List Int × List Int} {r : Int} (h1 : PM st.1) (h2 : PM st.2) (hl : st.2.length = st.1.length) :
    PM (stepR st r).1 ∧ PM (stepR st r).2 ∧ (stepR st r).1.length = 2 * st.1.length ∧ (stepR st r).2.length = 2 * st.1.length := by
  unfold stepR
  have a1 : PM (if r = 1 then st.2.reverse else st.2) ∧ (if r = 1 then st.2.reverse else st.2).length = st.1.length := by
    by_cases h : r = 1
    · rw [if_pos h]; exact ⟨h2.rev, by rw [List.length_reverse, hl]⟩
    · rw [if_neg h]; exact ⟨h2, hl⟩
  generalize (if r = 1 then st.2.reverse else st.2) = o1 at a1
  have a2 : PM (if r = 2 then o1.map (fun k => 0 - k) else o1) ∧ (if r = 2 then o1.map (fun k => 0 - k) else o1).length = st.1.length := by
    by_cases h : r = 2
    · rw [if_pos h]; exact ⟨a1.1.neg, by rw [List.length_map, a1.2]⟩
    · rw [if_neg h]; exact a1
  dsimp only
  generalize (if r = 2 then o1.map (fun k => 0 - k) else o1) = o2 at a2
  refine ⟨h1.app a2.1, h1.app a2.1.neg, ?_, ?_⟩
  · rw [List.length_append, a2.2]; omega
  · rw [List.length_append, List.length_map, a2.2]; omega
def OkR (rs : List Int) : Prop := PM (stR rs).1 ∧ PM (stR rs).2 ∧ (stR rs).1.length = 2 ^ rs.length ∧ (stR rs).2.length = 2 ^ rs.length
theorem ok_nil : OkR [] := by
  refine ⟨fun n hn => ?_, fun n hn => ?_, rfl, rfl⟩
  · rw [List.mem_singleton.mp hn]; exact .inl rfl
  · rw [List.mem_singleton.mp hn]; exact .inl rfl
theorem ok_snoc {rs : List Int} (h : OkR rs) (r : Int) : OkR (rs ++ [r]) := by
  obtain ⟨h1, h2, h3, h4⟩ := h
  obtain ⟨g1, g2, g3, g4⟩ := step_ok (r := r) h1 h2 (h4.trans h3.symm)
  have e : 2 ^ (rs ++ [r]).length = 2 * 2 ^ rs.length := by rw [List.length_append, List.length_singleton, Nat.pow_succ, Nat.mul_comm]
  unfold OkR
  rw [stR_snoc, e]
  exact ⟨g1, g2, by rw [g3, h3], by rw [g4, h3]⟩
theorem ok_take (rs : List Int) : ∀ i, OkR (rs.take i)
  | 0 => ok_nil
  | i + 1 => by
    rw [List.take_add_one]
    cases h : rs[i]? with
    | none => rw [Option.toList_none, List.append_nil]; exact ok_take rs i
    | some r => exact ok_snoc (ok_take rs i) r
theorem off_cls {h₀ h : Heap} {L : Addr} {all : List (Addr × Obj)} {I : Addr} {it : Obj} {p : Addr × Obj} (N : News h₀ L h all) (hI : (I, it) ∈ all) (hp : p ∈ all) {n k : String} (hi : it.cls = .type n) (hc : p.2.cls = .type k) (hn : k ≠ n) : p.1 ≠ I := fun e => by
  have h1 := (N p hp).1
  have h2 := (N _ hI).1
  rw [e] at h1
  have : p.2 = it := Option.some.inj (h1.symm.trans h2)
  rw [this, hi] at hc
  exact hn (Value.type.inj hc).symm
end Mine
end

/-! ## GyQ -/
section
open PySem PySem.W PyProof.Rows PySem.Calls
namespace Mine
def negL (ns : List Int) : List Int := ns.map fun k => 0 - k
def altL (ns : List Int) : List Int := ns.zipIdx.map fun p => p.1 * (1 - 2 * ((p.2 : Int) % 2))
def sq2 (ns ms : List Int) : Bool := decide (ns.sum * ns.sum + ms.sum * ms.sum = 2 * (ns.length : Int))
def pairOk (ns ms : List Int) : Bool := isGood ns ms && sq2 ns ms
def lawOk (rs : List Int) : Bool :=
  let a := (stR rs).1
  let b := (stR rs).2
  isGood a b && (pairOk a.reverse b && (pairOk a b.reverse && (pairOk (negL a) b && (pairOk (altL a) (altL b) && isGood (a ++ b.reverse) (a ++ negL b.reverse)))))
theorem law0 : lawOk [] = true := by decide +kernel
theorem law1 : ∀ a ∈ [(0 : Int), 1, 2], lawOk [a] = true := by decide +kernel
theorem law2 : ∀ a ∈ [(0 : Int), 1, 2], ∀ b ∈ [(0 : Int), 1, 2], lawOk [a, b] = true := by decide +kernel
theorem law3 : ∀ a ∈ [(0 : Int), 1, 2], ∀ b ∈ [(0 : Int), 1, 2], ∀ c ∈ [(0 : Int), 1, 2], lawOk [a, b, c] = true := by decide +kernel
theorem res3 (k : Int) : Int.fmod k 3 ∈ [(0 : Int), 1, 2] := by
  have h : Int.fmod k 3 = k % 3 := Int.fmod_eq_emod_of_nonneg _ (by decide)
  have h1 : k % 3 = 0 ∨ k % 3 = 1 ∨ k % 3 = 2 := by omega
  rw [h]
  rcases h1 with h1 | h1 | h1 <;> rw [h1]
  · exact .head _
  · exact .tail _ (.head _)
  · exact .tail _ (.tail _ (.head _))
theorem law_facts : ∀ (ks : List Int), ks.length ≤ 3 → lawOk (ks.map fun k => Int.fmod k 3) = true
  | [], _ => law0
  | [a], _ => law1 _ (res3 a)
  | [a, b], _ => law2 _ (res3 a) _ (res3 b)
  | [a, b, c], _ => law3 _ (res3 a) _ (res3 b) _ (res3 c)
  | _ :: _ :: _ :: _ :: _, h => absurd h (by simp)
end Mine
end

/-! ## GyN2 -/
section
open PySem PySem.W PyProof.Rows PySem.Calls
namespace Mine
/-- a goal that no step opens -/
structure Stop (P : Prop) : Prop where
  out : P
section
variable {prog : Program} {w : World} {A : Around} {s : Shared} {env : Env}
/-- a loop over a list of the ledger whose items are unpacked; the ledger stands -/
theorem S_For_tup {h₀ : Heap} {elts : List Expr} {x1 : Nat} {tp pos : Pos} {iter : Expr} {body : List Stmt} {Q : Flow → Shared → Prop} (V : List Value → List (Addr × Obj) → Prop) (J : (Str → Option Value) → Prop) (hh : A.handled = none) (hVr : ∀ vs nx, V vs nx → ∀ v ∈ vs, ∃ T, v = .ref T)
    (h : wpS (model prog w) A (eval iter env) (fun v s₁ => Hold (∃ vs l nn m nx h tk, V vs nx ∧ v = .ref l ∧ s₁ = { s with heap := h, toks := tk } ∧ Fr h₀ env.locals h m ∧ News h₀ env.locals h ((l, listOf vs.toArray nn) :: nx) ∧ J m)) (fun _ _ => False) s)
    (turn : ∀ vs (i : Nat) v m₁ nx I it l nn h tk, V vs nx → vs[i]? = some v → J m₁ → it.cls = .type "list_iterator" → Fr h₀ env.locals h m₁ → News h₀ env.locals h ((I, it) :: (l, listOf vs.toArray nn) :: nx) →
      wpAny (model prog w) A (assign (.Tuple elts x1 tp) env v) (fun _ s₂ => wpAny (model prog w) A (execs body env) (fun f s₃ => Stop (f = .next ∧ ∃ h' tk' m', s₃ = { s with heap := h', toks := tk' } ∧ Fr h₀ env.locals h' m' ∧ News h₀ env.locals h' ((I, it) :: (l, listOf vs.toArray nn) :: nx) ∧ J m'))
        (fun _ _ => False) s₂) (fun _ _ => False) { s with heap := h, toks := tk })
    (done : ∀ vs m₁ nx h tk, V vs nx → J m₁ → Fr h₀ env.locals h m₁ → News h₀ env.locals h nx → Q .next { s with heap := h, toks := tk })
    (hs : ∀ x, foldedSetIterable iter env x = pure x := by intro _; rfl) :
    wpS (model prog w) A (exec (.For (.Tuple elts x1 tp) iter body [] pos) env) Q (fun _ _ => False) s := by
  refine S_For (S_mono h (fun v s₁ h₁ => ?_) fun _ _ e => e) hs
  obtain ⟨vs, l, nn, m, nx, h, tk, hV, rfl, rfl, F, N, hJ⟩ := h₁
  have hol : h.get? l = some (listOf vs.toArray nn) := (N _ (.head _)).1
  have hls : h.IsList l vs.toArray := ⟨_, hol, rfl, nn, rfl⟩
  refine wpAny_pyIter_list (s := { s with heap := h, toks := tk }) hls ?_
  have hIL : h.objs.size ≠ env.locals := Ne.symm (Nat.ne_of_lt F.ns.lt)
  have hI0 : h₀.get? h.objs.size = none := next_is_new F
  have off : ∀ p ∈ nx, p.1 ≠ h.objs.size := fun p hp => Nat.ne_of_lt (Heap.lt_size (N p (.tail _ hp)).1)
  have hlI : l ≠ h.objs.size := Nat.ne_of_lt (Heap.lt_size hol)
  generalize hIe : h.objs.size = I at hIL hI0 off hlI ⊢
  refine codeS_any (codeAny_forLoop_any (fun k s' => ∃ i h' tk' m' it, s' = { s with heap := h', toks := tk' } ∧ h'.get? I = some it ∧ it.cls = .type "list_iterator" ∧ h'.IsListIter I l i ∧ Fr h₀ env.locals h' m' ∧ News h₀ env.locals h' ((l, listOf vs.toArray nn) :: nx) ∧ J m' ∧ i ≤ vs.length ∧ k = vs.length + 1 - i) ?_ (vs.length + 1)
    ⟨0, _, tk, m, _, rfl, hIe ▸ Heap.get?_push_size _ rfl, rfl, ⟨_, hIe ▸ Heap.get?_push_size _ rfl, rfl, rfl⟩, F.push _, fun p hp => ⟨Heap.get?_push_of_some _ (N p hp).1, (N p hp).2⟩, hJ, Nat.zero_le _, rfl⟩)
  rintro k s' ⟨i, h', tk', m', it, rfl, hit, hic, hli, F', N', hJ', hi, rfl⟩
  have hol' : h'.get? l = some (listOf vs.toArray nn) := (N' _ (.head _)).1
  have hls' : h'.IsList l vs.toArray := ⟨_, hol', rfl, nn, rfl⟩
  by_cases hlt : i < vs.length
  · have hxv : vs.toArray[i]? = some vs[i] := by simp [hlt]
    refine wpAny_pyNext_list_item (s := { s with heap := h', toks := tk' }) hli hls' hxv fun h₁ hli₁ hs₁ => ?_
    obtain ⟨TT, hTT⟩ := hVr vs nx hV vs[i] (List.getElem_mem hlt)
    show wpAny _ _ (letOwnedTupleGo _ _ vs[i]) _ _ _
    have hget : vs[i]? = some (Value.ref TT) := by rw [List.getElem?_eq_getElem hlt, hTT]
    rw [hTT]
    refine wpAny_letOwnedTupleGo_listiter (s := { s with heap := h₁, toks := tk' }) hli₁ ?_
    obtain ⟨it₁, hit₁, hic₁, r₁⟩ := id hli₁
    have F₁ : Fr h₀ env.locals h₁ m' := fr_change F' hs₁ hIL hI0
    have N₁ : News h₀ env.locals h₁ ((I, it₁) :: (l, listOf vs.toArray nn) :: nx) := fun p hp => by
      rcases List.mem_cons.mp hp with rfl | hp
      · exact ⟨hit₁, hIL, hI0⟩
      · refine ⟨(hs₁.2 _ ?_).trans (N' p hp).1, (N' p hp).2⟩
        rcases List.mem_cons.mp hp with rfl | hp
        · exact hlI
        · exact off p hp
    refine wpAny_mono (turn vs i _ m' nx I it₁ l nn h₁ _ hV hget hJ' hic₁ F₁ N₁) (fun _ s₂ h₂ => wpAny_mono h₂ (fun f s₃ h₃ => ?_) fun _ _ e => e.elim) fun _ _ e => e.elim
    obtain ⟨rfl, h₃', tk₃, m₃, rfl, F₃, N₃, hJ₃⟩ := h₃.out
    exact ⟨vs.length + 1 - (i + 1), by omega, i + 1, h₃', tk₃, m₃, it₁, rfl, (N₃ _ (.head _)).1, hic₁, ⟨it₁, (N₃ _ (.head _)).1, hic₁, r₁⟩, F₃, fun p hp => N₃ p (.tail _ hp), hJ₃, hlt, rfl⟩
  · have hie : i = vs.length := by omega
    subst hie
    have hxn : vs.toArray[vs.length]? = none := by simp
    refine wpAny_pyNext_list_end (s := { s with heap := h', toks := tk' }) hh hli hls' hxn fun h₁ hx₁ => ?_
    refine wpAny_execs_nil ?_
    refine done vs m' nx h₁ tk' hV hJ' ⟨F'.ns.at' fun o e => hx₁ _ o (Ne.symm hIL) e, fun b o e => hx₁ b o (fun q => ?_) (F'.keep b o e), F'.above⟩ fun p hp => ⟨hx₁ _ _ (off p hp) (N' p (.tail _ hp)).1, (N' p (.tail _ hp)).2⟩
    rw [q, hI0] at e; cases e
end
end Mine
end

/-! ## GyM2 -/
section
open PySem PySem.W PyProof.Rows PyProof.Rows.LCg PySem.Calls
namespace Mine
/-- what stood stands -/
def Ext (h h' : Heap) : Prop := ∀ b o, h.get? b = some o → h'.get? b = some o
section
variable {prog : Program} {w : World} {A : Around} {E : Value → Shared → Prop} {s : Shared} {h₀ : Heap} {m : Str → Option Value} {env : Env}
/-- a comprehension's own block is opened: its list D, its names C; the loop is left -/
theorem comp_base {elt target iter : Expr} {ifs : List Expr} {rest : List Comprehension} {scope : Scope} {cl : List (Str × Addr)} {pos ipos : Pos} {x : Value} {Q : Value → Shared → Prop}
    (hclos : closureFor scope env = pure cl) (hcell : ∀ y ∈ scope.names, y.2 ≠ .cell) (hkind : scope.kind = .function)
    (hnames : ∀ y ∈ scope.names, y.2 = .local → scope.names.lookup y.1 = some .local) (hs : ∀ x, foldedSetIterable iter env x = pure x)
    (h : wpAny (model prog w) A (pyIter x) (fun it s₂ => ∃ I, it = .ref I ∧ (∀ (s' : Shared) (Q' : Value → Shared → Prop) (E' : Value → Shared → Prop), Ext s₂.heap s'.heap → Q' (.ref I) s' → wpAny (model prog w) A (pyIter (.ref I)) Q' E' s') ∧
      ∀ h₁, Ext s₂.heap h₁ → h₁.get? s₂.heap.objs.size = some (lst []) → h₁.Ns (s₂.heap.objs.size + 1) (fun _ => none) →
        codeAny (model prog w) A (.compLoop (.ListComp elt (⟨target, iter, ifs, 0⟩ :: rest) scope pos) 0 (.ref I) (.ref s₂.heap.objs.size) (compEnvC scope cl (s₂.heap.objs.size + 1) env))
          (fun r s' => r = .ok .next ∧ ∃ m, s'.heap.Ns (s₂.heap.objs.size + 1) m ∧ ∀ h', Heap.SameBut (s₂.heap.objs.size + 1) s'.heap h' → Q (.ref s₂.heap.objs.size) { s' with heap := h' }) { s₂ with heap := h₁ }) E s) :
    wpAny (model prog w) A (comprehension (.ListComp elt (⟨target, iter, ifs, 0⟩ :: rest) scope pos) scope env ipos (newList []) false (pure x)) Q E s := by
  refine wpAny_comprehension_free (use := none) rfl hs hclos hkind hnames (wpAny_pure (wpAny_mono h (fun it s₂ h₂ => ?_) fun _ _ e => e))
  obtain ⟨I, rfl, hself, hloop⟩ := h₂
  refine wpAny_newObj_type (wpAny_newFunctionEnv hcell (by intro y hy; simp at hy) (fun h₁ hns₁ hsb₁ => ?_) hkind)
  dsimp only at hns₁ hsb₁ ⊢
  have hC : (s₂.heap.push { cls := .type "list", dict := none, data := .seq ([] : List Value).toArray }).objs.size = s₂.heap.objs.size + 1 := Heap.size_push ..
  have old : Ext s₂.heap h₁ := fun b o e => hsb₁.extBut b o (by rw [hC]; exact Nat.ne_of_lt (Nat.lt_succ_of_lt (Heap.lt_size e))) (Heap.get?_push_of_some _ (Heap.get?_push_of_some _ e))
  have hacc : h₁.get? s₂.heap.objs.size = some (lst []) := hsb₁.extBut _ _ (by rw [hC]; exact Nat.ne_of_lt (Nat.lt_succ_self _)) (Heap.get?_push_of_some _ (Heap.get?_push_size _ rfl))
  rw [hC] at hns₁ ⊢
  have loop := hloop h₁ old hacc hns₁
  have post : ∀ r s', (r = .ok .next ∧ ∃ m, s'.heap.Ns (s₂.heap.objs.size + 1) m ∧ ∀ h', Heap.SameBut (s₂.heap.objs.size + 1) s'.heap h' → Q (.ref s₂.heap.objs.size) { s' with heap := h' }) →
      compPost (model prog w) A E none Q (.ref s₂.heap.objs.size) (s₂.heap.objs.size + 1) r s' := by
    rintro r s' ⟨rfl, hm⟩
    exact hm
  refine codeAny_mono ?_ post
  refine codeAny_compStart_list loop (hself _ _ _ old loop)

/-- the element's expression, in the comprehension's block, is g of the count under a and the int under b -/
def EltIs2 (prog : Program) (w : World) (A : Around) (env : Env) (scope : Scope) (a b : Str) (elt : Expr) (P : Int → Prop) (g : Nat → Int → Int) : Prop :=
  ∀ (C : Addr) (oC : Obj) (m₂ : Str → Option Value) (i : Nat) (k : Int) (t u : Tok) (s₁ : Shared) (E' : Value → Shared → Prop) (Q' : Value → Shared → Prop), s₁.heap.get? C = some oC → NsObj oC m₂ → m₂ a = some (.int i t) → m₂ b = some (.int k u) → i < 64 → P k →
    (∀ t' tk', Q' (.int (g i k) t') { s₁ with toks := tk' }) → wpAny (model prog w) A (eval elt (compEnvC scope [] C env)) Q' E' s₁

theorem zip_snoc (ns : List Int) (g : Nat → Int → Int) {i : Nat} {n : Int} (h : ns[i]? = some n) : (ns.zipIdx.map fun p => g p.2 p.1).take (i + 1) = (ns.zipIdx.map fun p => g p.2 p.1).take i ++ [g i n] := by
  rw [List.take_add_one, List.getElem?_map, List.getElem?_zipIdx, h]
  simp

theorem comp_enum {elt iter : Expr} {a b : Str} {pa pb tp : Pos} {kk : Nat} {scope : Scope} {pos ipos : Pos} {Q : Value → Shared → Prop} {news : List (Addr × Obj)} {l e it : Addr} {vs : List Value} {ns : List Int} {nn : Nat} {g : Nat → Int → Int} {P : Int → Prop} (hh : A.handled = none) (hsz : vs.length ≤ 64)
    (F : Fr h₀ env.locals s.heap m) (N : News h₀ env.locals s.heap news) (hl : (l, listOf vs.toArray nn) ∈ news) (hi : IntsAre vs ns) (hP : ∀ n ∈ ns, P n) (hel : EltIs2 prog w A env scope a b elt P g)
    (he : IsEnum s.heap e it 0 .none) (hit : s.heap.IsListIter it l 0) (hei : e ≠ it) (he0 : h₀.get? e = none) (hi0 : h₀.get? it = none) (heL : e ≠ env.locals) (hiL : it ≠ env.locals) (off : ∀ p ∈ news, p.1 ≠ e ∧ p.1 ≠ it)
    (hclos : closureFor scope env = pure []) (hcell : ∀ y ∈ scope.names, y.2 ≠ .cell) (hkind : scope.kind = .function)
    (hnames : ∀ y ∈ scope.names, y.2 = .local → scope.names.lookup y.1 = some .local) (hxa : scope.names.lookup a = some .local) (hxb : scope.names.lookup b = some .local) (hab : a ≠ b)
    (fin : ∀ D h tk ys, Fr h₀ env.locals h m → News h₀ env.locals h ((D, listOf ys.toArray ys.length) :: news) → (∀ p ∈ news, p.1 ≠ D) → IntsAre ys (ns.zipIdx.map fun p => g p.2 p.1) → Q (.ref D) { s with heap := h, toks := tk })
    (hs : ∀ x, foldedSetIterable iter env x = pure x) :
    wpAny (model prog w) A (comprehension (.ListComp elt [⟨.Tuple [.Name a pa, .Name b pb] kk tp, iter, [], 0⟩] scope pos) scope env ipos (newList []) false (pure (.ref e))) Q E s := by
  refine comp_base hclos hcell hkind hnames hs (wpAny_pyIter_enum he ⟨e, rfl, fun s' Q' E' hx hq => wpAny_pyIter_enum (hx _ _ he) hq, fun h₁ hx hD hC => ?_⟩)
  have elt' : ∀ {b o}, s.heap.get? b = some o → b ≠ s.heap.objs.size ∧ b ≠ s.heap.objs.size + 1 := fun q => ⟨Nat.ne_of_lt (Heap.lt_size q), Nat.ne_of_lt (Nat.lt_succ_of_lt (Heap.lt_size q))⟩
  obtain ⟨oi, hoi, _⟩ := id hit
  have hlen : vs.length = ns.length := hi.length
  have hol : s.heap.get? l = some (listOf vs.toArray nn) := (N _ hl).1
  have hle : l ≠ e := (off _ hl).1
  have hli : l ≠ it := (off _ hl).2
  have hDe := Ne.symm (elt' he).1
  have hDi := Ne.symm (elt' hoi).1
  have hCe := Ne.symm (elt' he).2
  have hCi := Ne.symm (elt' hoi).2
  have hDC : s.heap.objs.size ≠ s.heap.objs.size + 1 := Nat.ne_of_lt (Nat.lt_succ_self _)
  have fresh : ∀ c, s.heap.objs.size ≤ c → h₀.get? c = none := fun c hc => by
    cases q : h₀.get? c with
    | none => rfl
    | some o => exact absurd (Heap.lt_size (F.keep c o q)) (Nat.not_lt.mpr hc)
  generalize hDn : s.heap.objs.size = D at *
  refine kcp_loop (fun k s' => ∃ i h tk m' old ys, s' = { s with heap := h, toks := tk } ∧ IsEnum h e it ((i : Nat) : Int) old ∧ h.IsListIter it l i ∧ h.get? D = some (lst ys) ∧ h.Ns (D + 1) m' ∧ (∀ c o, c ≠ e → c ≠ it → s.heap.get? c = some o → h.get? c = some o) ∧
      IntsAre ys ((ns.zipIdx.map fun p => g p.2 p.1).take i) ∧ ys.length = i ∧ i ≤ vs.length ∧ k = vs.length + 1 - i) ?_ (vs.length + 1)
    ⟨0, h₁, s.toks, _, .none, [], rfl, hx _ _ he, hit.at fun o q => hx _ _ q, hD, hC, fun c o _ _ q => hx c o q, .nil, rfl, Nat.zero_le _, rfl⟩
  rintro k s' ⟨i, H, tk, m', old, ys, rfl, he', hit', hD', hC', hk', hy', hyl, hile, rfl⟩
  have hl' : H.IsList l vs.toArray := ⟨_, hk' l _ hle hli hol, rfl, nn, rfl⟩
  by_cases hlt : i < vs.length
  · have hv : vs.toArray[i]? = some vs[i] := by simp [hlt]
    obtain ⟨n, u, hvn, hn⟩ := IntsAre.at hi i vs[i] (by simp [hlt])
    refine wpAny_pyNext_enum_item (s := { s with heap := H, toks := tk }) he' hit' hl' hv hei fun h₁ heo hit₁ ht₁ hz₁ hk₁ => ?_
    have hDH : D < H.objs.size := Heap.lt_size hD'
    have hCH : D + 1 < H.objs.size := hC'.lt
    have heH : e < H.objs.size := Heap.lt_size he'
    obtain ⟨oi', hoi', _⟩ := id hit'
    have hiH : it < H.objs.size := Heap.lt_size hoi'
    refine wpAny_letOwnedTupleGo_enum (s := { s with heap := h₁, toks := tk + 1 }) heo fun h₂ he₂ hs₂ => ?_
    have ht₂ : h₂.IsTuple H.objs.size #[.int i tk, vs[i]] := ⟨_, (hs₂.2 _ (Nat.ne_of_gt heH)).trans ht₁, rfl, _, rfl⟩
    have up₂ : ∀ c o, c ≠ e → c ≠ it → H.get? c = some o → h₂.get? c = some o := fun c o h1 h2 q => (hs₂.2 c h1).trans (hk₁ c o h1 h2 q)
    have hC₂ : h₂.Ns (D + 1) m' := hC'.at fun o q => up₂ _ o hCe hCi q
    refine kcp_assign (s := { s with heap := h₂, toks := tk + 1 }) (env := compEnvC scope [] (D + 1) env) hh ht₂ (lookup_relabel_local hxa) (lookup_relabel_local hxb) (by simp [compEnvC, relabel, hkind]) hC₂ fun h₃ tk₃ hC₃ hk₃ => ?_
    obtain ⟨oC, hoC, hNs⟩ := ns_obj hC₃
    refine hel (D + 1) oC _ i n tk u { s with heap := h₃, toks := tk₃ } _ _ hoC hNs (by rw [if_neg hab, if_pos rfl]) (by rw [if_pos rfl, hvn]) (by omega) (hP n (List.mem_of_getElem? hn)) fun t' tk' => ?_
    have hD₃ : h₃.get? D = some (lst ys) := hk₃ D _ hDC (up₂ D _ hDe hDi hD')
    refine append_at (s := { s with heap := h₃, toks := tk' }) (hsz := by show ys.toArray.size ≤ sizeLine; rw [List.size_toArray, hyl, sizeLine_eq]; omega) hD₃ fun h₅ hs₅ hD₅ => ?_
    have up₅ : ∀ c o, c ≠ D → c ≠ D + 1 → h₂.get? c = some o → h₅.get? c = some o := fun c o h1 h2 q => (hs₅.2 c h1).trans (hk₃ c o h2 q)
    have e2 : h₂.get? e = some _ := he₂
    refine ⟨vs.length + 1 - (i + 1), by omega, i + 1, h₅, tk', _, vs[i], ys ++ [.int (g i n) t'], rfl, ?_, ?_, hD₅.trans (congrArg some (lst_snoc ys _)), hC₃.sameBut hs₅ (Ne.symm hDC), fun c o h1 h2 q => ?_, ?_, by rw [List.length_append, List.length_singleton, hyl], hlt, rfl⟩
    · have : ((i + 1 : Nat) : Int) = (i : Int) + 1 := by push_cast; rfl
      rw [this]; exact up₅ e _ (Ne.symm hDe) (Ne.symm hCe) he₂
    · obtain ⟨o1, q1, r1⟩ := hit₁
      exact ⟨o1, up₅ it _ (Ne.symm hDi) (Ne.symm hCi) ((hs₂.2 it (Ne.symm hei)).trans q1), r1⟩
    · have z := elt' q
      exact up₅ c o z.1 z.2 (up₂ c o h1 h2 (hk' c o h1 h2 q))
    · rw [zip_snoc ns g hn]
      exact IntsAre.append hy' (.cons _ _ .nil)
  · have hie : i = vs.length := by omega
    subst hie
    have hv : vs.toArray[vs.length]? = none := by simp
    refine wpAny_pyNext_enum_end (s := { s with heap := H, toks := tk }) hh he' hit' hl' hv fun h₂ hx₂ => ?_
    refine ⟨rfl, m', hC'.at fun o q => hx₂ _ o hCi q, fun h₃ hs₃ => ?_⟩
    have up : ∀ c o, c ≠ e → c ≠ it → s.heap.get? c = some o → h₃.get? c = some o := fun c o h1 h2 q => (hs₃.2 c (elt' q).2).trans (hx₂ c o h2 (hk' c o h1 h2 q))
    rw [List.take_of_length_le (by rw [List.length_map, List.length_zipIdx, hlen]; exact Nat.le_refl _)] at hy'
    refine fin D h₃ tk ys ⟨F.ns.at' fun o q => up _ o (Ne.symm heL) (Ne.symm hiL) q, fun c o q => up c o (fun z => by rw [z, he0] at q; cases q) (fun z => by rw [z, hi0] at q; cases q) (F.keep c o q), F.above⟩ (fun p hp => ?_) (fun p hp z => ?_) hy'
    · rcases List.mem_cons.mp hp with rfl | hp
      · refine ⟨(hs₃.2 D hDC).trans (hx₂ D _ hDi hD'), ?_, fresh D (Nat.le_refl _)⟩
        intro z
        have := F.ns.lt
        rw [← z, hDn] at this
        exact absurd this (Nat.lt_irrefl _)
      · exact ⟨up _ _ (off p hp).1 (off p hp).2 (N p hp).1, (N p hp).2⟩
    · have := Heap.lt_size (N p hp).1
      rw [z, hDn] at this
      exact absurd this (Nat.lt_irrefl _)
end
end Mine
end

/-! ## GyM3 -/
section
open PySem PySem.W PyProof.Rows PyProof.Rows.LCg PySem.Calls
namespace Mine
section
variable {prog : Program} {w : World} {A : Around} {env : Env}
theorem elt_alt {scope : Scope} {a b : Str} {pb pa c1p c2p c3p q1 q2 q3 q4 : Pos} {k1 k2 k3 : Nat} (ha : scope.names.lookup a = some .local) (hb : scope.names.lookup b = some .local) (hkind : scope.kind = .function) (hda : (a == ("__debug__" : Str)) = false) (hdb : (b == ("__debug__" : Str)) = false) :
    EltIs2 prog w A env scope a b (.BinOp (.Name b pb) .Mult (.BinOp (.Constant (.int 1) k1 c1p) .Sub (.BinOp (.Constant (.int 2) k2 c2p) .Mult (.BinOp (.Name a pa) .Mod (.Constant (.int 2) k3 c3p) q4) q3) q2) q1) (fun n => n = 1 ∨ n = -1) (fun i n => n * (1 - 2 * ((i : Int) % 2))) := by
  intro C oC m₂ i k t u s₁ E' Q' ho hC hma hmb _ hP hQ
  show wpAny _ _ (do
    let x ← eval (.Name b pb) _
    let y ← holding [x] (do
      let x ← eval (.Constant (.int 1) k1 c1p) _
      let y ← holding [x] (do
        let x ← eval (.Constant (.int 2) k2 c2p) _
        let y ← holding [x] (do
          let x ← eval (.Name a pa) _
          let y ← holding [x] (eval (.Constant (.int 2) k3 c3p) _)
          standAt q4; operate [x, y] (binaryOp .Mod x y))
        standAt q3; operate [x, y] (binaryOp .Mult x y))
      standAt q2; operate [x, y] (binaryOp .Sub x y))
    standAt q1; operate [x, y] (binaryOp .Mult x y)) _ _ _
  have hf : Int.fmod (i : Int) 2 = (i : Int) % 2 := Int.fmod_eq_emod_of_nonneg _ (by decide)
  have h2 : (i : Int) % 2 = 0 ∨ (i : Int) % 2 = 1 := by omega
  refine wpAny_bind (wpAny_Name (wpAny_loadName_local (env := compEnvC scope [] C env) hkind (lookup_relabel_local hb) (hC.ns ho) hmb ?_) hdb)
  refine wpAny_bind (wpAny_holding ?_)
  refine wpAny_bind ?_
  show wpAny _ _ (mkInt 1) _ _ _
  refine wpAny_mkInt (wpAny_bind (wpAny_holding ?_))
  refine wpAny_bind ?_
  show wpAny _ _ (mkInt 2) _ _ _
  refine wpAny_mkInt (wpAny_bind (wpAny_holding ?_))
  refine wpAny_bind (wpAny_Name (wpAny_loadName_local (env := compEnvC scope [] C env) hkind (lookup_relabel_local ha) (hC.ns ho) hma ?_) hda)
  refine wpAny_bind (wpAny_holding ?_)
  show wpAny _ _ (mkInt 2) _ _ _
  refine wpAny_mkInt (wpAny_bind (wpAny_standAt (wpAny_operate' (mod_int' (by decide) ?_))))
  rw [hf]
  refine wpAny_bind (wpAny_standAt (wpAny_operate' (PyProof.Rows.mul_int (hm := by rcases h2 with h | h <;> rw [h] <;> mul_fits) ?_)))
  refine wpAny_bind (wpAny_standAt (wpAny_operate' (sub_int' ?_)))
  refine wpAny_bind (wpAny_standAt (wpAny_operate' (PyProof.Rows.mul_int (hm := pm_ok hP (by rcases h2 with h | h <;> rw [h] <;> decide)) ?_)))
  exact hQ _ _
theorem enum_comp {E : Value → Shared → Prop} {s : Shared} {h₀ : Heap} {m : Str → Option Value} {elt iter : Expr} {a b : Str} {pa pb tp : Pos} {kk : Nat} {scope : Scope} {pos ipos : Pos} {Q : Value → Shared → Prop} {news : List (Addr × Obj)} {l : Addr} {vs : List Value} {ns : List Int} {nn : Nat} {g : Nat → Int → Int} {P : Int → Prop} (hh : A.handled = none) (hsz : vs.length ≤ 64)
    (F : Fr h₀ env.locals s.heap m) (N : News h₀ env.locals s.heap news) (hl : (l, listOf vs.toArray nn) ∈ news) (hi : IntsAre vs ns) (hP : ∀ n ∈ ns, P n) (hel : EltIs2 prog w A env scope a b elt P g)
    (hclos : closureFor scope env = pure []) (hcell : ∀ y ∈ scope.names, y.2 ≠ .cell) (hkind : scope.kind = .function)
    (hnames : ∀ y ∈ scope.names, y.2 = .local → scope.names.lookup y.1 = some .local) (hxa : scope.names.lookup a = some .local) (hxb : scope.names.lookup b = some .local) (hab : a ≠ b)
    (fin : ∀ D h tk ys, Fr h₀ env.locals h m → News h₀ env.locals h ((D, listOf ys.toArray ys.length) :: news) → (∀ p ∈ news, p.1 ≠ D) → IntsAre ys (ns.zipIdx.map fun p => g p.2 p.1) → Q (.ref D) { s with heap := h, toks := tk })
    (hs : ∀ x, foldedSetIterable iter env x = pure x) :
    wpAny (model prog w) A (call (.type "enumerate") [.ref l]) (fun x s₁ => wpAny (model prog w) A (comprehension (.ListComp elt [⟨.Tuple [.Name a pa, .Name b pb] kk tp, iter, [], 0⟩] scope pos) scope env ipos (newList []) false (pure x)) Q E s₁) E s := by
  have hol := (N _ hl).1
  refine call_enumerate_list ⟨_, hol, rfl, nn, rfl⟩ fun h' he hit _ hk => ?_
  have new : ∀ c, s.heap.objs.size ≤ c → h₀.get? c = none := fun c hc => by
    cases q : h₀.get? c with
    | none => rfl
    | some o => exact absurd (Heap.lt_size (F.keep c o q)) (Nat.not_lt.mpr hc)
  have hL := F.ns.lt
  exact comp_enum (s := { s with heap := h' }) hh hsz (F.keeps hk) (N.grown hk) hl hi hP hel he hit (Nat.succ_ne_self _) (new _ (Nat.le_succ _)) (new _ (Nat.le_refl _)) (Nat.ne_of_gt (Nat.lt_succ_of_lt hL)) (Nat.ne_of_gt hL)
    (fun p hp => ⟨Nat.ne_of_lt (Nat.lt_succ_of_lt (Heap.lt_size (N p hp).1)), Nat.ne_of_lt (Heap.lt_size (N p hp).1)⟩) hclos hcell hkind hnames hxa hxb hab fin hs
theorem PM.alt {ns : List Int} (h : PM ns) : PM (altL ns) := fun n hn => by
  obtain ⟨p, hp, rfl⟩ := List.mem_map.mp hn
  have h2 : (p.2 : Int) % 2 = 0 ∨ (p.2 : Int) % 2 = 1 := by omega
  have h1 := h p.1 (by
    have := List.mem_zipIdx_iff_getElem?.mp hp
    exact List.mem_of_getElem? this)
  rcases h1 with h1 | h1 <;> rcases h2 with h2 | h2 <;> rw [h1, h2] <;> decide
theorem altL_length (ns : List Int) : (altL ns).length = ns.length := by rw [altL, List.length_map, List.length_zipIdx]
theorem sum_small : ∀ {ns : List Int}, PM ns → -(ns.length : Int) ≤ ns.sum ∧ ns.sum ≤ ns.length
  | [], _ => by simp
  | n :: r, h => by
    have h1 := sum_small (ns := r) fun k hk => h k (.tail _ hk)
    have h2 := h n (.head _)
    rw [List.sum_cons, List.length_cons]
    rcases h2 with h2 | h2 <;> subst h2 <;> omega
end
end Mine
end

/-! ## GyR -/
section
open PySem PySem.W PyProof.Rows PyProof.Rows.LCg PySem.Calls
namespace Mine
section
variable {prog : Program} {w : World} {A : Around} {E : Value → Shared → Prop} {s : Shared} {env : Env}
/-- a comprehension's own block with cells is opened: its list D, its names C, its cells; the loop is left -/
theorem comp_baseK {elt target iter : Expr} {ifs : List Expr} {rest : List Comprehension} {scope : Scope} {cl : List (Str × Addr)} {pos ipos : Pos} {x : Value} {Q : Value → Shared → Prop}
    (hclos : closureFor scope env = pure cl) (hkind : scope.kind = .function)
    (hnames : ∀ y ∈ scope.names, y.2 = .local → scope.names.lookup y.1 = some .local) (hs : ∀ x, foldedSetIterable iter env x = pure x)
    (h : wpAny (model prog w) A (pyIter x) (fun it s₂ => ∃ I, it = .ref I ∧ (∀ (s' : Shared) (Q' : Value → Shared → Prop) (E' : Value → Shared → Prop), Ext s₂.heap s'.heap → Q' (.ref I) s' → wpAny (model prog w) A (pyIter (.ref I)) Q' E' s') ∧
      ∀ h₁, h₁ = pushCells ((s₂.heap.push (lst [])).push { cls := .type "dict", data := .dict #[] }) scope.names → Ext s₂.heap h₁ → h₁.get? s₂.heap.objs.size = some (lst []) → h₁.Ns (s₂.heap.objs.size + 1) (fun _ => none) →
        codeAny (model prog w) A (.compLoop (.ListComp elt (⟨target, iter, ifs, 0⟩ :: rest) scope pos) 0 (.ref I) (.ref s₂.heap.objs.size) (compEnvC scope (cellsFrom (s₂.heap.objs.size + 2) scope.names cl) (s₂.heap.objs.size + 1) env))
          (fun r s' => r = .ok .next ∧ ∃ m, s'.heap.Ns (s₂.heap.objs.size + 1) m ∧ ∀ h', Heap.SameBut (s₂.heap.objs.size + 1) s'.heap h' → Q (.ref s₂.heap.objs.size) { s' with heap := h' }) { s₂ with heap := h₁ }) E s) :
    wpAny (model prog w) A (comprehension (.ListComp elt (⟨target, iter, ifs, 0⟩ :: rest) scope pos) scope env ipos (newList []) false (pure x)) Q E s := by
  refine wpAny_comprehension_free (use := none) rfl hs hclos hkind hnames (wpAny_pure (wpAny_mono h (fun it s₂ h₂ => ?_) fun _ _ e => e))
  obtain ⟨I, rfl, hself, hloop⟩ := h₂
  refine wpAny_newObj_type ?_
  simp only [newFunctionEnv, Option.isSome_some, if_true]
  refine wpAny_bind (wpAny_alloc ?_)
  refine wpAny_bind (wpAny_layCells _ (fun name kind cells => by cases hkc : kind == NameKind.cell <;> simp [hkc]) _ _ _ _ ?_)
  refine wpAny_bind (wpAny_pure (wpAny_pure ?_))
  dsimp only
  have hC : (s₂.heap.push (lst [])).objs.size = s₂.heap.objs.size + 1 := Heap.size_push ..
  have hC2 : ((s₂.heap.push (lst [])).push { cls := .type "dict", data := .dict #[] }).objs.size = s₂.heap.objs.size + 2 := by rw [Heap.size_push, hC]
  have old : Ext s₂.heap (pushCells ((s₂.heap.push (lst [])).push { cls := .type "dict", data := .dict #[] }) scope.names) := fun b o e => pushCells_keeps _ _ b o (Heap.get?_push_of_some _ (Heap.get?_push_of_some _ e))
  have hacc : (pushCells ((s₂.heap.push (lst [])).push { cls := .type "dict", data := .dict #[] }) scope.names).get? s₂.heap.objs.size = some (lst []) := pushCells_keeps _ _ _ _ (Heap.get?_push_of_some _ (Heap.get?_push_size _ rfl))
  have hns : (pushCells ((s₂.heap.push (lst [])).push { cls := .type "dict", data := .dict #[] }) scope.names).Ns (s₂.heap.objs.size + 1) (fun _ => none) := by
    have := (Heap.Ns.new (s₂.heap.push (lst [])) (.type "dict")).keeps (pushCells_keeps scope.names _)
    rw [hC] at this
    exact this
  have loop := hloop _ rfl old hacc hns
  have post : ∀ r s', (r = .ok .next ∧ ∃ m, s'.heap.Ns (s₂.heap.objs.size + 1) m ∧ ∀ h', Heap.SameBut (s₂.heap.objs.size + 1) s'.heap h' → Q (.ref s₂.heap.objs.size) { s' with heap := h' }) →
      compPost (model prog w) A E none Q (.ref s₂.heap.objs.size) (s₂.heap.objs.size + 1) r s' := by
    rintro r s' ⟨rfl, hm⟩
    exact hm
  have all := codeAny_mono (codeAny_compStart_list loop (hself _ _ _ old loop)) post
  have e1 : (s₂.heap.push { cls := .type "list", dict := none, data := .seq ([] : List Value).toArray }).objs.size = s₂.heap.objs.size + 1 := hC
  rw [e1]
  have e2 : ((s₂.heap.push { cls := .type "list", dict := none, data := .seq ([] : List Value).toArray }).push { cls := .type "dict", data := .dict #[] }).objs.size = s₂.heap.objs.size + 2 := hC2
  rw [e2]
  exact all
end
end Mine
end

/-! ## GyR2 -/
section
open PySem PySem.W PyProof.Rows PyProof.Rows.LCg PySem.Calls
namespace Mine
section
variable {prog : Program} {w : World} {A : Around} {E : Value → Shared → Prop} {s : Shared} {env : Env}
theorem any_comp_first {e : Expr} {scope : Scope} {pos : Pos} {newAcc first : Sem Value} {Q : Value → Shared → Prop}
    (h : wpAny (model prog w) A first (fun x s₁ => wpAny (model prog w) A (comprehension e scope env pos newAcc false (pure x)) Q E s₁) E s) : wpAny (model prog w) A (comprehension e scope env pos newAcc false first) Q E s := by
  unfold comprehension at h ⊢
  exact wpAny_bind (wpAny_mono h (fun x s₁ h₁ => h₁) fun _ _ x => x)
theorem any_ListComp {elt target iter : Expr} {ifs : List Expr} {rest : List Comprehension} {scope : Scope} {pos : Pos} {Q : Value → Shared → Prop}
    (h : wpAny (model prog w) A (eval iter env) (fun x s₁ => wpAny (model prog w) A (comprehension (.ListComp elt (⟨target, iter, ifs, 0⟩ :: rest) scope pos) scope env iter.pos (newList []) false (pure x)) Q E s₁) E s) :
    wpAny (model prog w) A (eval (.ListComp elt (⟨target, iter, ifs, 0⟩ :: rest) scope pos) env) Q E s := by
  rw [eval_ListComp]
  exact any_comp_first h
theorem eval_range {mg mb : Str → Option Value} {n : Int} {k : Nat} {pn cp pos : Pos} {Q : Value → Shared → Prop} (hgl : env.globals = mainGlobals) (hbl : env.builtins = builtinsNs) (hk : env.scope.kind = .function) (hx : env.kindOf "range" = some .globalImplicit)
    (hg : s.heap.Ns mainGlobals mg) (hmiss : mg "range" = none) (hb : s.heap.Ns builtinsNs mb) (hv : mb "range" = some (.type "range"))
    (h : ∀ t t1 t2 tk, Q (.ref s.heap.objs.size) { s with heap := s.heap.push { cls := .type "range", data := .fields #[.int 0 t, .int n t1, .int 1 t2] }, toks := tk }) :
    wpAny (model prog w) A (eval (.Call (.Name "range" pn) [.Constant (.int n) k cp] [] pos) env) Q E s := by
  refine wpAny_Call_Name_kw ?_
  refine Name_function_global hk hx (loadGlobal_builtin (hgl ▸ hg) hmiss (hbl ▸ hb) hv ?_) (by decide)
  refine callWith_type1 (e := .Constant (.int n) k cp) (rest := []) ?_
  show wpAny _ _ (spliced [(false, eval (.Constant (.int n) k cp) env)]) _ _ _
  refine Calls.spliced_cons ?_
  show wpAny _ _ (mkInt n) _ _ _
  refine wpAny_mkInt (Calls.spliced_nil ?_)
  exact call_range_1 (h _ _ _ _)
/-- a number of the rows menu -/
def rowF (i j : Int) : Int := 1 - 2 * ((i.fdiv (2 ^ j.toNat)).fmod 2)
theorem elt_row {scope : Scope} {K C : Addr} {i j : Int} {t u : Tok} {m : Str → Option Value} {k1 k2 k3 k6 : Nat} {c1 c2 c3 c6 pn pk q1 q2 q3 q4 q5 : Pos} {Q : Value → Shared → Prop} (hkind : scope.kind = .function) (hxk : scope.names.lookup ("k" : Str) = some .local) (hxn : (compEnvC scope [("number", K)] C env).kindOf "number" = some .cell)
    (hK : s.heap.IsCell K (some (.int i t))) (hC : s.heap.Ns C m) (hm : m "k" = some (.int j u)) (hi : 0 ≤ i ∧ i < 8) (hj : j = 0 ∨ j = 1 ∨ j = 2)
    (h : ∀ t' tk', Q (.int (rowF i j) t') { s with toks := tk' }) :
    wpAny (model prog w) A (eval (.BinOp (.Constant (.int 1) k1 c1) .Sub (.BinOp (.Constant (.int 2) k2 c2) .Mult (.BinOp (.BinOp (.Name "number" pn) .FloorDiv (.BinOp (.Constant (.int 2) k3 c3) .Pow (.Name "k" pk) q5) q4) .Mod (.Constant (.int 2) k6 c6) q3) q2) q1) (compEnvC scope [("number", K)] C env)) Q E s := by
  show wpAny _ _ (do
    let x ← eval (.Constant (.int 1) k1 c1) _
    let y ← holding [x] (do
      let x ← eval (.Constant (.int 2) k2 c2) _
      let y ← holding [x] (do
        let x ← (do
          let x ← eval (.Name "number" pn) _
          let y ← holding [x] (do
            let x ← eval (.Constant (.int 2) k3 c3) _
            let y ← holding [x] (eval (.Name "k" pk) _)
            standAt q5; operate [x, y] (binaryOp .Pow x y))
          standAt q4; operate [x, y] (binaryOp .FloorDiv x y))
        let y ← holding [x] (eval (.Constant (.int 2) k6 c6) _)
        standAt q3; operate [x, y] (binaryOp .Mod x y))
      standAt q2; operate [x, y] (binaryOp .Mult x y))
    standAt q1; operate [x, y] (binaryOp .Sub x y)) _ _ _
  have hp : (2 : Int) ^ j.toNat = 1 ∨ (2 : Int) ^ j.toNat = 2 ∨ (2 : Int) ^ j.toNat = 4 := by rcases hj with rfl | rfl | rfl <;> decide
  have hj0 : 0 ≤ j ∧ j ≤ 2 := by omega
  have hk2 : (compEnvC scope [("number", K)] C env).scope.kind = .function := hkind
  refine wpAny_bind ?_
  show wpAny _ _ (mkInt 1) _ _ _
  refine wpAny_mkInt (wpAny_bind (wpAny_holding ?_))
  refine wpAny_bind ?_
  show wpAny _ _ (mkInt 2) _ _ _
  refine wpAny_mkInt (wpAny_bind (wpAny_holding ?_))
  refine wpAny_bind (wpAny_bind (wpAny_Name (wpAny_loadName_cell hk2 hxn (by simp [compEnvC]) hK ?_) (by decide)))
  refine wpAny_bind (wpAny_holding ?_)
  refine wpAny_bind ?_
  show wpAny _ _ (mkInt 2) _ _ _
  refine wpAny_mkInt (wpAny_bind (wpAny_holding ?_))
  refine wpAny_Name (wpAny_loadName_local (env := compEnvC scope [("number", K)] C env) hkind (lookup_relabel_local hxk) hC hm ?_) (by decide)
  refine wpAny_bind (wpAny_standAt (wpAny_operate' (pow_int_small hj0.1 (by omega) (by decide) ?_)))
  unfold rowF at h
  generalize (2 : Int) ^ j.toNat = p at hp h ⊢
  refine wpAny_bind (wpAny_standAt (wpAny_operate' (floordiv_int (by omega) ?_ (Or.inl (PyProof.noPylong_small (by omega))))))
  refine wpAny_bind (wpAny_holding ?_)
  show wpAny _ _ (mkInt 2) _ _ _
  refine wpAny_mkInt (wpAny_bind (wpAny_standAt (wpAny_operate' (mod_int' (by decide) ?_))))
  have h2 : (i.fdiv p).fmod 2 = 0 ∨ (i.fdiv p).fmod 2 = 1 := by
    have e := Int.fmod_eq_emod_of_nonneg (i.fdiv p) (b := 2) (by decide)
    rw [e]; omega
  refine wpAny_bind (wpAny_standAt (wpAny_operate' (PyProof.Rows.mul_int (hm := by rcases h2 with h | h <;> rw [h] <;> mul_fits) ?_)))
  refine wpAny_bind (wpAny_standAt (wpAny_operate' (sub_int' ?_)))
  exact h _ _
def rowN (i : Int) : List Int := [rowF i 0, rowF i 1, rowF i 2]
theorem rowN_snoc (i : Int) {j : Nat} (hj : j < 3) : (rowN i).take (j + 1) = (rowN i).take j ++ [rowF i j] := by
  have : j = 0 ∨ j = 1 ∨ j = 2 := by omega
  rcases this with rfl | rfl | rfl <;> rfl
theorem inner_row {scope : Scope} {K : Addr} {i : Int} {t : Tok} {mg mb : Str → Option Value} {k1 k2 k3 k6 k7 : Nat} {c1 c2 c3 c6 c7 pn pk q1 q2 q3 q4 q5 px pr cpos pos : Pos} {Q : Value → Shared → Prop} (hh : A.handled = none)
    (hgl : env.globals = mainGlobals) (hbl : env.builtins = builtinsNs) (hk : env.scope.kind = .function) (hx : env.kindOf "range" = some .globalImplicit)
    (hg : s.heap.Ns mainGlobals mg) (hmiss : mg "range" = none) (hb : s.heap.Ns builtinsNs mb) (hv : mb "range" = some (.type "range"))
    (hclos : closureFor scope env = pure [(("number" : Str), K)]) (hcell : ∀ y ∈ scope.names, y.2 ≠ .cell) (hkind : scope.kind = .function) (hnames : ∀ y ∈ scope.names, y.2 = .local → scope.names.lookup y.1 = some .local)
    (hxk : scope.names.lookup ("k" : Str) = some .local) (hxn : ∀ C, (compEnvC scope [("number", K)] C env).kindOf "number" = some .cell)
    (hK : s.heap.IsCell K (some (.int i t))) (hi : 0 ≤ i ∧ i < 8)
    (fin : ∀ D h tk ws, Ext s.heap h → s.heap.get? D = none → h.get? D = some (lst ws) → IntsAre ws (rowN i) → Q (.ref D) { s with heap := h, toks := tk }) :
    wpAny (model prog w) A (eval (.ListComp (.BinOp (.Constant (.int 1) k1 c1) .Sub (.BinOp (.Constant (.int 2) k2 c2) .Mult (.BinOp (.BinOp (.Name "number" pn) .FloorDiv (.BinOp (.Constant (.int 2) k3 c3) .Pow (.Name "k" pk) q5) q4) .Mod (.Constant (.int 2) k6 c6) q3) q2) q1)
      [⟨.Name "k" px, .Call (.Name "range" pr) [.Constant (.int 3) k7 c7] [] cpos, [], 0⟩] scope pos) env) Q E s := by
  refine any_ListComp (eval_range hgl hbl hk hx hg hmiss hb hv fun u1 u2 u3 tk0 => ?_)
  have hr : IsRange (s.heap.push { cls := .type "range", data := .fields #[.int 0 u1, .int 3 u2, .int 1 u3] }) s.heap.objs.size 0 3 1 u1 u2 u3 := Heap.get?_push_size _ rfl
  have hz1 : (s.heap.push { cls := .type "range", data := .fields #[.int 0 u1, .int 3 u2, .int 1 u3] }).objs.size = s.heap.objs.size + 1 := Heap.size_push ..
  obtain ⟨sz, sm⟩ := range01 (n := 3) (by decide) (by decide)
  have x1 : Ext s.heap (s.heap.push { cls := .type "range", data := .fields #[.int 0 u1, .int 3 u2, .int 1 u3] }) := fun b o e => Heap.get?_push_of_some _ e
  generalize s.heap.push { cls := .type "range", data := .fields #[.int 0 u1, .int 3 u2, .int 1 u3] } = H1 at hr hz1 x1 ⊢
  refine comp_base hclos hcell hkind hnames (fun _ => rfl) (wpAny_pyIter_range (s := { s with heap := H1, toks := tk0 }) hr sm ?_)
  dsimp only
  rw [sz]
  have hit0 : IsRangeIter (H1.push { cls := .type "range_iterator", data := .fields #[rawInt 0, rawInt 3, rawInt 1] }) H1.objs.size 0 3 1 := Heap.get?_push_size _ rfl
  have hz2 : (H1.push { cls := .type "range_iterator", data := .fields #[rawInt 0, rawInt 3, rawInt 1] }).objs.size = s.heap.objs.size + 2 := by rw [Heap.size_push, hz1]
  have x2 : Ext s.heap (H1.push { cls := .type "range_iterator", data := .fields #[rawInt 0, rawInt 3, rawInt 1] }) := fun b o e => Heap.get?_push_of_some _ (x1 b o e)
  rw [hz1] at hit0 ⊢
  generalize H1.push { cls := .type "range_iterator", data := .fields #[rawInt 0, rawInt 3, rawInt 1] } = H2 at hit0 hz2 x2 ⊢
  refine ⟨s.heap.objs.size + 1, rfl, fun s' Q' E' hx' hq => wpAny_pyIter_rangeiter (hx' _ _ hit0) hq, fun h₁ hx₁ hD hC => ?_⟩
  have hz2' : ({ s with heap := H2, toks := tk0 } : Shared).heap.objs.size = s.heap.objs.size + 2 := hz2
  replace hx₁ : Ext H2 h₁ := hx₁
  replace hD : h₁.get? H2.objs.size = some (lst []) := hD
  replace hC : h₁.Ns (H2.objs.size + 1) (fun _ => none) := hC
  clear hz2'
  show codeAny _ _ (.compLoop _ _ _ (.ref H2.objs.size) (compEnvC _ _ (H2.objs.size + 1) _)) (fun r s' => r = .ok .next ∧ ∃ m, s'.heap.Ns (H2.objs.size + 1) m ∧ ∀ h', Heap.SameBut (H2.objs.size + 1) s'.heap h' → Q (.ref H2.objs.size) { s' with heap := h' }) { s with heap := h₁, toks := tk0 }
  rw [hz2] at hD hC ⊢
  have big : ∀ {b o}, s.heap.get? b = some o → b ≠ s.heap.objs.size + 1 ∧ b ≠ s.heap.objs.size + 2 ∧ b ≠ s.heap.objs.size + 2 + 1 := fun q => have z := Heap.lt_size q; ⟨Nat.ne_of_lt (Nat.lt_succ_of_lt z), Nat.ne_of_lt (Nat.lt_succ_of_lt (Nat.lt_succ_of_lt z)), Nat.ne_of_lt (Nat.lt_succ_of_lt (Nat.lt_succ_of_lt (Nat.lt_succ_of_lt z)))⟩
  generalize hn : s.heap.objs.size = n at *
  have nDC : n + 2 ≠ n + 2 + 1 := by omega
  have nDI : n + 2 ≠ n + 1 := by omega
  have nCI : n + 2 + 1 ≠ n + 1 := by omega
  refine codeAny_compLoop_list (fun k s' => ∃ (j : Nat) (h : Heap) (tk : Nat) (m' : Str → Option Value) (ys : List Value), s' = { s with heap := h, toks := tk } ∧ IsRangeIter h (n + 1) (j : Int) (3 - (j : Int)) 1 ∧ h.get? (n + 2) = some (lst ys) ∧ h.Ns (n + 2 + 1) m' ∧ Ext s.heap h ∧
    IntsAre ys ((rowN i).take j) ∧ ys.length = j ∧ j ≤ 3 ∧ k = 3 + 1 - j) ?_ (3 + 1) ⟨0, h₁, tk0, _, [], rfl, hx₁ _ _ hit0, hD, hC, fun b o e => hx₁ b o (x2 b o e), .nil, rfl, by omega, rfl⟩
  rintro k s' ⟨j, h, tk, m', ys, rfl, hit, hD', hC', hx', hy, hyl, hj, rfl⟩
  by_cases hlt : j < 3
  · refine wpAny_pyNext_range_item (s := { s with heap := h, toks := tk }) hit (by omega) fun h₂ hit₂ hs₂ => ?_
    refine wpAny_assign_Name (wpAny_storeName_local (env := compEnvC scope [("number", K)] (n + 2 + 1) env) (lookup_relabel_local hxk) (hC'.sameBut hs₂ nCI) (fun h₃ hC₃ hs₃ => ?_) (by simp [compEnvC, relabel, hkind]))
    have up₃ : Ext s.heap h₃ := fun b o e => (hs₃.2 b (big e).2.2).trans ((hs₂.2 b (big e).1).trans (hx' b o e))
    refine elt_row (s := { s with heap := h₃, toks := tk + 1 + 1 }) hkind hxk (hxn _) (hK.keeps up₃) hC₃ (by rw [if_pos rfl]) hi (by omega) fun t' tk' => ?_
    have hD₃ : h₃.get? (n + 2) = some (lst ys) := (hs₃.2 _ nDC).trans ((hs₂.2 _ nDI).trans hD')
    refine append_at (s := { s with heap := h₃, toks := tk' }) (hsz := by show ys.toArray.size ≤ sizeLine; rw [List.size_toArray, hyl, sizeLine_eq]; omega) hD₃ fun h₅ hs₅ hD₅ => ?_
    refine ⟨3 + 1 - (j + 1), by omega, j + 1, h₅, tk', _, ys ++ [.int (rowF i j) t'], rfl, ?_, hD₅.trans (congrArg some (lst_snoc ys _)), hC₃.sameBut hs₅ (Ne.symm nDC), fun b o e => (hs₅.2 b (big e).2.1).trans (up₃ b o e), ?_, by rw [List.length_append, List.length_singleton, hyl], hlt, rfl⟩
    · have e1 : ((j + 1 : Nat) : Int) = (j : Int) + 1 := by push_cast; rfl
      have e2 : (3 : Int) - ((j + 1 : Nat) : Int) = 3 - (j : Int) - 1 := by omega
      rw [e2, e1]
      exact (hs₅.2 _ (Ne.symm nDI)).trans ((hs₃.2 _ (Ne.symm nCI)).trans hit₂)
    · rw [rowN_snoc i hlt]
      exact IntsAre.append hy (.cons _ _ .nil)
  · have hj3 : j = 3 := by omega
    subst hj3
    refine wpAny_pyNext_range_end (s := { s with heap := h, toks := tk }) hh hit (by omega) fun h₂ hx₂ => ?_
    refine ⟨rfl, m', hC'.at' fun o q => hx₂ _ o nCI q, fun h₃ hs₃ => ?_⟩
    refine fin (n + 2) h₃ tk ys (fun b o e => (hs₃.2 b (big e).2.2).trans (hx₂ b o (big e).1 (hx' b o e))) ?_ ((hs₃.2 _ nDC).trans (hx₂ _ _ nDI hD')) hy
    cases q : s.heap.get? (n + 2) with
    | none => rfl
    | some o => exact absurd rfl (big q).2.1
end
end Mine
end

/-! ## GyR3 -/
section
open PySem PySem.W PyProof.Rows PyProof.Rows.LCg PySem.Calls
namespace Mine
abbrev scI : Scope := { kind := .function, names := [(Str.ofString ".0", .local), (Str.ofString "k", .local), (Str.ofString "number", .free)], isGenerator := false, isCoroutine := false, more := [] }
abbrev scO : Scope := { kind := .function, names := [(Str.ofString ".0", .local), (Str.ofString "number", .cell), (Str.ofString "range", .globalImplicit)], isGenerator := false, isCoroutine := false, more := [] }
/-- the menu's rows so far -/
def RowsAre (h : Heap) (bad : List Addr) (ys : List Value) : Prop := ∀ q v, ys[q]? = some v → ∃ a ws, v = .ref a ∧ h.get? a = some (lst ws) ∧ IntsAre ws (rowN (q : Nat)) ∧ a ∉ bad
theorem RowsAre.nil {h : Heap} {bad : List Addr} : RowsAre h bad [] := fun q v hv => nomatch hv
theorem RowsAre.keep {h h' : Heap} {bad : List Addr} {ys : List Value} (x : RowsAre h bad ys) (k : ∀ b o, b ∉ bad → h.get? b = some o → h'.get? b = some o) : RowsAre h' bad ys := fun q v hv => by
  obtain ⟨a, ws, e, ha, hi, hb⟩ := x q v hv
  exact ⟨a, ws, e, k a _ hb ha, hi, hb⟩
theorem RowsAre.snoc {h : Heap} {bad : List Addr} {ys : List Value} {a : Addr} {ws : List Value} {j : Nat} (x : RowsAre h bad ys) (hl : ys.length = j) (ha : h.get? a = some (lst ws)) (hi : IntsAre ws (rowN (j : Int))) (hb : a ∉ bad) : RowsAre h bad (ys ++ [.ref a]) := fun q v hv => by
  rcases Nat.lt_or_ge q ys.length with hq | hq
  · rw [List.getElem?_append_left hq] at hv
    exact x q v hv
  · rw [List.getElem?_append_right hq] at hv
    have hq0 : q - ys.length = 0 := by
      rcases Nat.eq_zero_or_pos (q - ys.length) with h | h
      · exact h
      · rw [List.getElem?_eq_none (by rw [List.length_singleton]; exact h)] at hv; cases hv
    rw [hq0] at hv
    cases hv
    have : q = j := by omega
    exact ⟨a, ws, rfl, ha, this ▸ hi, hb⟩
section
variable {prog : Program} {w : World} {A : Around} {E : Value → Shared → Prop} {s : Shared} {env : Env}
theorem outer_rows {mg mb : Str → Option Value} {k1 k2 k3 k6 k7 k8 : Nat} {c1 c2 c3 c6 c7 c8 pn pk q1 q2 q3 q4 q5 px pr cpos pos px2 pr2 cpos2 pos2 : Pos} {Q : Value → Shared → Prop} (hh : A.handled = none)
    (hgl : env.globals = mainGlobals) (hbl : env.builtins = builtinsNs) (hk : env.scope.kind = .function) (hx : env.kindOf "range" = some .globalImplicit)
    (hg : s.heap.Ns mainGlobals mg) (hmiss : mg "range" = none) (hb : s.heap.Ns builtinsNs mb) (hv : mb "range" = some (.type "range"))
    (fin : ∀ D h tk ys, Ext s.heap h → s.heap.get? D = none → h.get? D = some (lst ys) → ys.length = 8 → RowsAre h [D] ys → Q (.ref D) { s with heap := h, toks := tk }) :
    wpAny (model prog w) A (eval (.ListComp (.ListComp (.BinOp (.Constant (.int 1) k1 c1) .Sub (.BinOp (.Constant (.int 2) k2 c2) .Mult (.BinOp (.BinOp (.Name "number" pn) .FloorDiv (.BinOp (.Constant (.int 2) k3 c3) .Pow (.Name "k" pk) q5) q4) .Mod (.Constant (.int 2) k6 c6) q3) q2) q1)
      [⟨.Name "k" px, .Call (.Name "range" pr) [.Constant (.int 3) k7 c7] [] cpos, [], 0⟩] scI pos) [⟨.Name "number" px2, .Call (.Name "range" pr2) [.Constant (.int 8) k8 c8] [] cpos2, [], 0⟩] scO pos2) env) Q E s := by
  refine any_ListComp (eval_range hgl hbl hk hx hg hmiss hb hv fun u1 u2 u3 tk0 => ?_)
  have hr : IsRange (s.heap.push { cls := .type "range", data := .fields #[.int 0 u1, .int 8 u2, .int 1 u3] }) s.heap.objs.size 0 8 1 u1 u2 u3 := Heap.get?_push_size _ rfl
  have hz1 : (s.heap.push { cls := .type "range", data := .fields #[.int 0 u1, .int 8 u2, .int 1 u3] }).objs.size = s.heap.objs.size + 1 := Heap.size_push ..
  obtain ⟨sz, sm⟩ := range01 (n := 8) (by decide) (by decide)
  have x1 : Ext s.heap (s.heap.push { cls := .type "range", data := .fields #[.int 0 u1, .int 8 u2, .int 1 u3] }) := fun b o e => Heap.get?_push_of_some _ e
  generalize s.heap.push { cls := .type "range", data := .fields #[.int 0 u1, .int 8 u2, .int 1 u3] } = H1 at hr hz1 x1 ⊢
  refine comp_baseK (cl := []) rfl rfl (by decide) (fun _ => rfl) (wpAny_pyIter_range (s := { s with heap := H1, toks := tk0 }) hr sm ?_)
  dsimp only
  rw [sz]
  have hit0 : IsRangeIter (H1.push { cls := .type "range_iterator", data := .fields #[rawInt 0, rawInt 8, rawInt 1] }) H1.objs.size 0 8 1 := Heap.get?_push_size _ rfl
  have hz2 : (H1.push { cls := .type "range_iterator", data := .fields #[rawInt 0, rawInt 8, rawInt 1] }).objs.size = s.heap.objs.size + 2 := by rw [Heap.size_push, hz1]
  have x2 : Ext s.heap (H1.push { cls := .type "range_iterator", data := .fields #[rawInt 0, rawInt 8, rawInt 1] }) := fun b o e => Heap.get?_push_of_some _ (x1 b o e)
  rw [hz1] at hit0 ⊢
  generalize H1.push { cls := .type "range_iterator", data := .fields #[rawInt 0, rawInt 8, rawInt 1] } = H2 at hit0 hz2 x2 ⊢
  refine ⟨s.heap.objs.size + 1, rfl, fun s' Q' E' hx' hq => wpAny_pyIter_rangeiter (hx' _ _ hit0) hq, fun h₁ he hx₁ hD hC => ?_⟩
  replace he : h₁ = pushCells ((H2.push (lst [])).push { cls := .type "dict", data := .dict #[] }) scO.names := he
  replace hx₁ : Ext H2 h₁ := hx₁
  replace hD : h₁.get? H2.objs.size = some (lst []) := hD
  replace hC : h₁.Ns (H2.objs.size + 1) (fun _ => none) := hC
  have hK : h₁.IsCell (H2.objs.size + 2) none := by
    have e1 : ((H2.push (lst [])).push { cls := .type "dict", data := .dict #[] }).objs.size = H2.objs.size + 2 := by rw [Heap.size_push, Heap.size_push]
    refine ⟨{ cls := .type "cell", data := .cell none }, ?_, rfl⟩
    rw [he, ← e1]
    exact Heap.get?_push_size _ rfl
  clear he
  show codeAny _ _ (.compLoop _ _ _ (.ref H2.objs.size) (compEnvC _ [(Str.ofString "number", H2.objs.size + 2)] (H2.objs.size + 1) _)) (fun r s' => r = .ok .next ∧ ∃ m, s'.heap.Ns (H2.objs.size + 1) m ∧ ∀ h', Heap.SameBut (H2.objs.size + 1) s'.heap h' → Q (.ref H2.objs.size) { s' with heap := h' }) { s with heap := h₁, toks := tk0 }
  rw [hz2] at hD hC hK ⊢
  have big : ∀ {b o}, s.heap.get? b = some o → b ≠ s.heap.objs.size + 1 ∧ b ≠ s.heap.objs.size + 2 ∧ b ≠ s.heap.objs.size + 2 + 1 ∧ b ≠ s.heap.objs.size + 2 + 2 := fun q => have z := Heap.lt_size q; ⟨Nat.ne_of_lt (Nat.lt_succ_of_lt z), Nat.ne_of_lt (Nat.lt_succ_of_lt (Nat.lt_succ_of_lt z)), Nat.ne_of_lt (Nat.lt_succ_of_lt (Nat.lt_succ_of_lt (Nat.lt_succ_of_lt z))), Nat.ne_of_lt (Nat.lt_succ_of_lt (Nat.lt_succ_of_lt (Nat.lt_succ_of_lt (Nat.lt_succ_of_lt z))))⟩
  generalize hn : s.heap.objs.size = n at *
  have nDC : n + 2 ≠ n + 2 + 1 := by omega
  have nDI : n + 2 ≠ n + 1 := by omega
  have nCI : n + 2 + 1 ≠ n + 1 := by omega
  have nKI : n + 2 + 2 ≠ n + 1 := by omega
  have nKD : n + 2 + 2 ≠ n + 2 := by omega
  have nKC : n + 2 + 2 ≠ n + 2 + 1 := by omega
  refine codeAny_compLoop_list (fun k s' => ∃ (j : Nat) (h : Heap) (tk : Nat) (m' : Str → Option Value) (ys : List Value) (cv : Option Value), s' = { s with heap := h, toks := tk } ∧ IsRangeIter h (n + 1) (j : Int) (8 - (j : Int)) 1 ∧ h.get? (n + 2) = some (lst ys) ∧ h.Ns (n + 2 + 1) m' ∧ h.IsCell (n + 2 + 2) cv ∧ Ext s.heap h ∧
    RowsAre h [n + 1, n + 2, n + 2 + 1, n + 2 + 2] ys ∧ ys.length = j ∧ j ≤ 8 ∧ k = 8 + 1 - j) ?_ (8 + 1) ⟨0, h₁, tk0, _, [], none, rfl, hx₁ _ _ hit0, hD, hC, hK, fun b o e => hx₁ b o (x2 b o e), RowsAre.nil, rfl, by omega, rfl⟩
  rintro k s' ⟨j, h, tk, m', ys, cv, rfl, hit, hD', hC', hK', hx', hy, hyl, hj, rfl⟩
  by_cases hlt : j < 8
  · refine wpAny_pyNext_range_item (s := { s with heap := h, toks := tk }) hit (by omega) fun h₂ hit₂ hs₂ => ?_
    refine wpAny_assign_Name (wpAny_storeName_cell (s := { s with heap := h₂, toks := tk + 1 }) (env := compEnvC scO [(Str.ofString "number", n + 2 + 2)] (n + 2 + 1) env) (c := n + 2 + 2) rfl rfl rfl (hK'.sameBut hs₂ nKI) (fun h₃ hK₃ hs₃ => ?_))
    have up₃ : Ext s.heap h₃ := fun b o e => (hs₃.2 b (big e).2.2.2).trans ((hs₂.2 b (big e).1).trans (hx' b o e))
    refine inner_row (s := { s with heap := h₃, toks := tk + 1 }) (env := compEnvC scO [(Str.ofString "number", n + 2 + 2)] (n + 2 + 1) env) (K := n + 2 + 2) hh hgl hbl rfl rfl (hg.keeps up₃) hmiss (hb.keeps up₃) hv rfl (by decide) rfl (by decide) rfl (fun _ => rfl) hK₃ (by omega) fun D4 h₄ tk₄ ws x₄ n₄ d₄ i₄ => ?_
    have at₃ : ∀ b o, b ≠ n + 1 → b ≠ n + 2 + 2 → h.get? b = some o → h₄.get? b = some o := fun b o e1 e2 q => x₄ b o ((hs₃.2 b e2).trans ((hs₂.2 b e1).trans q))
    have hD₄ : h₄.get? (n + 2) = some (lst ys) := at₃ _ _ nDI (Ne.symm nKD) hD'
    obtain ⟨oC, es, ep, hoC, _⟩ := id hC'
    obtain ⟨oK, hoK, _⟩ := id hK₃
    have f1 : D4 ≠ n + 1 := fun e => by rw [e] at n₄; rw [show ({ s with heap := h₃, toks := tk + 1 } : Shared).heap.get? (n + 1) = _ from (hs₃.2 _ (Ne.symm nKI)).trans hit₂] at n₄; cases n₄
    have f2 : D4 ≠ n + 2 := fun e => by rw [e] at n₄; rw [show ({ s with heap := h₃, toks := tk + 1 } : Shared).heap.get? (n + 2) = _ from (hs₃.2 _ (Ne.symm nKD)).trans ((hs₂.2 _ nDI).trans hD')] at n₄; cases n₄
    have f3 : D4 ≠ n + 2 + 1 := fun e => by rw [e] at n₄; rw [show ({ s with heap := h₃, toks := tk + 1 } : Shared).heap.get? (n + 2 + 1) = _ from (hs₃.2 _ (Ne.symm nKC)).trans ((hs₂.2 _ nCI).trans hoC)] at n₄; cases n₄
    have f4 : D4 ≠ n + 2 + 2 := fun e => by rw [e] at n₄; rw [show ({ s with heap := h₃, toks := tk + 1 } : Shared).heap.get? (n + 2 + 2) = _ from hoK] at n₄; cases n₄
    refine append_at (s := { s with heap := h₄, toks := tk₄ }) (hsz := by show ys.toArray.size ≤ sizeLine; rw [List.size_toArray, hyl, sizeLine_eq]; omega) hD₄ fun h₅ hs₅ hD₅ => ?_
    refine ⟨8 + 1 - (j + 1), by omega, j + 1, h₅, tk₄, m', ys ++ [.ref D4], _, rfl, ?_, hD₅.trans (congrArg some (lst_snoc ys _)), ?_, ((hK₃.keeps x₄).sameBut hs₅ nKD), fun b o e => (hs₅.2 b (big e).2.1).trans (x₄ b o (up₃ b o e)), ?_, by rw [List.length_append, List.length_singleton, hyl], hlt, rfl⟩
    · have e1 : ((j + 1 : Nat) : Int) = (j : Int) + 1 := by push_cast; rfl
      have e2 : (8 : Int) - ((j + 1 : Nat) : Int) = 8 - (j : Int) - 1 := by omega
      rw [e2, e1]
      exact (hs₅.2 _ (Ne.symm nDI)).trans (x₄ _ _ ((hs₃.2 _ (Ne.symm nKI)).trans hit₂))
    · exact hC'.at' fun o q => (hs₅.2 _ (Ne.symm nDC)).trans (at₃ _ o nCI (Ne.symm nKC) q)
    · refine RowsAre.snoc (hy.keep fun b o nb q => ?_) hyl ((hs₅.2 _ f2).trans d₄) i₄ (by simp [f1, f2, f3, f4])
      simp only [List.mem_cons, List.not_mem_nil, or_false, not_or] at nb
      exact (hs₅.2 _ nb.2.1).trans (at₃ b o nb.1 nb.2.2.2 q)
  · have hj8 : j = 8 := by omega
    subst hj8
    refine wpAny_pyNext_range_end (s := { s with heap := h, toks := tk }) hh hit (by omega) fun h₂ hx₂ => ?_
    refine ⟨rfl, m', hC'.at' fun o q => hx₂ _ o nCI q, fun h₃ hs₃ => ?_⟩
    refine fin (n + 2) h₃ tk ys (fun b o e => (hs₃.2 b (big e).2.2.1).trans (hx₂ b o (big e).1 (hx' b o e))) ?_ ((hs₃.2 _ nDC).trans (hx₂ _ _ nDI hD')) hyl ?_
    · cases q : s.heap.get? (n + 2) with
      | none => rfl
      | some o => exact absurd rfl (big q).2.1
    · intro q v hv
      obtain ⟨a, ws, e, ha, hi, hb⟩ := hy q v hv
      simp only [List.mem_cons, List.not_mem_nil, or_false, not_or] at hb
      exact ⟨a, ws, e, (hs₃.2 _ hb.2.2.1).trans (hx₂ _ _ hb.1 ha), hi, by simp [hb.2.1]⟩
end
end Mine
end

/-! ## GyR4 -/
section
open PySem PySem.W PyProof.Rows PyProof.Rows.LCg PySem.Calls
namespace Mine
section
variable {prog : Program} {w : World} {A : Around} {env : Env} {h : Heap}
/-- an expression that is an int at a heap, and touches nothing -/
def IntE (prog : Program) (w : World) (A : Around) (env : Env) (h : Heap) (e : Expr) (n : Int) : Prop :=
  ∀ (s : Shared) (Q : Value → Shared → Prop) (E : Value → Shared → Prop), s.heap = h → (∀ t tk, Q (.int n t) { s with toks := tk }) → wpAny (model prog w) A (eval e env) Q E s
theorem IntE.add {l r : Expr} {a b : Int} {pos : Pos} (x : IntE prog w A env h l a) (y : IntE prog w A env h r b) : IntE prog w A env h (.BinOp l .Add r pos) (a + b) := fun s Q E hs hQ => by
  show wpAny _ _ (do let a ← eval l env; let b ← holding [a] (eval r env); standAt pos; operate [a, b] (binaryOp .Add a b)) _ _ _
  refine wpAny_bind (x s _ _ hs fun t tk => wpAny_bind (wpAny_holding (y _ _ _ hs fun t' tk' => ?_)))
  exact wpAny_bind (wpAny_standAt (wpAny_operate' (PyProof.Rows.add_int (hQ _ _))))
theorem IntE.mul {l r : Expr} {a b : Int} {pos : Pos} (x : IntE prog w A env h l a) (y : IntE prog w A env h r b) (hm : IntMulOk a b) : IntE prog w A env h (.BinOp l .Mult r pos) (a * b) := fun s Q E hs hQ => by
  show wpAny _ _ (do let a ← eval l env; let b ← holding [a] (eval r env); standAt pos; operate [a, b] (binaryOp .Mult a b)) _ _ _
  refine wpAny_bind (x s _ _ hs fun t tk => wpAny_bind (wpAny_holding (y _ _ _ hs fun t' tk' => ?_)))
  exact wpAny_bind (wpAny_standAt (wpAny_operate' (PyProof.Rows.mul_int (hm := hm) (hQ _ _))))
theorem IntE.item {x : Str} {px cp pos : Pos} {kk : Nat} {k : Int} {a : Addr} {m : Str → Option Value} {ws : List Value} {ns : List Int} {n : Int} (hkind : env.scope.kind = .function) (hx : env.kindOf x = some .local) (hC : h.Ns env.locals m) (hm : m x = some (.ref a)) (ha : h.get? a = some (lst ws)) (hi : IntsAre ws ns)
    (h0 : 0 ≤ k) (hfit : k < 2 ^ 63) (hn : ns[k.toNat]? = some n) (hd : (x == ("__debug__" : Str)) = false) : IntE prog w A env h (.Subscript (.Name x px) (.Constant (.int k) kk cp) pos) n := fun s Q E hs hQ => by
  subst hs
  refine wpAny_Subscript_Constant_late (wpAny_Name (wpAny_loadName_local hkind hx hC hm ?_) hd)
  show wpAny _ _ (mkInt k) _ _ _
  refine wpAny_mkInt ⟨"list", _, slot_list_getitem.lookup, ⟨_, ha, rfl⟩, ?_⟩
  obtain ⟨t, ht⟩ : ∃ t, ws[k.toNat]? = some (.int n t) := by
    have hl := hi.length
    have hk : k.toNat < ws.length := by rw [hl]; exact (List.getElem?_eq_some_iff.mp hn).1
    obtain ⟨n', t, e, hn'⟩ := IntsAre.at hi k.toNat ws[k.toNat] (List.getElem?_eq_getElem hk)
    rw [hn] at hn'
    cases hn'
    exact ⟨t, by rw [List.getElem?_eq_getElem hk, e]⟩
  exact wpAny_getItem_list ⟨_, ha, rfl, _, rfl⟩ h0 hfit (by simpa using ht) (hQ _ _)
theorem list2 {X Y : Expr} {a b : Int} {pos : Pos} {s : Shared} {Q : Value → Shared → Prop} {E : Value → Shared → Prop} (x : IntE prog w A env s.heap X a) (y : IntE prog w A env s.heap Y b) (hs : starEach [X, Y] env = [(false, eval X env), (false, eval Y env)])
    (h : ∀ t u tk, Q (.ref s.heap.objs.size) { s with heap := s.heap.push (listOf [Value.int a t, Value.int b u].toArray 0), toks := tk }) : wpAny (model prog w) A (eval (.List [X, Y] pos) env) Q E s := by
  show wpAny _ _ (do standAt pos; newList (← spliced (backTo pos (starEach [X, Y] env)))) _ _ _
  rw [hs]
  refine wpAny_bind (wpAny_standAt (wpAny_bind ?_))
  show wpAny _ _ (spliced [(false, eval X env), (false, eval Y env)]) _ _ _
  refine Calls.spliced_cons (x s _ _ rfl fun t tk => ?_)
  refine Calls.spliced_cons (y { s with toks := tk } _ _ rfl fun t' tk' => Calls.spliced_nil ?_)
  exact wpAny_newObj_type (h t t' tk')
theorem IntE.const {n : Int} {k : Nat} {cp : Pos} : IntE prog w A env h (.Constant (.int n) k cp) n := fun s Q E hs hQ => by
  show wpAny _ _ (mkInt n) _ _ _
  exact wpAny_mkInt (hQ _ _)
theorem test_no {X Y : Expr} {a b : Int} {k1 k2 : Nat} {c1 c2 p1 p2 pos : Pos} {s : Shared} {whole : Sem Value} {Q : Bool → Shared → Prop} {E : Value → Shared → Prop} (x : IntE prog w A env s.heap X a) (y : IntE prog w A env s.heap Y b) (hs : starEach [X, Y] env = [(false, eval X env), (false, eval Y env)])
    (hu : A.units + 64 < cLine) (hab : ¬ (a = 0 ∧ b = 0)) (h : ∀ h' tk, Ext s.heap h' → Q false { s with heap := h', toks := tk }) :
    wpAny (model prog w) A (isTrue (.Compare (.List [X, Y] p1) [.Eq] [.List [.Constant (.int 0) k1 c1, .Constant (.int 0) k2 c2] p2] pos) env whole) Q E s := by
  show wpAny _ _ (do testChain pos (← eval (.List [X, Y] p1) env) [.Eq] (markedEach [.Eq] [.List [.Constant (.int 0) k1 c1, .Constant (.int 0) k2 c2] p2] (evalEach [.List [.Constant (.int 0) k1 c1, .Constant (.int 0) k2 c2] p2] env))) _ _ _
  refine wpAny_bind (list2 x y hs fun t u tk => ?_)
  show wpAny _ _ (do let rv ← holding [Value.ref s.heap.objs.size] (eval (.List [.Constant (.int 0) k1 c1, .Constant (.int 0) k2 c2] p2) env); standAt pos; let c ← operate [Value.ref s.heap.objs.size, rv] (compareOp .Eq (Value.ref s.heap.objs.size) rv); holding [c] (truthy c)) _ _ _
  refine wpAny_bind (wpAny_holding (list2 (s := { s with heap := s.heap.push (listOf [Value.int a t, Value.int b u].toArray 0), toks := tk }) IntE.const IntE.const rfl fun t2 u2 tk2 => ?_))
  refine wpAny_bind (wpAny_standAt (wpAny_bind (wpAny_operate' ?_)))
  refine ke_eq_ints (ns := [a, b]) (ms := [0, 0]) ⟨_, Heap.get?_push_of_some _ (Heap.get?_push_size _ rfl), rfl, _, rfl⟩ ⟨_, Heap.get?_push_size _ rfl, rfl, _, rfl⟩ (.cons _ _ (.cons _ _ .nil)) (.cons _ _ (.cons _ _ .nil)) hu ?_
  rw [decide_eq_false (by intro e; cases e; exact hab ⟨rfl, rfl⟩)]
  refine wpAny_holding (wpAny_pure ?_)
  exact h _ _ fun b o e => Heap.get?_push_of_some _ (Heap.get?_push_of_some _ e)
end
end Mine
end

/-! ## GyR5 -/
section
open PySem PySem.W PyProof.Rows PyProof.Rows.LCg PySem.Calls
namespace Mine
section
variable {prog : Program} {w : World} {A : Around} {s : Shared} {env : Env}
/-- the outer clause of a comprehension of two -/
theorem loop0 {elt iter0 iter1 : Expr} {x0 : Str} {p0 : Pos} {t1 : Expr} {ifs1 : List Expr} {scope : Scope} {pos : Pos} {it acc : Value} {R : Result → Shared → Prop} (I : Nat → Shared → Prop)
    (hs : ∀ x, foldedSetIterable iter1 env x = pure x)
    (turn : ∀ n s, I n s → wpAny (model prog w) A (pyNext it) (fun r s₁ => match r with
      | none => R (.ok .next) s₁
      | some v => wpAny (model prog w) A (assign (.Name x0 p0) env v) (fun _ s₂ => wpAny (model prog w) A (eval iter1 env) (fun xv s₃ => wpAny (model prog w) A (pyIter xv) (fun it' s₄ =>
          codeAny (model prog w) A (.compStart (.ListComp elt [⟨.Name x0 p0, iter0, [], 0⟩, ⟨t1, iter1, ifs1, 0⟩] scope pos) 1 it' acc env) (fun r s₅ => r = .ok .next ∧ ∃ m, m < n ∧ I m s₅) s₄) (fun _ _ => False) s₃) (fun _ _ => False) s₂) (fun _ _ => False) s₁) (fun _ _ => False) s)
    (n : Nat) (h : I n s) : codeAny (model prog w) A (.compLoop (.ListComp elt [⟨.Name x0 p0, iter0, [], 0⟩, ⟨t1, iter1, ifs1, 0⟩] scope pos) 0 it acc env) R s := by
  refine codeAny_loop rfl I (fun n s hI => ?_) n h
  show wpAny _ A ((compTurn (.ListComp elt [⟨.Name x0 p0, iter0, [], 0⟩, ⟨t1, iter1, ifs1, 0⟩] scope pos) 0 it acc env).onRaise (fun x => do noteFrame x env; theTreesLotGoes x)) _ _ s
  refine wpAny_noted ?_
  show wpAny _ A (standAt iter0.pos >>= fun _ => pyNext it >>= fun r => match r with
      | none => pure (.done .next)
      | some v => letOwnedTupleGo (.Name x0 p0) it v >>= fun _ => assign (.Name x0 p0) env v >>= fun _ =>
        (do
          let x ← eval iter1 env
          standAt iter1.pos
          let x ← foldedSetIterable iter1 env x
          let _ ← runOwn (.compStart (.ListComp elt [⟨.Name x0 p0, iter0, [], 0⟩, ⟨t1, iter1, ifs1, 0⟩] scope pos) 1 (← holding [x] (pyIter x)) acc env) env
          again (.compLoop (.ListComp elt [⟨.Name x0 p0, iter0, [], 0⟩, ⟨t1, iter1, ifs1, 0⟩] scope pos) 0 it acc env))) _ _ s
  refine wpAny_bind (wpAny_standAt (wpAny_bind (wpAny_mono (turn n s hI) (fun r s₁ h₁ => ?_) fun _ _ h' => h'.elim)))
  cases r with
  | none => exact wpAny_pure h₁
  | some v =>
    refine wpAny_bind (wpAny_pure ?_)
    refine wpAny_bind (wpAny_mono h₁ (fun _ s₂ h₂ => ?_) fun _ _ h' => h'.elim)
    refine wpAny_bind (wpAny_mono h₂ (fun xv s₃ h₃ => wpAny_bind (wpAny_standAt (wpAny_bind (wpAny_of_eq (hs xv) ?_)))) fun _ _ h' => h'.elim)
    refine wpAny_bind (wpAny_holding (wpAny_mono h₃ (fun it' s₄ h₄ => ?_) fun _ _ h' => h'.elim))
    refine wpAny_bind ?_
    unfold runOwn
    refine wpAny_onRaise (wpAny_run (codeAny_mono h₄ fun r s₅ h₅ => ?_))
    obtain ⟨rfl, m, hm, hI'⟩ := h₅
    exact wpAny_pure ⟨rfl, m, hm, hI'⟩
/-- the inner clause of a comprehension of two, its test False throughout -/
theorem loop1 {elt iter0 iter1 c1 : Expr} {x0 x1 : Str} {p0 p1 : Pos} {scope : Scope} {pos : Pos} {it acc : Value} {R : Result → Shared → Prop} (I : Nat → Shared → Prop)
    (turn : ∀ n s, I n s → wpAny (model prog w) A (pyNext it) (fun r s₁ => match r with
      | none => R (.ok .next) s₁
      | some v => wpAny (model prog w) A (assign (.Name x1 p1) env v) (fun _ s₂ => wpAny (model prog w) A (isTrue c1 env (eval c1 env)) (fun b s₃ => b = false ∧ ∃ m, m < n ∧ I m s₃) (fun _ _ => False) s₂) (fun _ _ => False) s₁) (fun _ _ => False) s)
    (n : Nat) (h : I n s) : codeAny (model prog w) A (.compLoop (.ListComp elt [⟨.Name x0 p0, iter0, [], 0⟩, ⟨.Name x1 p1, iter1, [c1], 0⟩] scope pos) 1 it acc env) R s := by
  refine codeAny_loop rfl I (fun n s hI => ?_) n h
  show wpAny _ A ((compTurn (.ListComp elt [⟨.Name x0 p0, iter0, [], 0⟩, ⟨.Name x1 p1, iter1, [c1], 0⟩] scope pos) 1 it acc env).onRaise (fun x => do noteFrame x env; theTreesLotGoes x)) _ _ s
  refine wpAny_noted ?_
  unfold compTurn
  refine wpAny_bind (wpAny_standAt (wpAny_bind (wpAny_mono (turn n s hI) (fun r s₁ h₁ => ?_) fun _ _ h' => h'.elim)))
  cases r with
  | none => exact wpAny_pure h₁
  | some v =>
    refine wpAny_bind (wpAny_pure ?_)
    refine wpAny_bind (wpAny_mono h₁ (fun _ s₂ h₂ => ?_) fun _ _ h' => h'.elim)
    show wpAny _ A (forIn [c1] true (fun c r => if r = true then (do let ok ← isTrue c env (eval c env); pure (ForInStep.yield ok)) else pure (ForInStep.yield r)) >>= fun ok => if ok = true then _ else again (.compLoop (.ListComp elt [⟨.Name x0 p0, iter0, [], 0⟩, ⟨.Name x1 p1, iter1, [c1], 0⟩] scope pos) 1 it acc env)) _ _ s₂
    refine wpAny_bind ?_
    rw [List.forIn_cons]
    simp only [if_true]
    refine wpAny_bind (wpAny_bind (wpAny_mono h₂ (fun b s₃ h₃ => ?_) fun _ _ h' => h'.elim))
    obtain ⟨rfl, m, hm, hI'⟩ := h₃
    refine wpAny_pure ?_
    dsimp only
    rw [List.forIn_nil]
    exact wpAny_pure (wpAny_pure ⟨rfl, m, hm, hI'⟩)
theorem start1 {elt t0 iter0 t1 iter1 : Expr} {ifs0 ifs1 : List Expr} {scope : Scope} {pos : Pos} {it acc : Value} {R : Result → Shared → Prop}
    (h0 : codeAny (model prog w) A (.compLoop (.ListComp elt [⟨t0, iter0, ifs0, 0⟩, ⟨t1, iter1, ifs1, 0⟩] scope pos) 1 it acc env) R s)
    (h : wpAny (model prog w) A (pyIter it) (fun it' s' => codeAny (model prog w) A (.compLoop (.ListComp elt [⟨t0, iter0, ifs0, 0⟩, ⟨t1, iter1, ifs1, 0⟩] scope pos) 1 it' acc env) R s')
      (notedBy (model prog w) A env fun x s' => R (.error x) s') s) :
    codeAny (model prog w) A (.compStart (.ListComp elt [⟨t0, iter0, ifs0, 0⟩, ⟨t1, iter1, ifs1, 0⟩] scope pos) 1 it acc env) R s := by
  refine codeAny_of_tree ?_
  show wpAny _ _ ((compStart (.ListComp elt [⟨t0, iter0, ifs0, 0⟩, ⟨t1, iter1, ifs1, 0⟩] scope pos) 1 it acc env).onRaise (fun x => do noteFrame x env; standAt theWindowsPlace)) _ _ s
  refine wpAny_notedAt ?_
  unfold compStart
  show wpAny _ _ (ask >>= _) _ _ s
  refine wpAny_bind (wpAny_askSetting (wpAny_ite ?_))
  split
  · first
      | exact wpAny_bind (wpAny_pure (wpAny_pure (And.intro rfl h0)))
      | exact wpAny_pure (And.intro rfl h0)
  · first
      | exact wpAny_bind (wpAny_rule (wpAny_bind (wpAny_standAt (wpAny_bind (wpAny_mono h (fun it' s' h' => wpAny_pure (And.intro rfl h')) fun _ _ x => x)))))
      | (refine wpAny_bind (wpAny_rule ?_); show wpAny _ _ (standAt iter1.pos >>= _) _ _ s; exact wpAny_bind (wpAny_standAt (wpAny_bind (wpAny_mono h (fun it' s' h' => wpAny_pure (And.intro rfl h')) fun _ _ x => x))))
end
end Mine
end

/-! ## GyR6 -/
section
open PySem PySem.W PyProof.Rows PyProof.Rows.LCg PySem.Calls
namespace Mine
section
variable {prog : Program} {w : World} {A : Around} {s : Shared} {env : Env} {E : Value → Shared → Prop}
/-- rows[:4], rows a cell of the block -/
theorem first_four {K RD : Addr} {ys : List Value} {k4 : Nat} {pn cp sp pos : Pos} {Q : Value → Shared → Prop} (hk : env.scope.kind = .function) (hl : env.kindOf "rows" = some .cell) (hc : env.cells.lookup ("rows" : Str) = some K) (hK : s.heap.IsCell K (some (.ref RD)))
    (hr : s.heap.get? RD = some (lst ys)) (h8 : ys.length = 8)
    (h : ∀ h' tk D, Ext s.heap h' → s.heap.get? D = none → h'.get? D = some (listOf (ys.take 4).toArray 0) → Q (.ref D) { s with heap := h', toks := tk }) :
    wpAny (model prog w) A (eval (.Subscript (.Name "rows" pn) (.Slice none (some (.Constant (.int 4) k4 cp)) none sp) pos) env) Q E s := by
  refine wpAny_Subscript_list_slice (wpAny_Name (wpAny_loadName_cell hk hl hc hK ?_) (by decide))
  rw [evalPart_none]
  refine wpAny_pure ?_
  rw [evalPart_some]
  show wpAny _ _ (mkInt 4) _ _ _
  refine wpAny_mkInt ⟨RD, ys.toArray, none, some 4, rfl, ⟨_, hr, rfl, _, rfl⟩, by rw [List.size_toArray, h8, sizeLine_eq]; omega, .none, .int _ _, ?_⟩
  have e : slicePick ys.toArray none (some 4) none = (ys.take 4).toArray := slicePick_upto ys.toArray 4 (by rw [List.size_toArray, h8]; omega)
  rw [e]
  refine h _ _ _ (fun b o q => Heap.get?_push_of_some _ (Heap.get?_push_of_some _ q)) ?_ ?_
  · cases q : s.heap.get? (s.heap.objs.size + 1) with
    | none => rfl
    | some o => exact absurd (Heap.lt_size q) (Nat.not_lt.mpr (Nat.le_succ _))
  · have e2 : (s.heap.push { cls := .type "slice", data := .fields #[.none, .int 4 s.toks, .none] }).objs.size = s.heap.objs.size + 1 := Heap.size_push ..
    show Heap.get? _ (s.heap.objs.size + 1) = _
    rw [← e2]
    exact Heap.get?_push_size (o := listOf (ys.take 4).toArray 0) _ rfl
end
end Mine
end

/-! ## GyR7 -/
section
open PySem PySem.W PyProof.Rows PyProof.Rows.LCg PySem.Calls
namespace Mine
section
variable {prog : Program} {w : World} {A : Around} {s : Shared} {env : Env}
/-- one left row against the first four: none goes in -/
theorem inner_pairs {elt iter0 iter1 c1 : Expr} {x0 : Str} {p0 p1 : Pos} {scope : Scope} {pos : Pos} {acc : Value} {R : Result → Shared → Prop} {D4 lf : Addr} {vs : List Value} {m : Str → Option Value} (hh : A.handled = none)
    (hx : env.kindOf "right" = some .local) (hp : (env.scope.kind == .class || (env.scope.kind == .module && env.locals != env.globals)) = false)
    (hD : s.heap.get? D4 = some (listOf vs.toArray 0)) (hDL : D4 ≠ env.locals) (hC : s.heap.Ns env.locals m) (hm : m "left" = some (.ref lf))
    (test : ∀ (j : Nat) v (s' : Shared) (Q : Bool → Shared → Prop) m', vs[j]? = some v → (∀ b o, b ≠ env.locals → s.heap.get? b = some o → s'.heap.get? b = some o) → s'.heap.Ns env.locals m' → m' "left" = some (.ref lf) → m' "right" = some v → (∀ h' tk, Ext s'.heap h' → Q false { s' with heap := h', toks := tk }) →
      wpAny (model prog w) A (isTrue c1 env (eval c1 env)) Q (fun _ _ => False) s')
    (fin : ∀ h tk m', (∀ b o, b ≠ env.locals → s.heap.get? b = some o → h.get? b = some o) → h.Ns env.locals m' → R (.ok .next) { s with heap := h, toks := tk }) :
    wpAny (model prog w) A (pyIter (.ref D4)) (fun it' s₄ => codeAny (model prog w) A (.compStart (.ListComp elt [⟨.Name x0 p0, iter0, [], 0⟩, ⟨.Name "right" p1, iter1, [c1], 0⟩] scope pos) 1 it' acc env) R s₄) (fun _ _ => False) s := by
  have hls : s.heap.IsList D4 vs.toArray := ⟨_, hD, rfl, _, rfl⟩
  refine wpAny_pyIter_list hls ?_
  have hI0 : (s.heap.push { cls := .type "list_iterator", data := .fields #[.ref D4, .int 0 0] }).IsListIter s.heap.objs.size D4 0 := ⟨_, Heap.get?_push_size _ rfl, rfl, rfl⟩
  have x1 : Ext s.heap (s.heap.push { cls := .type "list_iterator", data := .fields #[.ref D4, .int 0 0] }) := fun b o e => Heap.get?_push_of_some _ e
  have new : ∀ b o, s.heap.get? b = some o → b ≠ s.heap.objs.size := fun b o q => Nat.ne_of_lt (Heap.lt_size q)
  have hLI : env.locals ≠ s.heap.objs.size := Nat.ne_of_lt hC.lt
  generalize s.heap.push { cls := .type "list_iterator", data := .fields #[.ref D4, .int 0 0] } = H at hI0 x1 ⊢
  generalize s.heap.objs.size = I at hI0 new hLI ⊢
  have loop : ∀ tk, codeAny (model prog w) A (.compLoop (.ListComp elt [⟨.Name x0 p0, iter0, [], 0⟩, ⟨.Name "right" p1, iter1, [c1], 0⟩] scope pos) 1 (.ref I) acc env) R { s with heap := H, toks := tk } := fun tk0 => by
    refine loop1 (fun k s' => ∃ (j : Nat) (h : Heap) (tk : Nat) (m' : Str → Option Value), s' = { s with heap := h, toks := tk } ∧ h.IsListIter I D4 j ∧ h.Ns env.locals m' ∧ m' "left" = some (.ref lf) ∧ (∀ b o, b ≠ env.locals → s.heap.get? b = some o → h.get? b = some o) ∧ j ≤ vs.length ∧ k = vs.length + 1 - j) ?_ (vs.length + 1)
      ⟨0, H, tk0, m, rfl, hI0, hC.at' fun o q => x1 _ o q, hm, fun b o _ q => x1 b o q, Nat.zero_le _, rfl⟩
    rintro k s' ⟨j, h, tk, m', rfl, hit, hC', hm', hk, hj, rfl⟩
    have hl' : h.IsList D4 vs.toArray := ⟨_, hk _ _ hDL hD, rfl, _, rfl⟩
    by_cases hlt : j < vs.length
    · have hv : vs.toArray[j]? = some vs[j] := by simp [hlt]
      refine wpAny_pyNext_list_item (s := { s with heap := h, toks := tk }) hit hl' hv fun h₂ hit₂ hs₂ => ?_
      refine wpAny_assign_Name (wpAny_storeName_local hx (hC'.sameBut hs₂ hLI) (fun h₃ hC₃ hs₃ => ?_) hp)
      have up₃ : ∀ b o, b ≠ env.locals → s.heap.get? b = some o → h₃.get? b = some o := fun b o hb q => (hs₃.2 b hb).trans ((hs₂.2 b (new b o q)).trans (hk b o hb q))
      refine test j vs[j] { s with heap := h₃, toks := tk + 1 } _ _ (by simp [hlt]) up₃ hC₃ (by rw [if_neg (by decide)]; exact hm') (by rw [if_pos rfl]) fun h₄ tk₄ x₄ => ?_
      obtain ⟨oI, hoI, r⟩ := hit₂
      exact ⟨rfl, vs.length + 1 - (j + 1), by omega, j + 1, h₄, tk₄, _, rfl, ⟨oI, x₄ _ _ ((hs₃.2 _ (Ne.symm hLI)).trans hoI), r⟩, hC₃.at' fun o q => x₄ _ o q, by rw [if_neg (by decide)]; exact hm', fun b o hb q => x₄ b o (up₃ b o hb q), hlt, rfl⟩
    · have hje : j = vs.length := by omega
      subst hje
      refine wpAny_pyNext_list_end (s := { s with heap := h, toks := tk }) hh hit hl' (by simp) fun h₂ hx₂ => ?_
      exact fin h₂ tk m' (fun b o hb q => hx₂ b o (new b o q) (hk b o hb q)) (hC'.at' fun o q => hx₂ _ o hLI q)
  exact start1 (loop _) (wpAny_pyIter_listiter (s := { s with heap := H }) hI0 (loop _))
end
end Mine
end

/-! ## GyR8 -/
section
open PySem PySem.W PyProof.Rows PyProof.Rows.LCg PySem.Calls
namespace Mine
def g3 (ns : List Int) (k : Nat) : Int := ns.getD k 0
theorem rowN_pm : ∀ q : Nat, q < 8 → ∀ k : Nat, k < 3 → g3 (rowN q) k = 1 ∨ g3 (rowN q) k = -1 := by decide +kernel
theorem rowN_get {q k : Nat} (hk : k < 3) : (rowN q)[k]? = some (g3 (rowN q) k) := by
  have : k = 0 ∨ k = 1 ∨ k = 2 := by omega
  rcases this with rfl | rfl | rfl <;> rfl
theorem no_pair : ∀ q : Nat, q < 8 → ∀ p : Nat, p < 4 → ¬ (g3 (rowN q) 0 * g3 (rowN q) 1 + g3 (rowN q) 1 * g3 (rowN q) 2 + g3 (rowN p) 0 * g3 (rowN p) 1 + g3 (rowN p) 1 * g3 (rowN p) 2 = 0 ∧ g3 (rowN q) 0 * g3 (rowN q) 2 + g3 (rowN p) 0 * g3 (rowN p) 2 = 0) := by decide +kernel
abbrev scR : Scope := { kind := .function, names := [(Str.ofString ".0", .local), (Str.ofString "left", .local), (Str.ofString "right", .local), (Str.ofString "rows", .free)], isGenerator := false, isCoroutine := false, more := [] }
section
variable {prog : Program} {w : World} {A : Around} {s : Shared} {env : Env} {E : Value → Shared → Prop}
theorem pairs {K RD : Addr} {ys : List Value} {bad : List Addr} {iter0 elt : Expr} {k4 : Nat} {X Y : Expr} {ka kb : Nat} {ca cb pa pb cpos p0 p1 pn cp sp spos pos ipos : Pos} {Q : Value → Shared → Prop} (hh : A.handled = none) (hu : A.units + 64 < cLine)
    (hk : env.scope.kind = .function) (hclos : closureFor scR env = pure [(("rows" : Str), K)]) (hkr : ∀ C, (compEnvC scR [("rows", K)] C env).kindOf "rows" = some .cell) (hs : ∀ x, foldedSetIterable iter0 env x = pure x)
    (hK : s.heap.IsCell K (some (.ref RD))) (hr : s.heap.get? RD = some (lst ys)) (h8 : ys.length = 8) (hrows : RowsAre s.heap bad ys)
    (hX : ∀ C h a b q p m, q < 8 → p < 4 → h.Ns C m → m "left" = some (.ref a) → m "right" = some (.ref b) → (∃ ws, h.get? a = some (lst ws) ∧ IntsAre ws (rowN (q : Nat))) → (∃ ws, h.get? b = some (lst ws) ∧ IntsAre ws (rowN (p : Nat))) →
      IntE prog w A (compEnvC scR [("rows", K)] C env) h X (g3 (rowN (q : Nat)) 0 * g3 (rowN q) 1 + g3 (rowN q) 1 * g3 (rowN q) 2 + g3 (rowN (p : Nat)) 0 * g3 (rowN p) 1 + g3 (rowN p) 1 * g3 (rowN p) 2) ∧
      IntE prog w A (compEnvC scR [("rows", K)] C env) h Y (g3 (rowN (q : Nat)) 0 * g3 (rowN q) 2 + g3 (rowN (p : Nat)) 0 * g3 (rowN p) 2))
    (hst : ∀ C, starEach [X, Y] (compEnvC scR [("rows", K)] C env) = [(false, eval X (compEnvC scR [("rows", K)] C env)), (false, eval Y (compEnvC scR [("rows", K)] C env))])
    (fin : ∀ D h tk, Ext s.heap h → h.get? D = some (lst []) → Q (.ref D) { s with heap := h, toks := tk }) :
    wpAny (model prog w) A (comprehension (.ListComp elt [⟨.Name "left" p0, iter0, [], 0⟩, ⟨.Name "right" p1, .Subscript (.Name "rows" pn) (.Slice none (some (.Constant (.int 4) k4 cp)) none sp) spos, [.Compare (.List [X, Y] pa) [.Eq] [.List [.Constant (.int 0) ka ca, .Constant (.int 0) kb cb] pb] cpos], 0⟩] scR pos) scR env ipos (newList []) false (pure (.ref RD))) Q E s := by
  have hls : s.heap.IsList RD ys.toArray := ⟨_, hr, rfl, _, rfl⟩
  refine comp_base hclos (by decide) rfl (by decide) hs (wpAny_pyIter_list hls ?_)
  have hI0 : (s.heap.push { cls := .type "list_iterator", data := .fields #[.ref RD, .int 0 0] }).IsListIter s.heap.objs.size RD 0 := ⟨_, Heap.get?_push_size _ rfl, rfl, rfl⟩
  have x1 : Ext s.heap (s.heap.push { cls := .type "list_iterator", data := .fields #[.ref RD, .int 0 0] }) := fun b o e => Heap.get?_push_of_some _ e
  have hz1 : (s.heap.push { cls := .type "list_iterator", data := .fields #[.ref RD, .int 0 0] }).objs.size = s.heap.objs.size + 1 := Heap.size_push ..
  generalize s.heap.push { cls := .type "list_iterator", data := .fields #[.ref RD, .int 0 0] } = H at hI0 x1 hz1 ⊢
  refine ⟨s.heap.objs.size, rfl, fun s' Q' E' hx' hq => wpAny_pyIter_listiter (hI0.at fun o q => hx' _ o q) hq, fun h₁ hx₁ hD hC => ?_⟩
  replace hx₁ : Ext H h₁ := hx₁
  replace hD : h₁.get? H.objs.size = some (lst []) := hD
  replace hC : h₁.Ns (H.objs.size + 1) (fun _ => none) := hC
  show codeAny _ _ (.compLoop _ _ _ (.ref H.objs.size) (compEnvC _ _ (H.objs.size + 1) _)) (fun r s' => r = .ok .next ∧ ∃ m, s'.heap.Ns (H.objs.size + 1) m ∧ ∀ h', Heap.SameBut (H.objs.size + 1) s'.heap h' → Q (.ref H.objs.size) { s' with heap := h' }) { s with heap := h₁ }
  rw [hz1] at hD hC ⊢
  have big : ∀ {b o}, s.heap.get? b = some o → b ≠ s.heap.objs.size ∧ b ≠ s.heap.objs.size + 1 ∧ b ≠ s.heap.objs.size + 1 + 1 := fun q => have z := Heap.lt_size q; ⟨Nat.ne_of_lt z, Nat.ne_of_lt (Nat.lt_succ_of_lt z), Nat.ne_of_lt (Nat.lt_succ_of_lt (Nat.lt_succ_of_lt z))⟩
  generalize s.heap.objs.size = n at *
  have nID : n ≠ n + 1 := by omega
  have nIC : n ≠ n + 1 + 1 := by omega
  have nDC : n + 1 ≠ n + 1 + 1 := by omega
  refine loop0 (env := compEnvC scR [("rows", K)] (n + 1 + 1) env) (fun k s' => ∃ (i : Nat) (h : Heap) (tk : Nat) (m' : Str → Option Value), s' = { s with heap := h, toks := tk } ∧ h.IsListIter n RD i ∧ h.get? (n + 1) = some (lst []) ∧ h.Ns (n + 1 + 1) m' ∧ Ext s.heap h ∧ i ≤ 8 ∧ k = 8 + 1 - i) (fun _ => rfl) ?_ (8 + 1)
    ⟨0, h₁, s.toks, _, rfl, hI0.at fun o q => hx₁ _ o q, hD, hC, fun b o q => hx₁ b o (x1 b o q), by omega, rfl⟩
  rintro k s' ⟨i, h, tk, m', rfl, hit, hD', hC', hx', hi, rfl⟩
  have hl' : h.IsList RD ys.toArray := hls.at fun o q => hx' _ o q
  by_cases hlt : i < 8
  · have hv : ys.toArray[i]? = some (ys[i]'(by omega)) := by simp [h8, hlt]
    obtain ⟨a, ws, hya, ha, hwi, _⟩ := hrows i (ys[i]'(by omega)) (by simp [h8, hlt])
    refine wpAny_pyNext_list_item (s := { s with heap := h, toks := tk }) hit hl' hv fun h₂ hit₂ hs₂ => ?_
    refine wpAny_assign_Name (wpAny_storeName_local (env := compEnvC scR [("rows", K)] (n + 1 + 1) env) (lookup_relabel_local rfl) (hC'.sameBut hs₂ (Ne.symm nIC)) (fun h₃ hC₃ hs₃ => ?_) rfl)
    have up₃ : Ext s.heap h₃ := fun b o q => (hs₃.2 b (big q).2.2).trans ((hs₂.2 b (big q).1).trans (hx' b o q))
    have hD₃ : h₃.get? (n + 1) = some (lst []) := (hs₃.2 _ nDC).trans ((hs₂.2 _ (Ne.symm nID)).trans hD')
    obtain ⟨oI, hoI, rI⟩ := id hit₂
    have hI₃ : h₃.get? n = some oI := (hs₃.2 _ nIC).trans hoI
    refine first_four (s := { s with heap := h₃, toks := tk + 1 }) (env := compEnvC scR [("rows", K)] (n + 1 + 1) env) rfl (hkr _) (by simp [compEnvC]) (hK.keeps up₃) (up₃ _ _ hr) h8 fun h₄ tk₄ D4 x₄ n₄ d₄ => ?_
    have hC₄ : h₄.Ns (n + 1 + 1) _ := hC₃.at' fun o q => x₄ _ o q
    have hD4C : D4 ≠ n + 1 + 1 := fun e => by
      obtain ⟨oC, es, ep, hoC, _⟩ := id hC₃
      rw [e] at n₄
      have : h₃.get? (n + 1 + 1) = none := n₄
      exact absurd (this.symm.trans hoC) (fun z => nomatch z)
    refine inner_pairs (s := { s with heap := h₄, toks := tk₄ }) (env := compEnvC scR [("rows", K)] (n + 1 + 1) env) (lf := a) hh (lookup_relabel_local rfl) rfl d₄ hD4C hC₄ (by rw [if_pos rfl, hya]) ?_ ?_
    · intro j v s' Q' m'' hjv hkeep hCs hml hmr hq
      have hj4 : j < 4 := by
        rcases Nat.lt_or_ge j 4 with h | h
        · exact h
        · rw [List.getElem?_eq_none (by rw [List.length_take, h8]; exact h)] at hjv; cases hjv
      have hyj : ys[j]? = some v := by rw [List.getElem?_take] at hjv; simpa [hj4] using hjv
      obtain ⟨b, us, rfl, hb, hui, _⟩ := hrows j v hyj
      have up' : Ext s.heap s'.heap := fun c o q => hkeep c o (big q).2.2 (x₄ c o (up₃ c o q))
      obtain ⟨iX, iY⟩ := hX (n + 1 + 1) s'.heap a b i j m'' hlt hj4 hCs hml hmr ⟨ws, up' _ _ ha, hwi⟩ ⟨us, up' _ _ hb, hui⟩
      exact test_no iX iY (hst _) hu (no_pair i hlt j hj4) hq
    · intro h₅ tk₅ m₅ k₅ hC₅
      exact ⟨rfl, 8 + 1 - (i + 1), by omega, i + 1, h₅, tk₅, m₅, rfl, ⟨oI, k₅ _ _ nIC (x₄ _ _ hI₃), rI⟩, k₅ _ _ nDC (x₄ _ _ hD₃), hC₅, fun c o q => k₅ c o (big q).2.2 (x₄ c o (up₃ c o q)), hlt, rfl⟩
  · have hi8 : i = 8 := by omega
    subst hi8
    refine wpAny_pyNext_list_end (s := { s with heap := h, toks := tk }) hh hit hl' (by simp [h8]) fun h₂ hx₂ => ?_
    refine ⟨rfl, m', hC'.at' fun o q => hx₂ _ o (Ne.symm nIC) q, fun h₃ hs₃ => ?_⟩
    exact fin (n + 1) h₃ tk (fun b o q => (hs₃.2 b (big q).2.2).trans (hx₂ b o (big q).1 (hx' b o q))) ((hs₃.2 _ nDC).trans (hx₂ _ _ (Ne.symm nID) hD'))
end
end Mine
end

/-! ## GyG -/
section
open PySem PySem.W PyProof.Rows PyProof.Rows.LCg PySem.Calls
namespace Mine
section
variable {prog : Program} {w : World} {A : Around} {s : Shared} {env : Env} {h : Heap}
theorem pm_fits {a b : Int} (x : a = 1 ∨ a = -1) (y : b = 1 ∨ b = -1) : IntMulOk a b := by
  rcases x with rfl | rfl <;> rcases y with rfl | rfl <;> mul_fits
theorem item_at {x : Str} {px cp pos : Pos} {kk : Nat} {k : Int} {a : Addr} {m : Str → Option Value} {q : Nat} (hkind : env.scope.kind = .function) (hx : env.kindOf x = some .local) (hC : h.Ns env.locals m) (hm : m x = some (.ref a)) (ha : ∃ ws, h.get? a = some (lst ws) ∧ IntsAre ws (rowN (q : Nat)))
    (h0 : 0 ≤ k) (hfit : k < 3) (hd : (x == ("__debug__" : Str)) = false) : IntE prog w A env h (.Subscript (.Name x px) (.Constant (.int k) kk cp) pos) (g3 (rowN q) k.toNat) := by
  obtain ⟨ws, ha, hi⟩ := ha
  exact IntE.item hkind hx hC hm ha hi h0 (by omega) (rowN_get (by omega)) hd
/-- the law's last two statements -/
theorem law_tail {K : Addr} {mg mb : Str → Option Value} {Q : Flow → Shared → Prop} {E : Value → Shared → Prop} {elt : Expr} {k1 k2 k3 k6 k7 k8 : Nat} {c1 c2 c3 c6 c7 c8 pn pk q1 q2 q3 q4 q5 px pr cpos pos px2 pr2 cpos2 pos2 pA pA2 : Pos} {k4 ka kb : Nat} {iter0p p0 p1 pn4 cp4 sp4 spos4 pa pb ca cb cpos4 pos4 pe pc pret : Pos}
    {m00 m01 m02 m03 m04 m05 m06 m07 m08 m09 m10 m11 : Nat} {a00 a01 a02 a03 a04 a05 a06 a07 a08 a09 a10 a11 a12 a13 a14 a15 a16 a17 a18 a19 a20 a21 a22 a23 a24 a25 a26 a27 a28 a29 a30 a31 a32 a33 a34 a35 a36 a37 a38 a39 a40 a41 a42 a43 a44 a45 : Pos} (hsw : swapsWithSole [.Name "rows" pA] (.ListComp (.ListComp (.BinOp (.Constant (.int 1) k1 c1) .Sub (.BinOp (.Constant (.int 2) k2 c2) .Mult (.BinOp (.BinOp (.Name "number" pn) .FloorDiv (.BinOp (.Constant (.int 2) k3 c3) .Pow (.Name "k" pk) q5) q4) .Mod (.Constant (.int 2) k6 c6) q3) q2) q1)
        [⟨.Name "k" px, .Call (.Name "range" pr) [.Constant (.int 3) k7 c7] [] cpos, [], 0⟩] scI pos) [⟨.Name "number" px2, .Call (.Name "range" pr2) [.Constant (.int 8) k8 c8] [] cpos2, [], 0⟩] scO pos2) pA2.line env = pure false)
    (hh : A.handled = none) (hu : A.units + 64 < cLine)
    (hgl : env.globals = mainGlobals) (hbl : env.builtins = builtinsNs) (hk : env.scope.kind = .function) (hx : env.kindOf "range" = some .globalImplicit)
    (hg : s.heap.Ns mainGlobals mg) (hmiss : mg "range" = none) (hb : s.heap.Ns builtinsNs mb) (hv : mb "range" = some (.type "range"))
    (hrows : env.kindOf "rows" = some .cell) (hcell : env.cells.lookup ("rows" : Str) = some K) (hclos : closureFor scR env = pure [(("rows" : Str), K)]) (hkr : ∀ C, (compEnvC scR [("rows", K)] C env).kindOf "rows" = some .cell) (hK : s.heap.IsCell K none)
    (fin : ∀ h tk, (∀ b o, b ≠ K → s.heap.get? b = some o → h.get? b = some o) → Q (.ret (.bool true)) { s with heap := h, toks := tk }) :
    wpS (model prog w) A (execs [
      .Assign [.Name "rows" pA] (.ListComp (.ListComp (.BinOp (.Constant (.int 1) k1 c1) .Sub (.BinOp (.Constant (.int 2) k2 c2) .Mult (.BinOp (.BinOp (.Name "number" pn) .FloorDiv (.BinOp (.Constant (.int 2) k3 c3) .Pow (.Name "k" pk) q5) q4) .Mod (.Constant (.int 2) k6 c6) q3) q2) q1)
        [⟨.Name "k" px, .Call (.Name "range" pr) [.Constant (.int 3) k7 c7] [] cpos, [], 0⟩] scI pos) [⟨.Name "number" px2, .Call (.Name "range" pr2) [.Constant (.int 8) k8 c8] [] cpos2, [], 0⟩] scO pos2) pA2,
      .Return (some (.Compare (.ListComp elt [⟨.Name "left" p0, .Name "rows" iter0p, [], 0⟩, ⟨.Name "right" p1, .Subscript (.Name "rows" pn4) (.Slice none (some (.Constant (.int 4) k4 cp4)) none sp4) spos4, [.Compare (.List
        [.BinOp (.BinOp (.BinOp (.BinOp (.Subscript (.Name "left" a00) (.Constant (.int 0) m00 a01) a02) .Mult (.Subscript (.Name "left" a03) (.Constant (.int 1) m01 a04) a05) a06) .Add (.BinOp (.Subscript (.Name "left" a07) (.Constant (.int 1) m02 a08) a09) .Mult (.Subscript (.Name "left" a10) (.Constant (.int 2) m03 a11) a12) a13) a14) .Add
            (.BinOp (.Subscript (.Name "right" a15) (.Constant (.int 0) m04 a16) a17) .Mult (.Subscript (.Name "right" a18) (.Constant (.int 1) m05 a19) a20) a21) a22) .Add (.BinOp (.Subscript (.Name "right" a23) (.Constant (.int 1) m06 a24) a25) .Mult (.Subscript (.Name "right" a26) (.Constant (.int 2) m07 a27) a28) a29) a30,
         .BinOp (.BinOp (.Subscript (.Name "left" a31) (.Constant (.int 0) m08 a32) a33) .Mult (.Subscript (.Name "left" a34) (.Constant (.int 2) m09 a35) a36) a37) .Add (.BinOp (.Subscript (.Name "right" a38) (.Constant (.int 0) m10 a39) a40) .Mult (.Subscript (.Name "right" a41) (.Constant (.int 2) m11 a42) a43) a44) a45] pa) [.Eq] [.List [.Constant (.int 0) ka ca, .Constant (.int 0) kb cb] pb] cpos4], 0⟩] scR pos4) [.Eq] [.List [] pe] pc)) pret] env) Q E s := by
  refine S_execs_cons (S_AssignName (S_any (outer_rows hh hgl hbl hk hx hg hmiss hb hv fun D h₁ tk₁ ys x₁ n₁ d₁ l₁ r₁ => ?_)) hsw)
  have hKD : K ≠ D := fun e => by
    obtain ⟨o, ho, _⟩ := hK
    rw [e] at ho
    exact absurd (n₁.symm.trans ho) (fun z => nomatch z)
  have hK₁ : h₁.IsCell K none := hK.keeps x₁
  refine wpAny_storeName_cell (s := { s with heap := h₁, toks := tk₁ }) hk hrows hcell hK₁ fun h₂ hK₂ hs₂ => ?_
  have d₂ : h₂.get? D = some (lst ys) := (hs₂.2 _ hKD.symm).trans d₁
  have r₂ : RowsAre h₂ [D] ys := fun q v hv => by
    obtain ⟨a, ws, e, ha, hi, hb⟩ := r₁ q v hv
    refine ⟨a, ws, e, (hs₂.2 a fun e => ?_).trans ha, hi, hb⟩
    obtain ⟨o, ho, hd⟩ := hK₁
    rw [← e] at ho
    have := ho.symm.trans ha
    cases this
    cases hd
  have up₂ : ∀ b o, b ≠ K → s.heap.get? b = some o → h₂.get? b = some o := fun b o e q => (hs₂.2 b e).trans (x₁ b o q)
  refine S_execs_cons (S_Return (S_any (wpAny_Compare1 ?_)))
  refine any_ListComp ?_
  refine wpAny_Name (wpAny_loadName_cell hk hrows hcell hK₂ ?_) (by decide)
  refine pairs (s := { s with heap := h₂, toks := tk₁ }) hh hu hk hclos hkr (fun _ => rfl) hK₂ d₂ l₁ r₂ ?_ (fun _ => rfl) fun D₃ h₃ tk₃ x₃ d₃ => ?_
  · intro C h a b q p m hq hp hC hl hr hA hB
    have L0 := rowN_pm q hq
    have R0 := rowN_pm p (by omega)
    have iL : ∀ {k kk px cp pos}, 0 ≤ k → k < 3 → IntE prog w A (compEnvC scR [("rows", K)] C env) h (.Subscript (.Name "left" px) (.Constant (.int k) kk cp) pos) (g3 (rowN q) k.toNat) := fun h0 h3 => item_at rfl (lookup_relabel_local rfl) hC hl hA h0 h3 (by decide)
    have iR : ∀ {k kk px cp pos}, 0 ≤ k → k < 3 → IntE prog w A (compEnvC scR [("rows", K)] C env) h (.Subscript (.Name "right" px) (.Constant (.int k) kk cp) pos) (g3 (rowN p) k.toNat) := fun h0 h3 => item_at rfl (lookup_relabel_local rfl) hC hr hB h0 h3 (by decide)
    have f0 : (0 : Int) ≤ 0 := by decide
    have f1 : (0 : Int) ≤ 1 := by decide
    have f2 : (0 : Int) ≤ 2 := by decide
    have e0 : (0 : Int) < 3 := by decide
    have e1 : (1 : Int) < 3 := by decide
    have e2 : (2 : Int) < 3 := by decide
    have z0 := L0 0 (by decide)
    have z1 := L0 1 (by decide)
    have z2 := L0 2 (by decide)
    have y0 := R0 0 (by decide)
    have y1 := R0 1 (by decide)
    have y2 := R0 2 (by decide)
    exact ⟨IntE.add (IntE.add (IntE.add (IntE.mul (iL f0 e0) (iL f1 e1) (pm_fits z0 z1)) (IntE.mul (iL f1 e1) (iL f2 e2) (pm_fits z1 z2))) (IntE.mul (iR f0 e0) (iR f1 e1) (pm_fits y0 y1))) (IntE.mul (iR f1 e1) (iR f2 e2) (pm_fits y1 y2)),
      IntE.add (IntE.mul (iL f0 e0) (iL f2 e2) (pm_fits z0 z2)) (IntE.mul (iR f0 e0) (iR f2 e2) (pm_fits y0 y2))⟩
  · show wpAny _ _ (do standAt pe; newList (← spliced (backTo pe (starEach [] env)))) _ _ _
    refine wpAny_bind (wpAny_standAt (wpAny_bind ?_))
    show wpAny _ _ (spliced []) _ _ _
    refine Calls.spliced_nil (wpAny_newObj_type ?_)
    refine ke_eq_ints (ns := []) (ms := []) ⟨_, Heap.get?_push_of_some _ d₃, rfl, _, rfl⟩ ⟨_, Heap.get?_push_size _ rfl, rfl, _, rfl⟩ .nil .nil hu ?_
    refine fin _ _ fun b o e q => Heap.get?_push_of_some _ (x₃ b o (up₂ b o e q))
end
end Mine
end

/-! ## GyF -/
section
open PySem PySem.W PyProof.Rows PySem.Calls
namespace Mine
section
local macro_rules | `(tactic| walk_at "call ref") => `(tactic| ((with_reducible show wpAny _ _ (call (Value.ref _) _ _) _ _ _); refine Hold.out ?_))
local macro_rules | `(tactic| walk_at "compareOp NotEq ref ref") => `(tactic| refine Hold.out ?_)
local macro_rules | `(tactic| walk_at "pyIter ref") => `(tactic| ((with_reducible show wpAny _ _ (pyIter (Value.ref _)) _ _ _); refine Hold.out ?_))
set_option maxHeartbeats 4000000 in
theorem tt : PySem.Challenge.rw_gy0001_01.Holds := hd (by
  k_fill
  intro w s₀ s₁ mg mb G Y fa o pm cd doc dV kV ho hd hcd hD hmg hg args vals as hpre hlay hrd hwl hlo
  have KX := kIn_of Y
  have X := (Ground.X G).1
  have V := (Ground.X G).2
  try w_nolog (first | (have GL := glob_more (Ground.glob G (by first | k_qdec | decide +kernel) (by first | k_qdec | decide +kernel)) V) | (have GL := glob_more (Ground.glob G (by decide +kernel)) V))
  refine Ground.open G ?_
  intro T B D TE TW
  try (refine guard_noD D (by decide +kernel) ?_; clear D)
  obtain ⟨_, _, M⟩ := bmod_of_top T
  have TA := at_of_top T
  try (obtain ⟨_, _, he, B0⟩ := based_of_top T rfl hmg ho hd; have he' : cd = _ := he; subst he'; clear he)
  clear hmg
  wrow_args hpre hlay hrd hwl hlo
  rename_i nsS hs0 hlay0 hL0 hr1 hl2 as5 as4 lS vsS as1 hL ra w1 r0 hI hr hc1 hc2
  refine guard_walk (endS hg (raisesW_false (by wrow_none_raised)) (by wrow_post) ?_)
  w_top on
  have K0 := below_caller (Top.heap T)
  have he := Dflts.none hD rfl; subst he; have he := Dflts.noKw hD; subst he
  refine S_call_cellsN (by decide) ho (fd_plain hd) (Top.nolimit T) hcd rfl (kinds_of (by kinds_ok)) (by decide) fun h₁ tk₁ cells F N0 X0 => ?_
  cells_open X0
  rename_i oC hC0
  clear hd TA
  k_drop
  rename News _ _ _ _ => N00
  refine S_mono (E := fun _ _ => False) ?_ (fun _ _ x => x) fun _ _ x => x.elim
  refine S_execs_cons (S_any ?_)
  k_steps
  dsimp only
  rename Fr _ _ _ _ => kF
  rename News _ _ _ _ => kN
  obtain ⟨DX, oX, mX, la, lb, ca, cb, ta, tb, FX, NX, e1, e2, e3⟩ : ∃ (DX : Addr) (oX : Obj) (mX : Str → Option Value) (la lb : Addr) (ca cb : Nat) (ta tb : Tok), Fr s₁.heap s₁.heap.objs.size _ mX ∧
      News s₁.heap s₁.heap.objs.size _ ((DX, oX) :: (lb, listOf [Value.int 1 tb].toArray cb) :: (la, listOf [Value.int 1 ta].toArray ca) :: [(s₁.heap.objs.size + 1, oC)]) ∧ mX "one" = some (.ref la) ∧ mX "other" = some (.ref lb) ∧ mX "script" = some (.ref lS) :=
    ⟨_, _, _, _, _, _, _, _, _, kF, kN, by rfl, by rfl, by rfl⟩
  clear kF kN
  have FZ := fr_ovl3 FX e3 e1 e2
  have NZ := cb_drop (news := (la, listOf [Value.int 1 ta].toArray ca) :: (lb, listOf [Value.int 1 tb].toArray cb) :: [(s₁.heap.objs.size + 1, oC)]) NX (by kcj_all)
  clear FX NX
  refine S_execs_cons ?_
  refine S_For_list (h₀ := s₁.heap) (fun vs => IntsAre vs (nsS.take 3)) (fun i m nx => ∃ l1 vs1 c1 l2 vs2 c2, nx = (l1, listOf vs1.toArray c1) :: (l2, listOf vs2.toArray c2) :: [(s₁.heap.objs.size + 1, oC)] ∧ IntsAre vs1 (stR ((List.map (fun k => Int.fmod k 3) (nsS.take 3)).take i)).1 ∧ IntsAre vs2 (stR ((List.map (fun k => Int.fmod k 3) (nsS.take 3)).take i)).2 ∧ m "one" = some (.ref l1) ∧ m "other" = some (.ref l2)) rfl rfl rfl (S_any ?_) ?_ ?_
  · k_steps
    unfold Hold
    rename Fr _ _ _ _ => kF
    rename News _ _ _ _ => kN
    rename IntsAre _ (List.take 3 nsS) => kI
    exact ⟨_, _, 0, _, _, _, _, kI, rfl, rfl, kF, kN, _, _, _, _, _, _, rfl, .cons _ _ .nil, .cons _ _ .nil, by rfl, by rfl⟩
  · clear FZ NZ e1 e2 e3
    rintro vs i v m₁ nx I it l nn h tk hV hv ⟨l1, vs1, c1, l2, vs2, c2, rfl, hi1, hi2, e1, e2⟩ hic off F N
    obtain ⟨k, t, rfl, hk⟩ := IntsAre.at hV i v hv
    generalize hrs : (List.map (fun k => Int.fmod k 3) (nsS.take 3)).take i = rs at hi1 hi2
    have hrs' : (List.map (fun k => Int.fmod k 3) (nsS.take 3)).take (i + 1) = rs ++ [Int.fmod k 3] := by
      rw [List.take_add_one, hrs, List.getElem?_map, hk]; rfl
    rw [hrs', stR_snoc]
    have hok : OkR rs := hrs ▸ ok_take _ i
    have hrl : rs.length ≤ 2 := by
      have h1 : i < (nsS.take 3).length := (List.getElem?_eq_some_iff.mp hk).1
      have h2 : (nsS.take 3).length ≤ 3 := by rw [List.length_take]; omega
      rw [← hrs, List.length_take]; omega
    clear hrs hrs' hk hv hV
    obtain ⟨p1, p2, z1, z2⟩ := hok
    generalize stR rs = st at hi1 hi2 p1 p2 z1 z2 ⊢
    have hz1 : 0 < 2 ^ rs.length := Nat.pow_pos (by decide)
    have hz2 : 2 ^ rs.length ≤ 2 ^ 2 := Nat.pow_le_pow_right (by decide) hrl
    have FZ := fr_ovl3 F (if_pos rfl) ((if_neg (by decide)).trans e1) ((if_neg (by decide)).trans e2)
    clear F
    refine S_execs_cons (S_mono (Q := fun f s' => f = .next ∧ ∃ h' tk' m' l2 vs2 c2, s' = { s₁ with heap := h', toks := tk' } ∧ Fr s₁.heap s₁.heap.objs.size h' m' ∧
      News s₁.heap s₁.heap.objs.size h' ((I, it) :: (l, listOf vs.toArray nn) :: (l1, listOf vs1.toArray c1) :: (l2, listOf vs2.toArray c2) :: [(s₁.heap.objs.size + 1, oC)]) ∧ IntsAre vs2 (if k.fmod 3 = 1 then st.2.reverse else st.2) ∧
      m' "number" = some (.int k t) ∧ m' "one" = some (.ref l1) ∧ m' "other" = some (.ref l2)) (S_If (S_any ?_)) ?_ fun _ _ e => e)
    · k_steps
      · rename _ = _ => hk1
        rw [if_pos hk1]
        refine S_execs_cons (S_AssignName (S_Call_Name1 (S_any ?_)))
        k_steps
        refine S_callWith_K KX (by k_is) rfl rfl (S_spliced_cons (S_any ?_))
        k_steps
        refine S_spliced_nil ⟨Fr.keep (by assumption), ?_⟩
        refine tu hi2 (by omega) (by omega) p2 K0 FZ KX (cb_drop (news := (l2, listOf vs2.toArray c2) :: (I, it) :: (l, listOf vs.toArray nn) :: (l1, listOf vs1.toArray c1) :: [(s₁.heap.objs.size + 1, oC)]) N (by kcj_all)) T rfl (by decide) (by decide) ?_
        intro r us h9 tk9 c9 F9 N9 hus hne
        clear N FZ
        k_steps
        rename Fr _ _ _ _ => kF
        rename News _ _ _ _ => kN
        dsimp only
        refine S_pure ⟨rfl, _, _, _, r, us, c9, rfl, kF, cb_drop kN (by kcj_all), hus, by rfl, by rfl, by rfl⟩
      · rename ¬ _ => hk1
        rw [if_neg hk1]
        rename Fr _ _ _ _ => kF
        refine S_pure ⟨rfl, _, _, _, l2, vs2, c2, rfl, kF, N, hi2, by rfl, by rfl, by rfl⟩
    · have a1 : PM (if k.fmod 3 = 1 then st.2.reverse else st.2) ∧ (if k.fmod 3 = 1 then st.2.reverse else st.2).length = 2 ^ rs.length := by
        by_cases h : k.fmod 3 = 1
        · rw [if_pos h]; exact ⟨p2.rev, by rw [List.length_reverse, z2]⟩
        · rw [if_neg h]; exact ⟨p2, z2⟩
      show ∀ f s', _ → _
      unfold stepR
      generalize (if k.fmod 3 = 1 then st.2.reverse else st.2) = o1 at a1 ⊢
      rintro f s' ⟨rfl, h', tk', m', l2, vs2, c2, rfl, kF, kN, hi2, e0, e1, e2⟩
      have FZ := fr_ovl3 kF e0 e1 e2
      clear kF e0 e1 e2 N
      dsimp only
      refine S_execs_cons (S_mono (Q := fun f s' => f = .next ∧ ∃ h' tk' m' l2 vs2 c2, s' = { s₁ with heap := h', toks := tk' } ∧ Fr s₁.heap s₁.heap.objs.size h' m' ∧
        News s₁.heap s₁.heap.objs.size h' ((I, it) :: (l, listOf vs.toArray nn) :: (l1, listOf vs1.toArray c1) :: (l2, listOf vs2.toArray c2) :: [(s₁.heap.objs.size + 1, oC)]) ∧ IntsAre vs2 (if k.fmod 3 = 2 then o1.map (fun k => 0 - k) else o1) ∧
        m' "number" = some (.int k t) ∧ m' "one" = some (.ref l1) ∧ m' "other" = some (.ref l2)) (S_If (S_any ?_)) ?_ fun _ _ e => e)
      · k_steps
        · rename _ = _ => hk1
          rw [if_pos hk1]
          refine S_execs_cons (S_any ?_)
          k_steps
          rename Fr _ _ _ _ => kF
          rename News _ _ _ _ => kN
          rename IntsAre _ (List.map _ o1) => hys
          refine S_pure ⟨rfl, _, _, _, _, _, _, rfl, kF, cb_drop kN (by kcj_all), hys, by rfl, by rfl, by rfl⟩
        · rename ¬ _ => hk1
          rw [if_neg hk1]
          rename Fr _ _ _ _ => kF
          refine S_pure ⟨rfl, _, _, _, l2, vs2, c2, rfl, kF, kN, hi2, by rfl, by rfl, by rfl⟩
      · have a2 : PM (if k.fmod 3 = 2 then o1.map (fun k => 0 - k) else o1) ∧ (if k.fmod 3 = 2 then o1.map (fun k => 0 - k) else o1).length = 2 ^ rs.length := by
          by_cases h : k.fmod 3 = 2
          · rw [if_pos h]; exact ⟨a1.1.neg, by rw [List.length_map, a1.2]⟩
          · rw [if_neg h]; exact a1
        generalize (if k.fmod 3 = 2 then o1.map (fun k => 0 - k) else o1) = o2 at a2 ⊢
        clear kN FZ
        clear hi2
        clear l2 vs2 c2
        rintro f s' ⟨rfl, h', tk', m', l2, vs2, c2, rfl, kF, kN, hi2, e0, e1, e2⟩
        have FZ := fr_ovl3 kF e0 e1 e2
        clear kF e0 e1 e2
        dsimp only
        refine S_execs_cons (S_any ?_)
        k_steps
        rename Fr _ _ _ _ => kF
        rename News _ _ _ _ => kN
        rename IntsAre _ (st.1 ++ o2) => hw1
        rename IntsAre _ (st.1 ++ List.map _ o2) => hw2
        have hw1' := hw1
        have hw2' := hw2
        refine S_pure ⟨rfl, _, _, _, _, rfl, kF, cb_drop kN (by kcj_all), fun p hp => ?_, _, _, _, _, _, _, rfl, hw1, hw2, by rfl, by rfl⟩
        rcases List.mem_cons.mp hp with rfl | hp
        · exact off_cls kN (.tail _ (.tail _ (.tail _ (.tail _ (.head _))))) (.tail _ (.tail _ (.tail _ (.head _)))) hic rfl (by decide)
        rcases List.mem_cons.mp hp with rfl | hp
        · exact off_cls kN (.tail _ (.tail _ (.tail _ (.tail _ (.head _))))) (.tail _ (.head _)) hic rfl (by decide)
        · exact off p (.tail _ (.tail _ hp))
  · clear FZ NZ e1 e2 e3
    rintro vs m₁ nx h tk hV ⟨l1, vs1, c1, l2, vs2, c2, rfl, hi1, hi2, e1, e2⟩ F N
    have hvl : vs.length = (nsS.take 3).length := hV.length
    have hrs : (List.map (fun k => Int.fmod k 3) (nsS.take 3)).take vs.length = (nsS.take 3).map fun k => Int.fmod k 3 := List.take_of_length_le (by rw [List.length_map, hvl]; exact Nat.le_refl _)
    have hok : OkR ((List.map (fun k => Int.fmod k 3) (nsS.take 3)).take vs.length) := ok_take _ _
    rw [hrs] at hi1 hi2 hok
    have hlt : (nsS.take 3).length ≤ 3 := by rw [List.length_take]; omega
    have hlaw := law_facts _ hlt
    have hlen : 2 ^ ((nsS.take 3).map fun k => Int.fmod k 3).length ≤ 2 ^ 3 := Nat.pow_le_pow_right (by decide) (by rw [List.length_map]; exact hlt)
    have hlen0 : 0 < 2 ^ ((nsS.take 3).map fun k => Int.fmod k 3).length := Nat.pow_pos (by decide)
    clear hvl hrs hV hlt
    obtain ⟨p1, p2, z1, z2⟩ := hok
    unfold lawOk at hlaw
    generalize 2 ^ ((nsS.take 3).map fun k => Int.fmod k 3).length = n at z1 z2 hlen hlen0
    generalize stR ((nsS.take 3).map fun k => Int.fmod k 3) = st at hi1 hi2 p1 p2 z1 z2 hlaw
    simp only [Bool.and_eq_true, pairOk] at hlaw
    obtain ⟨g0, ⟨g1, q1⟩, ⟨g2, q2⟩, ⟨g3, q3⟩, ⟨g4, q4⟩, g5⟩ := hlaw
    obtain ⟨one, oth⟩ := st
    dsimp only at hi1 hi2 p1 p2 z1 z2 g0 g1 g2 g3 g4 g5 q1 q2 q3 q4 ⊢
    have FZ := fr_ovl2 F e1 e2
    clear F e1 e2
    refine S_execs_cons (S_mono (Q := fun f s' => f = .next ∧ ∃ h' tk' m', s' = { s₁ with heap := h', toks := tk' } ∧ Fr s₁.heap s₁.heap.objs.size h' m' ∧ News s₁.heap s₁.heap.objs.size h' ((l1, listOf vs1.toArray c1) :: (l2, listOf vs2.toArray c2) :: [(s₁.heap.objs.size + 1, oC)]) ∧ m' "one" = some (.ref l1) ∧ m' "other" = some (.ref l2)) (S_If (S_isTrue_Or2 (S_isTrue_Not (S_isTrue_Call (S_Call_Name2 (S_any ?_)))))) ?_ fun _ _ e => e)
    · k_steps
      refine S_callWith_K KX (by k_is) rfl rfl (S_spliced_cons (S_any ?_))
      k_steps
      refine S_spliced_cons (S_any ?_)
      k_steps
      refine S_spliced_nil ⟨Fr.keep (by assumption), ?_⟩
      refine S_any (gd hi1 hi2 (by omega) (by omega) (by omega) p1 p2 K0 FZ KX N T rfl (by decide) (by decide) ?_)
      intro h9 tk9 F9 N9
      clear FZ N
      rw [g0]
      k_steps
      dsimp only
      refine S_isTrue_Compare rfl (S_Call_Name1 (S_any ?_))
      k_steps
      refine S_callWith_K KX (by k_is) rfl rfl (S_spliced_cons (S_any ?_))
      k_steps
      refine S_spliced_nil ⟨Fr.keep (by assumption), ?_⟩
      refine tu hi1 (by omega) (by omega) p1 K0 F9 KX N9 T rfl (by decide) (by decide) ?_
      intro r us h10 tk10 c10 F10 N10 hus hne
      clear F9 N9
      refine S_any ?_
      k_steps
      rename Fr _ _ _ _ => kF
      rename News _ _ _ _ => kN
      rename IntsAre _ (List.reverse one) => hri
      refine wpAny_operate' (ke_ne_ints ⟨_, (kN (r, listOf us.toArray c10) (.tail _ (.head _))).1, rfl, _, rfl⟩ ⟨_, (kN _ (.head _)).1, rfl, _, rfl⟩ hus hri (Nat.le_of_ble_eq_true rfl) ?_)
      rw [show (!decide (one.reverse = one.reverse)) = false by rw [decide_eq_true rfl]; rfl]
      k_steps
      refine S_pure ⟨rfl, _, _, _, rfl, kF, cb_drop kN (by kcj_all), by rfl, by rfl⟩
    · clear FZ N h tk m₁
      rintro f s' ⟨rfl, h, tk, m₁, rfl, F, N, e1, e2⟩
      dsimp only
      have FZ := fr_ovl2 F e1 e2
      clear F e1 e2
      refine S_execs_cons (S_mono (Q := fun f s' => f = .next ∧ ∃ h' tk' m', s' = { s₁ with heap := h', toks := tk' } ∧ Fr s₁.heap s₁.heap.objs.size h' m' ∧ News s₁.heap s₁.heap.objs.size h' ((l1, listOf vs1.toArray c1) :: (l2, listOf vs2.toArray c2) :: [(s₁.heap.objs.size + 1, oC)]) ∧ m' "one" = some (.ref l1) ∧ m' "other" = some (.ref l2)) ?_ ?_ fun _ _ e => e)
      · refine S_For_tup (h₀ := s₁.heap) (fun vs nx => (∀ (i : Nat) v, vs[i]? = some v → ∃ T lA lB vA vB cA cB nA nB, v = .ref T ∧ (T, tupOf [.ref lA, .ref lB]) ∈ nx ∧ (lA, listOf vA.toArray cA) ∈ nx ∧ (lB, listOf vB.toArray cB) ∈ nx ∧ IntsAre vA nA ∧ IntsAre vB nB ∧ PM nA ∧ PM nB ∧ nA.length = n ∧ nB.length = n ∧ isGood nA nB = true ∧ sq2 nA nB = true) ∧
          (l1, listOf vs1.toArray c1) ∈ nx ∧ (l2, listOf vs2.toArray c2) ∈ nx ∧ (s₁.heap.objs.size + 1, oC) ∈ nx) (fun m => m "one" = some (.ref l1) ∧ m "other" = some (.ref l2)) rfl ?_ (S_List (S_spliced_cons (S_Tuple (k := 0) (S_spliced_cons (S_Call_Name1 (S_any ?_)))))) ?_ ?_
        · rintro vs nx ⟨hV, _⟩ v hv
          obtain ⟨i, hi⟩ := List.getElem?_of_mem hv
          obtain ⟨T, lA, lB, vA, vB, cA, cB, nA, nB, e, _⟩ := hV i v hi
          exact ⟨T, e⟩
        · k_steps
          refine S_callWith_K KX (by k_is) rfl rfl (S_spliced_cons (S_any ?_))
          k_steps
          refine S_spliced_nil ⟨Fr.keep (by assumption), ?_⟩
          refine tu hi1 (by omega) (by omega) p1 K0 FZ KX N T rfl (by decide) (by decide) ?_
          intro r us h10 tk10 c10 F10 N10 hus hne
          clear FZ N
          refine S_spliced_cons (S_any ?_)
          k_steps
          refine S_spliced_nil ?_
          k_steps
          refine S_spliced_cons (S_Tuple (k := 0) (S_spliced_cons (S_any ?_)))
          k_steps
          refine S_spliced_cons (S_Call_Name1 (S_any ?_))
          k_steps
          refine S_callWith_K KX (by k_is) rfl rfl (S_spliced_cons (S_any ?_))
          k_steps
          refine S_spliced_nil ⟨Fr.keep (by assumption), ?_⟩
          rename Fr _ _ _ _ => kF
          rename News _ _ _ _ => kN
          rename_i T1 hh1 hlt1
          refine tu hi2 (by omega) (by omega) p2 K0 kF KX (cb_drop (news := (l2, listOf vs2.toArray c2) :: (T1, tupOf [.ref r, .ref l2]) :: (r, listOf us.toArray c10) :: (l1, listOf vs1.toArray c1) :: [(s₁.heap.objs.size + 1, oC)]) kN (by kcj_all)) T rfl (by decide) (by decide) ?_
          intro r2 us2 h11 tk11 c11 F11 N11 hus2 hne2
          clear kF kN
          refine S_spliced_nil ?_
          k_steps
          refine S_spliced_cons (S_any ?_)
          k_steps
          refine S_spliced_cons (S_Tuple (k := 0) (S_spliced_cons (S_ListComp (S_any ?_))))
          k_steps
          rename Fr _ _ _ _ => kF
          rename News _ _ _ _ => kN
          rename IntsAre ys _ => hys
          refine enum_comp rfl (by have := hi1.length; omega) kF kN (.tail _ (.tail _ (.tail _ (.tail _ (.tail _ (.tail _ (.tail _ (.head _)))))))) hi1 p1 (elt_alt rfl rfl rfl (by decide) (by decide)) rfl (by decide) rfl (by decide) rfl rfl (by decide) ?_ (fun _ => rfl)
          intro DA h12 tk12 yA F12 N12 hne12 hyA
          clear kF kN
          refine S_spliced_cons (S_ListComp (S_any ?_))
          k_steps
          refine enum_comp rfl (by have := hi2.length; omega) F12 N12 (.tail _ (.tail _ (.tail _ (.tail _ (.tail _ (.head _)))))) hi2 p2 (elt_alt rfl rfl rfl (by decide) (by decide)) rfl (by decide) rfl (by decide) rfl rfl (by decide) ?_ (fun _ => rfl)
          intro DB h13 tk13 yB F13 N13 hne13 hyB
          clear F12 N12
          refine S_spliced_nil ?_
          k_steps
          refine S_spliced_nil ?_
          k_steps
          unfold Hold
          rename Fr _ _ _ _ => kF
          rename News _ _ _ _ => kN
          refine ⟨[.ref T1, .ref _, .ref _, .ref _], _, 0, _, _, _, _, ⟨?_, ?_, ?_, ?_⟩, rfl, rfl, kF, kN, by rfl, by rfl⟩
          · intro i v hv
            rcases i with _ | _ | _ | _ | i
            · cases hv
              exact ⟨_, _, _, _, _, _, _, _, _, rfl, by k_mem, by k_mem, by k_mem, hus, hi2, p1.rev, p2, by rw [List.length_reverse, z1], z2, g1, q1⟩
            · cases hv
              exact ⟨_, _, _, _, _, _, _, _, _, rfl, by k_mem, by k_mem, by k_mem, hi1, hus2, p1, p2.rev, z1, by rw [List.length_reverse, z2], g2, q2⟩
            · cases hv
              exact ⟨_, _, _, _, _, _, _, _, _, rfl, by k_mem, by k_mem, by k_mem, hys, hi2, p1.neg, p2, by rw [List.length_map, z1], z2, g3, q3⟩
            · cases hv
              exact ⟨_, _, _, _, _, _, _, _, _, rfl, by k_mem, by k_mem, by k_mem, hyA, hyB, p1.alt, p2.alt, (altL_length one).trans z1, (altL_length oth).trans z2, g4, q4⟩
            · cases hv
          · k_mem
          · k_mem
          · k_mem
        · clear FZ N
          rintro vs' i v m₁ nx I it l nn h tk ⟨hV, m1, m2, mc⟩ hv ⟨e1, e2⟩ hic F N
          obtain ⟨TT, lA, lB, vA, vB, cA, cB, nA, nB, rfl, mT, mA, mB, hA, hB, pA, pB, zA, zB, gg, qq⟩ := hV i v hv
          have FZ := fr_ovl2 F e1 e2
          clear F e1 e2 hV hv
          have NZ : News s₁.heap s₁.heap.objs.size h ((TT, tupOf [.ref lA, .ref lB]) :: (lA, listOf vA.toArray cA) :: (lB, listOf vB.toArray cB) :: (l1, listOf vs1.toArray c1) :: (I, it) :: (l, listOf vs'.toArray nn) :: nx) := fun p hp => by
            rcases List.mem_cons.mp hp with rfl | hp
            · exact N _ (.tail _ (.tail _ mT))
            rcases List.mem_cons.mp hp with rfl | hp
            · exact N _ (.tail _ (.tail _ mA))
            rcases List.mem_cons.mp hp with rfl | hp
            · exact N _ (.tail _ (.tail _ mB))
            rcases List.mem_cons.mp hp with rfl | hp
            · exact N _ (.tail _ (.tail _ m1))
            · exact N p hp
          clear N mT mA mB m1 m2 mc
          k_steps
          unfold Hold
          rename_i h7 F8 N8 h8 h9 F9 N9
          refine gd hA hB (by omega) (by omega) (by omega) pA pB K0 F9 KX (cb_drop (news := (lA, listOf vA.toArray cA) :: (lB, listOf vB.toArray cB) :: (l1, listOf vs1.toArray c1) :: (I, it) :: (l, listOf vs'.toArray nn) :: nx) N9 (by kcj_all)) T rfl (by decide) (by decide) ?_
          intro h10 tk10 F10 N10
          clear F8 N8 F9 N9
          rw [gg]
          have bA := sum_small pA
          have bB := sum_small pB
          have bA2 : nA.sum.natAbs < 2 ^ 64 := by omega
          have bB2 : nB.sum.natAbs < 2 ^ 64 := by omega
          have hq : nA.sum ^ Int.toNat 2 + nB.sum ^ Int.toNat 2 = 2 * (one.length : Int) := by
            have hqq := of_decide_eq_true qq
            rw [zA, ← z1] at hqq
            show nA.sum ^ 2 + nB.sum ^ 2 = _
            simp only [Int.pow_succ, Int.pow_zero, Int.one_mul]
            exact hqq
          k_steps
          · rename _ ≠ _ => hne
            exact absurd hq hne
          · rename Fr _ _ _ _ => kF
            rename News _ _ _ _ => kN
            exact ⟨⟨rfl, _, _, _, rfl, kF, fun p hp => kN p (.tail _ (.tail _ (.tail _ hp))), by rfl, by rfl⟩⟩
        · rintro vs' m₁ nx h tk ⟨_, m1, m2, mc⟩ ⟨e1, e2⟩ F N
          refine ⟨rfl, h, tk, m₁, rfl, F, fun p hp => N p ?_, e1, e2⟩
          rcases List.mem_cons.mp hp with rfl | hp
          · exact m1
          rcases List.mem_cons.mp hp with rfl | hp
          · exact m2
          · rw [List.mem_singleton.mp hp]; exact mc
      · clear FZ N h tk m₁
        rintro f s' ⟨rfl, h, tk, m₁, rfl, F, N, e1, e2⟩
        dsimp only
        have FZ := fr_ovl2 F e1 e2
        clear F e1 e2
        refine S_execs_cons (S_mono (Q := fun f s' => f = .next ∧ ∃ h' tk' m', s' = { s₁ with heap := h', toks := tk' } ∧ Fr s₁.heap s₁.heap.objs.size h' m' ∧ News s₁.heap s₁.heap.objs.size h' ((l1, listOf vs1.toArray c1) :: (l2, listOf vs2.toArray c2) :: [(s₁.heap.objs.size + 1, oC)]) ∧ m' "one" = some (.ref l1) ∧ m' "other" = some (.ref l2)) (S_If (S_isTrue_Not (S_isTrue_Call (S_Call_Name2 (S_any ?_))))) ?_ fun _ _ e => e)
        · k_steps
          refine S_callWith_K KX (by k_is) rfl rfl (S_spliced_cons (S_BinOp (S_any ?_)))
          k_steps
          refine S_Call_Name1 (S_any ?_)
          k_steps
          refine S_callWith_K KX (by k_is) rfl rfl (S_spliced_cons (S_any ?_))
          k_steps
          refine S_spliced_nil ⟨Fr.keep (by assumption), ?_⟩
          refine tu hi2 (by omega) (by omega) p2 K0 FZ KX (cb_drop (news := (l2, listOf vs2.toArray c2) :: (l1, listOf vs1.toArray c1) :: [(s₁.heap.objs.size + 1, oC)]) N (by kcj_all)) T rfl (by decide) (by decide) ?_
          intro r us h10 tk10 c10 F10 N10 hus hne
          clear FZ N
          refine wpAny_operate' ?_
          k_steps
          refine S_spliced_cons (S_BinOp (S_any ?_))
          k_steps
          refine S_ListComp (S_Call_Name1 (S_any ?_))
          k_steps
          refine S_callWith_K KX (by k_is) rfl rfl (S_spliced_cons (S_any ?_))
          k_steps
          refine S_spliced_nil ⟨Fr.keep (by assumption), ?_⟩
          rename Fr _ _ _ _ => kF
          rename News _ _ _ _ => kN
          rename IntsAre _ (one ++ oth.reverse) => hA
          rename_i DA wA hh9 hlt9
          refine tu hi2 (by omega) (by omega) p2 K0 kF KX (cb_drop (news := (l2, listOf vs2.toArray c2) :: (DA, listOf wA.toArray 0) :: (l1, listOf vs1.toArray c1) :: [(s₁.heap.objs.size + 1, oC)]) kN (by kcj_all)) T rfl (by decide) (by decide) ?_
          intro r2 us2 h11 tk11 c11 F11 N11 hus2 hne2
          clear kF kN
          refine comp_list rfl ?_ F11 N11 (.head _) hus2 (elt_neg rfl rfl (by decide)) rfl (by decide) rfl (by decide) rfl ?_ (fun _ => rfl)
          · have := hus2.length
            rw [this, List.length_reverse, z2, sizeLine_eq]; omega
          intro D h12 tk12 ys F12 N12 hne12 hys
          clear F11 N11
          refine wpAny_operate' ?_
          k_steps
          refine S_spliced_nil ⟨Fr.keep (by assumption), ?_⟩
          rename Fr _ _ _ _ => kF
          rename News _ _ _ _ => kN
          rename IntsAre _ (one ++ List.map _ oth.reverse) => hB
          rename_i DB wB hh10 hlt10
          refine S_any (gd hA hB ?_ ?_ ?_ (p1.app p2.rev) (p1.app p2.rev.neg) K0 kF KX (cb_drop (news := (DA, listOf wA.toArray 0) :: (DB, listOf wB.toArray 0) :: (l1, listOf vs1.toArray c1) :: (l2, listOf vs2.toArray c2) :: [(s₁.heap.objs.size + 1, oC)]) kN (by kcj_all)) T rfl (by decide) (by decide) ?_)
          · rw [List.length_append]; omega
          · rw [List.length_append, List.length_reverse]; omega
          · rw [List.length_append, List.length_append, List.length_map]
          intro h9 tk9 F9 N9
          clear kF kN
          rw [show isGood (one ++ oth.reverse) (one ++ List.map (fun k => 0 - k) oth.reverse) = true from g5]
          k_steps
          refine S_pure ⟨rfl, _, _, _, rfl, F9, cb_drop N9 (by kcj_all), by rfl, by rfl⟩
        · clear FZ N h tk m₁
          rintro f s' ⟨rfl, h, tk, m₁, rfl, F, N, e1, e2⟩
          dsimp only
          have FZ := fr_ovl2 F e1 e2
          clear F e1 e2
          clear K0 hcd KX X V GL B TE TW M
          refine law_tail (K := s₁.heap.objs.size + 1) rfl rfl (Nat.le_of_ble_eq_true rfl) rfl rfl rfl rfl (T.g.keeps FZ.keep) (T.free "range" (by decide +kernel) (by decide +kernel) (by decide +kernel) (by decide +kernel) (by decide +kernel)) (T.b.keeps FZ.keep) ((T.builtins "range" (by decide)).trans rfl) rfl rfl rfl (fun _ => rfl) ⟨oC, (N _ (.tail _ (.tail _ (.head _)))).1, hC0.trans rfl⟩ ?_
          intro h' tk' k
          exact ⟨h', tk', fun b o e => k b o (Nat.ne_of_lt (Nat.lt_succ_of_lt (Heap.lt_size e))) (FZ.keep b o e), rfl, rfl⟩)
end
end Mine
end

open PySem PySem.W PyProof.Rows
theorem PySem.Challenge.cw_gy0001_01_holds : PySem.Challenge.rw_gy0001_01.Holds := by
  exact Mine.tt
