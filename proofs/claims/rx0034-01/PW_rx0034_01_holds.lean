import PyProof.Rows.All
import PyProof.Ops
import PyProof.FactsAll.str_3
import PyProof.FactsAll.str_8
import PyProof.FactsAll.object_1
import PyProof.FactsLen
import PyProof.AttrMissHeap
import PyProof.FactsAll.subtypes_3
import PyProof.Rules3
import PyProof.FactsIdx
import PyProof.InstFacts
import PyProof.InstLoad
import PyProof.ZipIter
import PyProof.Rows.ZipGen
import PyProof.WalksPairs
import PyProof.Rows.LoopUnroll
import PyProof.Rows.StrDouble
import PyProof.Rows.StrRev
import PyProof.Rows.WhileStrip
import PyProof.Rows.ListMadeDel
import PyProof.Rows.CallKwBuiltin
import KE.BytesMake
import KE.KUnpack
import KE.LcTurns
import KE.KCompText
import KE.KData
import KE.KEqDat
import KE.KNestM
import KE.KPairComp
import KE.KRevSl
import KE.KTextTable
import KE.KTryDeepN
import KE.KxDecode
import KE.RegKTryDeep
import Wide.FinOn
import OpenK.AllK
import Wide.All
import PySem.Challenge.RW_rx0034_01
section
open PySem PySem.W PyProof.Rows
set_option Elab.async false
set_option maxRecDepth 100000
set_option maxHeartbeats 2000000
namespace Mine

def badIds : List String := Builtin.Bytes.decodersThatHold ++ ["bytearray.__contains__", "bytearray.__mod__", "bytearray.__rmod__", "_struct.pack_into.held", "bytearray.find.held"]
def okCode : Code → Bool
  | .builtin id _ => !badIds.contains id
  | _ => true
def Calm (Γ : Ctx) : Prop := okCode Γ.code = true ∧ ∀ x ∈ Γ.below, okCode x.1 = true
theorem Calm.enter {Γ : Ctx} (h : Calm Γ) {c : Code} {hd : Option Value} {p : Pos} (hc : okCode c = true) : Calm (Γ.enter c hd p) :=
  ⟨hc, fun x hx => by
    rcases List.mem_cons.mp hx with rfl | hx
    · exact h.1
    · exact h.2 x hx⟩
theorem Calm.goto {Γ : Ctx} (h : Calm Γ) {c : Code} (hc : okCode c = true) : Calm (Γ.goto c) := ⟨hc, h.2⟩

def wpC {α : Type} (M : Model) (A : Around) (t : Sem α) (Q : α → Shared → Prop) (E : Value → Shared → Prop) (s : Shared) : Prop :=
  ∀ Γ p, Γ.In A → Calm Γ → Sem.wp M Γ t (fun a _ s' => Q a s') (fun e _ s' => E e s') p s
def codeC (M : Model) (A : Around) (c : Code) (R : Result → Shared → Prop) (s : Shared) : Prop :=
  ∀ Γ p, Γ.code = c → Γ.Below A → Calm Γ → wpCode M Γ R p s
section
variable {α β : Type} {M : Model} {A : Around} {E : Value → Shared → Prop} {s : Shared}
theorem cOf {t : Sem α} {Q : α → Shared → Prop} (h : wpAny M A t Q E s) : wpC M A t Q E s := fun Γ p hΓ _ => h Γ p hΓ
theorem cCode {c : Code} {R : Result → Shared → Prop} (h : codeAny M A c R s) : codeC M A c R s := fun Γ p hc hΓ _ => h Γ p hc hΓ
theorem cMono {t : Sem α} {Q Q' : α → Shared → Prop} {E' : Value → Shared → Prop} (h : wpC M A t Q E s) (hQ : ∀ a s, Q a s → Q' a s) (hE : ∀ e s, E e s → E' e s) : wpC M A t Q' E' s :=
  fun Γ p hΓ hC => Sem.wp_mono M Γ t (fun a _ s => hQ a s) (fun e _ s => hE e s) p s (h Γ p hΓ hC)
theorem cPure {a : α} {Q : α → Shared → Prop} (h : Q a s) : wpC M A (pure a) Q E s := fun _ _ _ _ => h
theorem cBind {m : Sem α} {f : α → Sem β} {Q : β → Shared → Prop} (h : wpC M A m (fun a s' => wpC M A (f a) Q E s') E s) : wpC M A (m >>= f) Q E s := fun Γ p hΓ hC => by
  rw [Sem.wp_bind']
  exact Sem.wp_mono M Γ m (fun a p' s' h' => h' Γ p' hΓ hC) (fun _ _ _ h' => h') p s (h Γ p hΓ hC)
theorem cOnRaise {m : Sem α} {k : Value → Sem Unit} {Q : α → Shared → Prop} (h : wpC M A m Q (fun e s' => wpC M A (k e) (fun _ s'' => E e s'') E s') s) : wpC M A (m.onRaise k) Q E s := fun Γ p hΓ hC => by
  rw [Sem.wp_onRaise]
  exact Sem.wp_mono M Γ m (fun _ _ _ h' => h') (fun e p' s' h' => h' Γ p' hΓ hC) p s (h Γ p hΓ hC)
theorem cAttempt {m : Sem α} {Q : Except Value α → Shared → Prop} (h : wpC M A m (fun a => Q (.ok a)) (fun e => Q (.error e)) s) : wpC M A m.attempt Q E s := fun Γ p hΓ hC => by
  rw [Sem.wp_attempt]; exact h Γ p hΓ hC
theorem cHolding {vs : List Value} {m : Sem α} {Q : α → Shared → Prop} (h : wpC M A m Q E s) : wpC M A (holding vs m) Q E s := fun Γ p hΓ hC => by
  rw [Sem.wp_holding]; exact h Γ p hΓ hC
theorem cKeep {vs : List Value} {m : Sem α} {Q : α → Shared → Prop} (h : wpC M A m Q E s) : wpC M A (m.keep vs) Q E s := fun Γ p hΓ hC => by
  rw [Sem.wp_keep]; exact h Γ p hΓ hC
theorem cStandAt {pos : Pos} {Q : Unit → Shared → Prop} (h : Q () s) : wpC M A (standAt pos) Q E s := fun _ _ _ _ => h
theorem cPoint {Q : Unit → Shared → Prop} (h : Q () s) : wpC M A point Q E s := fun _ _ _ _ => h
theorem cRun {c : Code} {hd : Option Value} {Q : Flow → Shared → Prop} (ok : okCode c = true)
    (hc : codeC M (A.mark hd) c (fun r s' => match r with | .ok f => Q f s' | .error e => E e s') s) (hnb : hd ≠ some byPass := by intro x; cases x) : wpC M A (run c hd) Q E s :=
  fun Γ p hΓ hC => by rw [Sem.wp_run]; exact hc _ p rfl (hΓ.enter c hd p hnb) (hC.enter ok)
theorem cRunValue {c : Code} {Q : Value → Shared → Prop} (ok : okCode c = true)
    (hc : codeC M A c (fun r s' => match r with | .ok (.ret v) => Q v s' | .ok _ => False | .error e => E e s') s) : wpC M A (runValue c) Q E s :=
  fun Γ p hΓ hC => by rw [Sem.wp_runValue]; exact hc _ p rfl (hΓ.enter c none p (by intro x; cases x)) (hC.enter ok)
theorem cCall {f : Value} {pos : List Value} {kw : List (Str × Value)} {Q : Value → Shared → Prop}
    (hc : codeC M A (.call f ⟨pos, kw⟩) (fun r s' => match r with | .ok (.ret v) => Q v s' | .ok _ => False | .error e => E e s') s) : wpC M A (call f pos kw) Q E s := cRunValue rfl hc
theorem cCodeMono {c : Code} {R R' : Result → Shared → Prop} (h : codeC M A c R s) (hR : ∀ r s, R r s → R' r s) : codeC M A c R' s :=
  fun Γ p hc hΓ hC => wpCode_mono hR (h Γ p hc hΓ hC)
theorem cTree {c : Code} {R : Result → Shared → Prop}
    (h : wpC M (A.under c) (M.den c) (fun fin s' => match fin with | .done f => R (.ok f) s' | .again c' => c'.quiet = true ∧ okCode c' = true ∧ codeC M A c' R s')
      (fun e s' => R (.error e) s') s) : codeC M A c R s := fun Γ p hc hΓ hC => by
  rw [wpCode_iff_wp, hc]
  refine Sem.wp_mono M Γ _ (fun fin p' s' h' => ?_) (fun _ _ _ h' => h') p s (h Γ p (hc ▸ hΓ.in) hC)
  cases fin with
  | done f => exact h'
  | again c' => exact ⟨h'.1, h'.2.2 (Γ.goto c') p' rfl (hΓ.goto c') (hC.goto h'.2.1)⟩
theorem cRunOwn {env : Env} {c : Code} {h : Option Value} {Q : Flow → Shared → Prop} (ok : okCode c = true)
    (hc : codeC M (A.mark h) c (fun r s' => match r with | .ok f => Q f s' | .error e => cameBackBy M A env E e s') s) (hnb : h ≠ some byPass := by intro x; cases x) :
    wpC M A (runOwn c env h) Q E s := by
  unfold runOwn
  refine cOnRaise (cMono (cRun ok hc hnb) (fun _ _ q => q) fun e s' q => ?_)
  exact cOf q
theorem cExported {self : Value} {Q : Bool → Shared → Prop} (h : Q false s) : wpC M A (Builtin.Bytes.exported self) Q E s := fun Γ p hΓ hC => by
  have gen : ∀ f : Code × Pos → Bool, (∀ x, okCode x.1 = true → f x = false) → ((Γ.code, p) :: Γ.below).any f = false := fun f hf => by
    rw [List.any_eq_false]
    intro x hx
    have : okCode x.1 = true := by
      rcases List.mem_cons.mp hx with rfl | hx
      · exact hC.1
      · exact hC.2 x hx
    rw [hf x this]; exact Bool.false_ne_true
  show Sem.wp M Γ (stack >>= fun st => pure (st.any _)) _ _ p s
  rw [Sem.wp_bind']
  show Q (((Γ.code, p) :: Γ.below).any _) s
  rw [gen _ fun x hx => ?_]
  · exact h
  · have bad : ∀ id args, x.1 = .builtin id args → badIds.contains id = false := fun id args e => by rw [e] at hx; simpa [okCode] using hx
    clear gen
    obtain ⟨c, q⟩ := x
    cases c with
    | builtin id args =>
      have hb := bad id args rfl
      have ne : ∀ l ∈ badIds, ¬ id = l := fun l hl e => by
        rw [e, List.contains_iff_mem.mpr hl] at hb; cases hb
      have h2 : Builtin.Bytes.decodersThatHold.contains id = false := by
        cases q : Builtin.Bytes.decodersThatHold.contains id with
        | false => rfl
        | true => exact absurd rfl (ne id (List.mem_append_left _ (List.contains_iff_mem.mp q)))
      delta Builtin.Bytes.exported.match_1
      show dite _ _ _ = false
      refine Eq.trans (dif_neg (ne "bytearray.__contains__" (by decide))) ?_
      refine Eq.trans (dif_neg (ne "bytearray.__mod__" (by decide))) ?_
      refine Eq.trans (dif_neg (ne "bytearray.__rmod__" (by decide))) ?_
      refine Eq.trans (dif_neg (ne "_struct.pack_into.held" (by decide))) ?_
      refine Eq.trans (dif_neg (ne "bytearray.find.held" (by decide))) ?_
      obtain ⟨_ | ⟨v, r⟩, kw⟩ := args
      · rfl
      · show (Builtin.Bytes.sameRef v self && Builtin.Bytes.decodersThatHold.contains id) = false
        rw [h2, Bool.and_false]
    | _ => rfl
end
end Mine
end

section
open PySem PySem.W PyProof.Rows
set_option Elab.async false
set_option maxRecDepth 100000
set_option maxHeartbeats 2000000
namespace Mine
namespace BA
theorem mro : mroOf (.type "bytearray") = pure [.type "bytearray", .type "object"] := by rw [mroOf_type]; kernel_rfl
theorem lookNew : typeLookup (.type "bytearray") "__new__" = pure (some (.builtin "bytearray.__new__")) := by rw [typeLookup_type, builtinLookup_eq_fast]; kernel_rfl
theorem slotInit : Slot "bytearray" "__init__" "bytearray.__init__" :=
  .of (owner := "bytearray") (n := "__init__") (by rw [typeLookup_type, builtinLookup_eq_fast]; kernel_rfl) (by decide +kernel) (by decide +kernel) (by decide +kernel)
    (by first | exact .inl (by decide +kernel) | exact .inr (by decide +kernel)) (by rw [isSubtype_type]; kernel_rfl)
theorem called : TypeCalled "bytearray" "bytearray.__new__" "bytearray.__init__" :=
  ⟨by decide +kernel, by decide +kernel, ⟨_, _, mro⟩, madeBy_type mro lookNew (by decide +kernel), by decide +kernel, by rw [isSubtype_type]; kernel_rfl, slotInit⟩
theorem typeCall (a : Value) : checkTypeCall "bytearray" ⟨[a], []⟩ = pure () := by kernel_rfl
theorem newCall (a : Value) : checkBuiltinCall "bytearray.__new__" ⟨[.type "bytearray", a], []⟩ = pure () := by kernel_rfl
theorem entryNew : entryFor table "bytearray.__new__" = some Builtin.«list.__new__» := entryFor_alias (id' := "list.__new__") (by rw [fastTable_eq_tree]; kernel_rfl) (by first | rfl | decide +kernel) (by decide +kernel) (by rw [fastTable_eq_tree]; kernel_rfl)
theorem entryInit : entryFor table "bytearray.__init__" = some Builtin.«bytearray.__init__» := by first | exact entryFor_of_tree (by kernel_rfl) | exact entryFor_of_fast (by kernel_rfl)
theorem plainNew : plainId "bytearray.__new__" = true := by decide +kernel
theorem plainInit : plainId "bytearray.__init__" = true := by decide +kernel
theorem argsInit (a b : Value) : argsOk "bytearray.__init__" ⟨[a, b], []⟩ := by unfold argsOk; kernel_rfl
set_option maxRecDepth 1000000 in
theorem owner : ("bytearray.__new__".splitOn ".__new__").headD "" = "bytearray" := by simp +decide [String.splitOn, String.splitOnAux]
theorem bindO (v : Value) : Builtin.Bytes.bindOptional "bytearray.__init__" "bytearray" ["source", "encoding", "errors"] [v] [] = pure [some v, none, none] := by kernel_rfl
theorem relea : typeLookup (.type "bytearray") "__release_buffer__" = pure (some (.builtin "bytearray.__release_buffer__")) := by rw [typeLookup_type, builtinLookup_eq_fast]; kernel_rfl
theorem slotSet : Slot "bytearray" "__setitem__" "bytearray.__setitem__" :=
  .of (owner := "bytearray") (n := "__setitem__") (by rw [typeLookup_type, builtinLookup_eq_fast]; kernel_rfl) (by decide +kernel) (by decide +kernel) (by decide +kernel)
    (by first | exact .inl (by decide +kernel) | exact .inr (by decide +kernel)) (by rw [isSubtype_type]; kernel_rfl)
theorem entrySet : entryFor table "bytearray.__setitem__" = some Builtin.«bytearray.__setitem__» := by first | exact entryFor_of_tree (by kernel_rfl) | exact entryFor_of_fast (by kernel_rfl)
theorem argsSet (a b c : Value) : argsOk "bytearray.__setitem__" ⟨[a, b, c], []⟩ := by unfold argsOk; kernel_rfl
end BA
abbrev baObj (b : Array UInt8) : Obj := { cls := .type "bytearray", data := .bytearray b }
section
variable {prog : Program} {w : World} {A : Around} {E : Value → Shared → Prop} {s : Shared}
theorem baNew (a : Value) {Q₁ : Value → Shared → Prop}
    (h : Q₁ (.ref s.heap.objs.size) { s with heap := s.heap.push (baObj #[]) }) :
    codeAny (model prog w) A (.call (.builtin "bytearray.__new__") ⟨[.type "bytearray", a], []⟩) (wants Q₁ E) s := by
  refine codeAny_of_tree ?_
  show wpAny _ A.in1 (do checkBuiltinCall "bytearray.__new__" ⟨[.type "bytearray", a], []⟩; again (.builtin "bytearray.__new__" ⟨[.type "bytearray", a], []⟩)) _ _ s
  refine wpAny_bind (wpAny_of_eq (BA.newCall a) (wpAny_pure ⟨plainId_quiet BA.plainNew _, codeAny_builtin_stack BA.entryNew rfl fun p st => ?_⟩))
  rw [Around.under_plainId BA.plainNew _]
  have hsub := PySem.F.sub_bytearray_bytearray
  have hsub := PySem.F.sub_bytearray_bytearray
  have hown := BA.owner
  obtain ⟨hp, g, d, tk, os⟩ := s
  simp only [hown]
  wp_walk
  exact h


theorem asStrInt (i : Int) (t : Tok) : asStr? (.int i t) = pure none := rfl
theorem asIndexInt (i : Int) (t : Tok) : asIndex (.int i t) = pure i := rfl
theorem baWrite {M : Model} {a : Addr} {b : Array UInt8} {f : Array UInt8 → Array UInt8} {Q : Unit → Shared → Prop} (ho : s.heap.get? a = some (baObj b)) (hz : (f b).size ≤ sizeLine)
    (h : ∀ h', Heap.SameBut a s.heap h' → h'.get? a = some (baObj (f b)) → Q () { s with heap := h' }) : wpAny M A (Builtin.Bytes.write (.ref a) f) Q E s := by
  show wpAny M A (updateBytearray a f) Q E s
  unfold updateBytearray
  refine wpAny_bind (wpAny_load ho ?_)
  show wpAny _ _ (update a (Obj.mapBytearray f) >>= fun _ => lookBehind a) _ _ _
  refine wpAny_bind (wpAny_update ho ?_)
  have h2 : (s.heap.update a (Obj.mapBytearray f)).get? a = some (baObj (f b)) := Heap.get?_update_self (Obj.mapBytearray f) ho rfl
  refine wpAny_lookBehind h2 ?_ (h _ (Heap.SameBut.update ..) h2)
  show (if (f b).size > sizeLine then some "bytearray:memory" else none) = none
  rw [if_neg (Nat.not_lt.mpr hz)]
theorem baPayload {M : Model} {a : Addr} {b : Array UInt8} {Q : Array UInt8 → Shared → Prop} (ho : s.heap.get? a = some (baObj b)) (h : Q b s) : wpAny M A (Builtin.Bytes.payload (.ref a)) Q E s := by
  unfold Builtin.Bytes.payload Builtin.Bytes.payload?
  exact wpAny_bind (wpAny_bind (wpAny_load ho (wpAny_pure (wpAny_pure h))))
set_option maxRecDepth 1000000 in
theorem baEnds : ("bytearray.__release_buffer__".endsWith ("." ++ "__release_buffer__")) = true := by decide +kernel
theorem baDrop : ("bytearray.__release_buffer__".dropRight ("__release_buffer__".length + 1)) = "bytearray" := by decide +kernel
theorem baOwn {a : Addr} {b : Array UInt8} {Q : Bool → Shared → Prop} (ho : s.heap.get? a = some (baObj b)) (h : Q false s) : wpAny (model prog w) A (Builtin.Bytes.ownRelease (.ref a)) Q E s := by
  have hT : s.TypeIs (.ref a) "bytearray" := ⟨_, ho, rfl⟩
  unfold Builtin.Bytes.ownRelease Builtin.Bytes.slotIsOwn
  refine wpAny_bind (wpAny_bind (wpAny_specialOf hT BA.relea ?_))
  show wpAny _ _ (if (!"bytearray.__release_buffer__".endsWith ("." ++ "__release_buffer__")) = true then pure false else isInstance (Value.ref a) (Value.type ("bytearray.__release_buffer__".dropRight ("__release_buffer__".length + 1)))) _ _ _
  rw [baEnds, baDrop]
  exact wpAny_isInstance hT PySem.F.sub_bytearray_bytearray (wpAny_pure h)
theorem baInit {a : Addr} {n : Nat} {t : Tok} {Q : PySem.Fin → Shared → Prop} (ho : s.heap.get? a = some (baObj #[])) (hn : n ≤ 1000) (hn0 : 0 < n)
    (h : ∀ h', Heap.SameBut a s.heap h' → h'.get? a = some (baObj (Array.replicate n 0)) → Q (.done (.ret .none)) { s with heap := h' }) :
    wpC (model prog w) A (Builtin.«bytearray.__init__» ⟨[.ref a, .int n t], []⟩) Q E s := by
  unfold Builtin.«bytearray.__init__»
  dsimp only
  refine cBind (cOf (baOwn ho ?_))
  simp only [Bool.false_eq_true, if_false]
  rw [BA.bindO]
  simp only [pure_bind]
  refine cBind (cOf (wpAny_of_eq (a := ()) rfl ?_))
  refine cBind (cOf (wpAny_of_eq (a := ()) rfl ?_))
  refine cBind ?_
  show wpC _ _ (Builtin.Bytes.exported (.ref a) >>= _) _ _ _
  refine cBind (cExported ?_)
  show wpC _ _ (do let __do_lift ← Builtin.Bytes.exportsOf (Value.ref a); pure (decide (__do_lift > 0))) _ _ _
  refine cBind ?_
  unfold Builtin.Bytes.exportsOf
  refine cOf (wpAny_bind (wpAny_load ho (wpAny_pure (cPure ?_))))
  show wpC _ _ (if decide (0 > 0) = true then _ else _) _ _ _
  rw [if_neg (by decide)]
  have hz0 : ((fun _ : Array UInt8 => (#[] : Array UInt8)) #[]).size ≤ sizeLine := by simp [sizeLine]
  refine cOf ?_
  refine wpAny_bind ?_
  apply baWrite (b := #[]) ho hz0
  intro h₁ hs₁ ho₁
  rw [asStrInt]
  simp only [pure_bind, Option.isSome_none, Bool.false_eq_true, if_false]
  refine wpAny_bind ?_
  have hTI : Shared.TypeIs { s with heap := h₁ } (.int (n : Int) t) "int" := PySem.typeIs_int _ _ _
  have hix := PySem.int_index
  with_reducible refine wpAny_specialOf hTI hix ?_
  simp only [Option.isSome_some, if_true]
  rw [asIndexInt]
  refine wpAny_bind ?_
  refine wpAny_attempt ?_
  refine wpAny_pure ?_
  dsimp only
  have e1 : Builtin.Bytes.fitsIndex (n : Int) = true := by unfold Builtin.Bytes.fitsIndex; simp; omega
  have e2 : ((n : Int) == 2 ^ 63 - 1) = false := by rw [beq_eq_false_iff_ne]; omega
  have e3 : Builtin.Bytes.tooLong (n : Int).toNat = false := by unfold Builtin.Bytes.tooLong; simp [sizeLine]; omega
  have e4 : ¬ ((n : Int) < 0) := by omega
  have e5 : (n : Int) > 0 := by omega
  simp only [e1, e2, e3, Bool.not_true, Bool.false_eq_true, if_false]
  rw [if_neg e4, if_pos e5]
  refine wpAny_bind (wpAny_rule (wpAny_bind (baWrite ho₁ ?_ fun h₂ hs₂ ho₂ => ?_)))
  · show (Array.replicate (n : Int).toNat 0).size ≤ sizeLine
    simp [sizeLine]; omega
  · exact wpAny_pure (h h₂ (hs₁.trans hs₂) (by simpa using ho₂))
end
end Mine
end

section
open PySem PySem.W PyProof.Rows
set_option Elab.async false
set_option maxRecDepth 100000
set_option maxHeartbeats 2000000
namespace Mine
section
variable {prog : Program} {w : World} {A : Around} {E : Value → Shared → Prop} {s : Shared}
theorem cBuiltin {id : String} {args : Args} {b : Builtin} {R : Result → Shared → Prop} (hb : entryFor table id = some b)
    (h : wpC (model prog w) (A.under (.builtin id args)) (b args) (fun fin s' => match fin with | .done f => R (.ok f) s' | .again c' => c'.quiet = true ∧ okCode c' = true ∧ codeC (model prog w) A c' R s') (fun e s' => R (.error e) s') s) :
    codeC (model prog w) A (.builtin id args) R s := by
  refine cTree ?_
  show wpC _ _ (match entryFor table id with | some b => b args | none => unsupported ((withoutEnding? id "#data").getD id)) _ _ s
  rw [hb]; exact h
theorem cNewBA {n : Nat} {t : Tok} {Q : Value → Shared → Prop} (hn : n ≤ 1000) (hn0 : 0 < n)
    (h : ∀ h', (∀ b o, s.heap.get? b = some o → h'.get? b = some o) → h'.objs.size = s.heap.objs.size + 1 → h'.get? s.heap.objs.size = some (baObj (Array.replicate n 0)) → Q (.ref s.heap.objs.size) { s with heap := h' }) :
    wpC (model prog w) A (call (.type "bytearray") [.int n t]) Q E s := by
  refine cCall (cTree ?_)
  show wpC _ _ (callAny (.type "bytearray") _) _ _ _
  refine cPure ⟨Code.quiet_builtin _ (by decide +kernel), rfl, cBuiltin F.entry_type_call ?_⟩
  rw [Around.under_plain (weight_type_call_type "bytearray" [.int n t] []) (units_type_call_type "bytearray" [.int n t] [])]
  have ft := BA.called
  have h1 := ft.notType
  have h2 := ft.canCreate
  have h3 := ft.made
  have h4 := ft.sub
  have h5 := BA.typeCall (.int n t)
  have h6 := BA.mro
  unfold Builtin.«type.__call__»
  dsimp only
  simp only [h1, h2, h5, h6, h3, Bool.false_eq_true, if_false, pure_bind, List.isEmpty_cons]
  refine cBind (cHolding (cCall (cCode ?_)))
  refine baNew (E := E) (Q₁ := fun obj s₁ => obj = .ref s.heap.objs.size ∧ s₁ = { s with heap := s.heap.push (baObj #[]) }) _ ⟨rfl, rfl⟩ |> fun z => codeAny_mono z ?_
  intro r s₁ hr
  cases r with
  | error e => exact hr
  | ok fl =>
    cases fl with
    | ret obj =>
      obtain ⟨rfl, rfl⟩ := hr
      have ho : (s.heap.push (baObj #[])).get? s.heap.objs.size = some (baObj #[]) := Heap.get?_push_size _ rfl
      have hT : Shared.TypeIs { s with heap := s.heap.push (baObj #[]) } (.ref s.heap.objs.size) "bytearray" := ⟨_, ho, rfl⟩
      refine cBind (cOf ?_)
      with_reducible refine wpAny_isInstance hT h4 ?_
      simp only [Bool.not_true, Bool.false_eq_true, if_false]
      refine cBind (cHolding ?_)
      unfold callSpecial?
      have hli := BA.slotInit.lookup
      have hbi := BA.slotInit.bind (.ref s.heap.objs.size)
      refine cBind (cOf ?_)
      with_reducible refine wpAny_specialOf hT hli ?_
      dsimp only
      refine cHolding ?_
      rw [hbi]
      simp only [pure_bind]
      refine cBind (cCall (cTree ?_))
      show wpC _ A.in1.in1 (do checkBuiltinCall "bytearray.__init__" ⟨[.ref s.heap.objs.size, .int n t], []⟩; again (.builtin "bytearray.__init__" ⟨[.ref s.heap.objs.size, .int n t], []⟩)) _ _ _
      refine cBind (cOf (BA.slotInit.check _ _ _ _ _ _ _ _ hT (BA.argsInit _ _) ?_))
      refine cPure ⟨plainId_quiet BA.plainInit _, rfl, cBuiltin BA.entryInit ?_⟩
      refine baInit ho hn hn0 fun h' hs' ho' => ?_
      refine cPure (cPure (h h' (fun b o e => hs'.extBut b o (Nat.ne_of_lt (Heap.lt_size e)) (Heap.get?_push_of_some _ e)) ?_ ho'))
      rw [hs'.1, Heap.size_push]
    | _ => exact hr.elim
end
end Mine
end

section
open PySem PySem.W PyProof.Rows
set_option Elab.async false
set_option maxRecDepth 100000
set_option maxHeartbeats 2000000
namespace Mine
namespace BA
theorem ownBytes : typeLookup (.type "bytearray") "__bytes__" = pure none := by rw [typeLookup_type, builtinLookup_eq_fast]; kernel_rfl
theorem ownIndex : typeLookup (.type "bytearray") "__index__" = pure none := by rw [typeLookup_type, builtinLookup_eq_fast]; kernel_rfl
theorem ownBuffer : typeLookup (.type "bytearray") "__buffer__" = pure (some (.builtin "bytearray.__buffer__")) := by rw [typeLookup_type, builtinLookup_eq_fast]; kernel_rfl
end BA
theorem baEnds2 : ("bytearray.__buffer__".endsWith ("." ++ "__buffer__")) = true := by decide +kernel
theorem baDrop2 : ("bytearray.__buffer__".dropRight ("__buffer__".length + 1)) = "bytearray" := by decide +kernel
section
variable {prog : Program} {w : World} {A : Around} {E : Value → Shared → Prop} {s : Shared}
theorem subInt {i : Int} {t : Tok} {Q : Option Int → Shared → Prop} (hi : Builtin.Bytes.fitsIndex i = true) (h : Q (some i) s) : wpAny (model prog w) A (Builtin.Bytes.subscript? (.int i t)) Q E s := by
  unfold Builtin.Bytes.subscript?
  have hTI : Shared.TypeIs s (.int i t) "int" := PySem.typeIs_int _ _ _
  have hix := PySem.int_index
  refine wpAny_bind ?_
  with_reducible refine wpAny_specialOf hTI hix ?_
  simp only [Option.isNone_some, Bool.false_eq_true, if_false]
  rw [asIndexInt]
  simp only [pure_bind, hi, Bool.not_true, Bool.false_eq_true, if_false]
  exact wpAny_pure h
theorem fits {i : Int} (h0 : 0 ≤ i) (h1 : i < 2 ^ 40) : Builtin.Bytes.fitsIndex i = true := by unfold Builtin.Bytes.fitsIndex; simp; omega
theorem seqIdxOut {i : Int} {n : Nat} (h0 : 0 ≤ i) (h1 : (n : Int) ≤ i) : seqIndex? i n = none := by
  unfold seqIndex?
  have : ¬ i < 0 := by omega
  simp only [this, if_false]
  rw [if_neg]
  simp only [Bool.and_eq_true, decide_eq_true_eq]; omega
theorem baSet {a : Addr} {b : Array UInt8} {i v : Int} {t u : Tok} {Q : Unit → Shared → Prop} (ho : s.heap.get? a = some (baObj b)) (h0 : 0 ≤ i) (h1 : i < b.size) (hb : b.size ≤ 1000) (hv0 : 0 ≤ v) (hv1 : v < 256)
    (h : ∀ h', Heap.SameBut a s.heap h' → h'.get? a = some (baObj (b.setIfInBounds i.toNat v.toNat.toUInt8)) → Q () { s with heap := h' }) :
    wpAny (model prog w) A (setItem (.ref a) (.int i t) (.int v u)) Q E s := by
  have hT : s.TypeIs (.ref a) "bytearray" := ⟨_, ho, rfl⟩
  unfold setItem
  try with_reducible refine wpAny_holding ?_
  first | refine wpAny_bind (wpAny_pure ?_) | skip
  refine wpAny_bind (wpAny_sequenceKey hT (by decide) ?_)
  refine wpAny_bind (wpAny_callSpecial?_slot (name := Str.ofString "__setitem__") hT BA.slotSet
    (wpAny_call_entry BA.slotSet hT BA.entrySet ?_ (BA.argsSet _ _ _)))
  unfold Builtin.«bytearray.__setitem__»
  dsimp only
  simp only [List.isEmpty_nil, Bool.not_true, Bool.false_eq_true, if_false]
  refine wpAny_bind (subInt (fits h0 (by omega)) ?_)
  dsimp only
  unfold Builtin.Bytes.byteValue
  refine wpAny_bind ?_
  rw [asIndexInt]
  simp only [pure_bind]
  have hv : (decide (v < 0) || decide (v ≥ 256)) = false := by simp; omega
  simp only [hv, Bool.false_eq_true, if_false]
  refine wpAny_pure ?_
  refine wpAny_bind (baPayload ho ?_)
  rw [PyProof.Rows.seqIndex_at h0 h1]
  dsimp only
  refine wpAny_bind (baWrite ho ?_ fun h' hs' ho' => ?_)
  · rw [Array.size_setIfInBounds]; simp [sizeLine]; omega
  · exact wpAny_pure ⟨_, rfl, wpAny_pure (h h' hs' ho')⟩
theorem baSetOut {a : Addr} {b : Array UInt8} {i v : Int} {t u : Tok} {Q : Unit → Shared → Prop} (hA : A.handled = none) (ho : s.heap.get? a = some (baObj b)) (h0 : 0 ≤ i) (h1 : (b.size : Int) ≤ i) (hi : i < 2 ^ 40) (hv0 : 0 ≤ v) (hv1 : v < 256)
    (hE : ∀ h' tk e, Heap.NewExc s.heap h' e "IndexError" → E (.ref e) { s with heap := h', toks := tk }) :
    wpAny (model prog w) A (setItem (.ref a) (.int i t) (.int v u)) Q E s := by
  have hT : s.TypeIs (.ref a) "bytearray" := ⟨_, ho, rfl⟩
  unfold setItem
  try with_reducible refine wpAny_holding ?_
  first | refine wpAny_bind (wpAny_pure ?_) | skip
  refine wpAny_bind (wpAny_sequenceKey hT (by decide) ?_)
  refine wpAny_bind (wpAny_callSpecial?_slot (name := Str.ofString "__setitem__") hT BA.slotSet
    (wpAny_call_entry BA.slotSet hT BA.entrySet ?_ (BA.argsSet _ _ _)))
  unfold Builtin.«bytearray.__setitem__»
  dsimp only
  simp only [List.isEmpty_nil, Bool.not_true, Bool.false_eq_true, if_false]
  refine wpAny_bind (subInt (fits h0 hi) ?_)
  dsimp only
  unfold Builtin.Bytes.byteValue
  refine wpAny_bind ?_
  rw [asIndexInt]
  simp only [pure_bind]
  have hv : (decide (v < 0) || decide (v ≥ 256)) = false := by simp; omega
  simp only [hv, Bool.false_eq_true, if_false]
  refine wpAny_pure ?_
  refine wpAny_bind (baPayload ho ?_)
  rw [seqIdxOut h0 h1]
  dsimp only
  first
      | exact wpAny_bind (wpAny_rule (by exact_raiseError plainExc_IndexError hA hE))
      | exact wpAny_bind (wpAny_rule (wpAny_bind (by exact_raiseError plainExc_IndexError hA hE)))
      | exact wpAny_bind (wpAny_bind (wpAny_rule (by exact_raiseError plainExc_IndexError hA hE)))
      | exact wpAny_rule (by exact_raiseError plainExc_IndexError hA hE)
theorem bytesOfBA {a : Addr} {b : Array UInt8} {Q : Value → Shared → Prop} (ho : s.heap.get? a = some (baObj b)) (hb : b.size ≤ 1000) (h : ∀ t k, Q (.bytes b t) { s with toks := k }) :
    wpAny (model prog w) A (call (.type "bytes") [.ref a]) Q E s := by
  have hT : s.TypeIs (.ref a) "bytearray" := ⟨_, ho, rfl⟩
  refine callType_codes (Q₁ := fun obj s₁ => s₁.TypeIs obj "bytes" ∧ Q obj s₁) F.bm_called (F.bm_typeCall _) F.entry_object_init ?_ fun obj s₁ h₁ => ?_
  · refine codeAny_of_tree ?_
    show wpAny _ A.in1.in1 (do checkBuiltinCall "bytes.__new__" ⟨[.type "bytes", .ref a], []⟩; again (.builtin "bytes.__new__" ⟨[.type "bytes", .ref a], []⟩)) _ _ s
    refine wpAny_bind (wpAny_of_eq (F.bm_newCall _) (wpAny_pure ⟨plainId_quiet F.bm_plain _, codeAny_builtin F.bm_entry ?_⟩))
    rw [Around.under_plainId F.bm_plain _]
    unfold Builtin.«bytes.__new__»
    refine wpAny_bind (wpAny_of_eq (a := true) rfl ?_)
    refine bm_if_false rfl ?_
    refine wpAny_bind (wpAny_of_eq F.bm_sub ?_)
    refine bm_if_false rfl ?_
    refine wpAny_bind (wpAny_of_eq (F.bm_bind _) ?_)
    refine wpAny_bind (wpAny_of_eq (a := ()) rfl ?_)
    refine wpAny_bind (wpAny_of_eq (a := ()) rfl ?_)
    refine bm_if_false rfl ?_
    refine wpAny_bind (wpAny_specialOf hT BA.ownBytes ?_)
    refine wpAny_bind (wpAny_bind ?_)
    show wpAny _ _ (load a >>= _) _ _ _
    refine wpAny_bind (wpAny_load ho ?_)
    refine wpAny_pure (wpAny_pure ?_)
    refine bm_if_false rfl ?_
    refine wpAny_bind (wpAny_specialOf hT BA.ownIndex ?_)
    refine bm_if_true rfl ?_
    refine wpAny_bind ?_
    unfold Builtin.Bytes.buffer? Builtin.Bytes.slotIsOwn
    refine wpAny_bind (wpAny_specialOf hT BA.ownBuffer ?_)
    dsimp only
    refine wpAny_bind (wpAny_bind (wpAny_specialOf hT BA.ownBuffer ?_))
    show wpAny _ _ (if (!"bytearray.__buffer__".endsWith ("." ++ "__buffer__")) = true then pure false else isInstance (Value.ref a) (Value.type ("bytearray.__buffer__".dropRight ("__buffer__".length + 1)))) _ _ _
    rw [baEnds2, baDrop2]
    refine wpAny_isInstance hT PySem.F.sub_bytearray_bytearray ?_
    refine bm_if_false rfl ?_
    refine wpAny_bind (wpAny_specialOf hT BA.ownBuffer ?_)
    refine wpAny_bind (baOwn ho ?_)
    refine bm_if_false rfl ?_
    refine wpAny_bind (baPayload ho (wpAny_pure ?_))
    try dsimp only
    refine wpAny_bind (wpAny_rule (wpAny_bind (wpAny_mkBytes ?_ (by simp [sizeLine]; omega))))
    show wpAny _ _ (if (Value.type "bytes" == Value.type "bytes") = true then _ else _) _ _ _
    refine bm_if_true (by decide) ?_
    first
      | exact wpAny_pure ⟨typeIs_bytes _ _ _, h _ _⟩
      | exact wpAny_bind (wpAny_pure (wpAny_pure ⟨typeIs_bytes _ _ _, h _ _⟩))
  · exact ⟨h₁.1, F.args_object_init_2 obj _, object_init_meets F.bm_called.init.lookup F.bm_called.made (by decide) prog w A.in1 _ s₁ ⟨h₁.1, rfl, h₁.2⟩⟩
end
end Mine
end

section
open PySem PySem.W PySem.Calls PyProof.Rows
set_option Elab.async false
set_option maxRecDepth 100000
set_option maxHeartbeats 2000000
namespace Mine
abbrev caller0 : Ctx := ⟨.builtin "claim.caller" {}, none, none, [], none⟩
theorem calm0 : Calm caller0 := ⟨by decide, fun _ h => nomatch h⟩
theorem cNsGet {M : Model} {A : Around} {E : Value → Shared → Prop} {s : Shared} {a : Addr} {m : Str → Option Value} {name : Str} {Q : Option Value → Shared → Prop} (hn : s.heap.Ns a m) (h : Q (m name) s) : wpC M A (nsGet a name) Q E s := cOf (wpAny_nsGet hn h)
abbrev endsAt (c : ClaimW) (s : Shared) (args : List WData) (vs : List Value) (s₁ : Shared) (kept : Heap → Prop) (r : Result) (s' : Shared) : Prop :=
  c.Ends s args vs s₁ r s' ∧ s'.os = s.os ∧ AllBare s'.gens ∧ kept s'.heap
/-- the caller's thread, from what is shown at the caller's own (calm) context -/
theorem callFromC {c : ClaimW} {tree : List Value → Sem PySem.Fin} {w : World} {s : Shared} {free : Addr → Prop} {gens : Prop} {kept : Heap → Prop} (hz : s.asleep) (hgens : s.gens = #[])
    (spec : ∀ args, c.pre args = true → WData.layableAll args = true → ∀ ord : List DictEntry → List DictEntry, (∀ l, (ord l).Perm l) →
      ∃ vs s₁, layAllW c.records (classAt s.heap) w.params ord args s = some (vs, s₁) ∧
        wpC (model c.prog w) callerA (tree vs) (fun fin s' => ∃ f, fin = .done f ∧ endsAt c s args vs s₁ kept (.ok f) s') (fun e s' => endsAt c s args vs s₁ kept (.error e) s') s₁) :
    c.CallFrom (fun vs => ⟨tree vs, .builtin "claim.caller" {}, default, []⟩) w free gens kept s := by
  intro args hpre hlay ord hord
  obtain ⟨vs, s₁, hlaid, hcode⟩ := spec args hpre hlay ord hord
  have rest := layAllW_rest _ _ _ hlaid
  have hw : Sem.wp (model c.prog w) caller0 (tree vs) (Sem.finPost (model c.prog w) caller0 fun r s' => (c.Ends s args vs s₁ r s' ∧ s'.os = s.os ∧ kept s'.heap) ∧ leftWithCleanup s'.gens = false)
      (fun e _ s' => (c.Ends s args vs s₁ (.error e) s' ∧ s'.os = s.os ∧ kept s'.heap) ∧ leftWithCleanup s'.gens = false) default s₁ := by
    refine Sem.wp_mono _ _ _ ?_ ?_ default s₁ (hcode caller0 default caller_in calm0)
    · rintro fin p s' ⟨f, rfl, a, b, d, k⟩
      exact ⟨⟨a, b, k⟩, leftWithCleanup_false_of_bare d⟩
    · rintro e p s' ⟨a, b, d, k⟩
      exact ⟨⟨a, b, k⟩, leftWithCleanup_false_of_bare d⟩
  obtain ⟨n, r, s₂, s₃, hn, hs, hfo, hcase, hos, hkp⟩ := wp_halts_full (M := model c.prog w) (R := fun r s' => c.Ends s args vs s₁ r s' ∧ s'.os = s.os ∧ kept s'.heap) (Shared.asleep_of_life rest.2.2.2 hz) hw
  obtain ⟨eh, _, _, eo, _⟩ := Shared.forget_eq hfo
  have hcase := hcase.congr eh
  have hkp : kept s₃.heap := by rw [eh]; exact hkp
  rw [← eo] at hos
  refine ⟨vs, s₁, hlaid, n, _, s₃, hn, ?_, (fun _ i x hx => by rw [hgens] at hx; simp at hx), hkp, by rw [(runN_life _ _ _ hs).trans rest.2.2.2], Shared.rest_eq hos⟩
  rcases hcase with ⟨v, rfl, d1, d2, d3, d4, d5⟩ | ⟨e, ob, cls, rfl, d1, d2, d3, d4, d5⟩
  · exact .inl ⟨v, rfl, d1, d2, d3, fun b o y _ => d4 b o y, d5⟩
  · exact .inr ⟨e, ob, cls, rfl, d1, d2, d3, d4, fun b o y _ => d5 b o y⟩

/-- what a law's walk shows, at the caller's calm context -/
abbrev WalkC (q : Program) (loose : List Str) (XP : (Str → Option Value) → Heap → Prop) (YP : World → Heap → Prop) (r : RowW) (d : DefRec) (kwd : List (Str × Expr)) (run : Value → List Value → Sem Value) : Prop :=
  ∀ (w : World) (s₀ s₁ : Shared) (mg mb : Str → Option Value), Ground q loose r.records XP w s₀ mg mb s₁.heap → YP w s₁.heap → ∀ (a : Addr) (o : Obj) (pm cd doc dV kV : Value), s₁.heap.get? a = some o →
    o.data = .func { docDef d.name d.params d.body d.scope pm cd doc with defaults := dV, kwdefaults := kV } → s₁.heap.CodeRec cd d.name → Dflts mg s₁.heap d.params kwd dV kV → mg d.name = some (.ref a) → s₁.gens = #[] →
    ∀ (args : List WData) (vals : List Value) (as : List Addr), r.claim.pre args = true → WData.layableAll args = true → ReadsAllW r.records (classAt s₀.heap) s₁.heap vals args as → WellAll w.params s₁.heap vals args → (∀ a ∈ as, (a == sysModules) = false) →
      wpC (model r.prog w) callerA (run (.ref a) vals) (fun v s' => GoodWG r.claim (classAt s₀.heap) (ExcName.means s₀.heap) args s₁ (.ok (.ret v)) s')
        (fun e s' => GoodWG r.claim (classAt s₀.heap) (ExcName.means s₀.heap) args s₁ (.error e) s') s₁

theorem PySem.W.holds_open {r : OpenRow} {q : Program} {loose : List Str} {Xt : Shared → Bool} {XP : (Str → Option Value) → Heap → Prop} {α : Type} {Yf : Shared → α} {Ya : World → α} {YP : World → Heap → Prop} {d : DefRec} {kwd : List (Str × Expr)} {N : Nat}
    (left : LeftO r.prog q loose Xt Yf Ya N) (hY : ∀ w s, Yf s = Ya w → YP w s.heap) (hYk : ∀ w h h', YP w h → (∀ b o, h.get? b = some o → h'.get? b = some o) → YP w h')
    (hX : ∀ s, Xt s = true → XP (s.heap.nsMap mainGlobals) s.heap) (hXk : ∀ mg h h', XP mg h → (∀ b o, h.get? b = some o → h'.get? b = some o) → XP mg h')
    (hdef : defOf q r.name = some (d, kwd)) (hp : r.prog.theDef r.name = some (d.params, d.body, d.scope)) (hk : kwWritten? d.params.kwonlyargs d.params.kw_defaults = some kwd) (hRf : ∀ s, Xt s = true → RecFacts r.records s.heap) (hwr : (!r.writes || r.records.isEmpty) = true)
    (k1 : r.wellSaid = true) (ok : (chainsOk q && opensWell r.prog && (frees r.toRowW && r.within.isEmpty)) = true) (hb : r.prog.bare) (hw : r.toRowW.promised)
    (call : WalkC q loose XP YP r.toRowW d kwd fun f vs => PySem.call f vs) : r.Holds := by
  obtain ⟨ok, k5⟩ := Bool.and_eq_true_iff.mp ok
  obtain ⟨hch, o1⟩ := Bool.and_eq_true_iff.mp ok
  obtain ⟨k5, k6⟩ := Bool.and_eq_true_iff.mp k5
  obtain ⟨hsame, hu, ha, hap, hm⟩ := frees_parts k5
  have both := fun (s : Shared) (hs : Xt s = true) => And.intro (hX s hs) (hRf s hs)
  refine ⟨k1, hw, ⟨⟨hb, o1, by show r.toRowW.makers.map _ = []; rw [hm]; rfl⟩, hw.witness, fun w => ⟨(left.behind hX hch w).1, fun s' hs' => ?_⟩⟩⟩
  obtain ⟨s₀, hf, hg0, s, hT, hz, hgens, hg, H, y⟩ := (left.behind (XP := fun mg h => XP mg h ∧ RecFacts r.records h) both hch w).2 s' hs'
  have hT' := hT
  have G0 : Ground q loose [] XP w s (s.heap.nsMap mainGlobals) (s.heap.nsMap builtinsNs) s.heap := ⟨H.T, H.B, H.D, H.TE, H.TD, H.W, H.X.1, H.cls, H.has, H.apart, H.once, H.K⟩
  have hgens : s.gens = #[] := Array.eq_empty_of_size_eq_zero (beq_iff_eq.mp hgens)
  have RF := H.X.2
  refine ⟨s₀, hf, hg0, s, hT, fun n hn => ?_, RF.1, RF.2.1, ?_⟩
  · obtain rfl : n = r.name := by split at hn <;> simp_all
    exact pinned_of_view hg G0 hdef hp hk
  · have G : Ground q loose r.toRowW.records XP w s _ _ s.heap := RF.ground G0
    refine callFromC (c := r.toRowW.claim) hz hgens fun args hpre hlay ord hord => ?_
    obtain ⟨⟨vs, s₁⟩, hlaid⟩ := Option.isSome_iff_exists.mp (layAllW_isSome (P := w.params) (ord := ord) G.has args r.toRowW.args s (pre_splitW hpre).1)
    have keeps := layAllW_keeps _ _ _ hlaid
    have rest := layAllW_rest _ _ _ hlaid
    obtain ⟨as, hrd, hin, hold⟩ := reads_layAllW hord _ _ _ hlaid hlay s₁.heap (fun _ _ e => e)
    have L : Laid r.toRowW.records w s s₁ args vs as := ⟨⟨ord, hord, hlaid⟩, hrd, hin, hold, keeps, rest.1.trans hgens, rest.2.2.1⟩
    have G₁ := G.keeps hXk keeps
    obtain ⟨a, o, pm, cd, doc, dV, kV, h1, h2, h3, h4, h5⟩ := G₁.fn hdef
    have walk := call w s s₁ _ _ G₁ (hYk _ _ _ (hY w s y) keeps) a o pm cd doc dV kV h2 h3 h4 h5 (defOf_name hdef ▸ h1) L.gens args vs as hpre hlay L.reads L.well (L.low G.low)
    have hi := ident_freeW hu ha hap
    have hwi : r.toRowW.claim.within = [] := List.isEmpty_iff.mp k6
    refine ⟨vs, s₁, hlaid, cBind (cNsGet G₁.T.g ?_)⟩
    rw [h1]
    refine cBind (cMono walk (fun v s' g => cPure ⟨_, rfl, ?_⟩) fun e s' g => ?_)
    all_goals
      have z := g.laid (c := r.toRowW.claim) hsame hwi hi L
      exact ⟨z.1, z.2.1, z.2.2, fun q => ⟨namesKept_of hT' hg _ keeps g.2.1.old, noTable hwr q⟩⟩
end Mine
end

section
open PySem PySem.W PySem.Calls PyProof.Rows
set_option Elab.async false
set_option maxRecDepth 100000
set_option maxHeartbeats 2000000
namespace Mine
section
variable {M : Model} {A : Around} {E : Value → Shared → Prop} {s : Shared} {env : Env}
theorem cExecsNil {Q : Flow → Shared → Prop} (h : Q .next s) : wpC M A (execs [] env) Q E s := cPure h
theorem cExecsCons {st : Stmt} {rest : List Stmt} {Q : Flow → Shared → Prop}
    (h : wpC M A (exec st env) (fun f s' => match f with | .next => wpC M A (execs rest env) Q E s' | f => Q f s') E s) : wpC M A (execs (st :: rest) env) Q E s := by
  rw [execs_cons]
  refine cBind (cMono h (fun f s' h' => ?_) fun _ _ x => x)
  cases f <;> first | exact h' | exact cPure h'
theorem cAssign {x : Str} {pos' pos : Pos} {value : Expr} {Q : Flow → Shared → Prop}
    (hs : swapsWith value (some (.Name x pos')) pos.line env = pure false)
    (h : wpC M A (eval value env) (fun v s₁ => wpAny M A (storeName env x v) (fun _ s₂ => Q .next s₂) E s₁) E s) : wpC M A (exec (.Assign [.Name x pos'] value pos) env) Q E s := by
  rw [exec_Assign_Name env x pos' value pos hs]
  refine cBind (cStandAt (cBind (cMono h (fun v s₁ h₁ => ?_) fun _ _ x => x)))
  refine cBind (cStandAt (cBind (cOf ?_)))
  intro Γ p hΓ
  rw [Sem.wp_bindName]
  exact Sem.wp_mono (post' := fun _ _ s' => wpC M A (pure Flow.next) Q E s') _ _ _ (fun _ _ _ q => cPure q) (fun _ _ _ q => q) _ _ (h₁ Γ p hΓ)
theorem cIf {test : Expr} {body orelse : List Stmt} {pos : Pos} {Q : Flow → Shared → Prop}
    (h : wpC M A (isTrue test env (eval test env)) (fun b s₁ => wpC M A (if b = true then execs body env else execs orelse env) Q E s₁) E s) : wpC M A (exec (.If test body orelse pos) env) Q E s := by
  rw [exec_If]
  refine cBind (cStandAt (cBind (cMono h (fun b s₁ h₁ => h₁) fun _ _ x => x)))
theorem cReturn {e : Expr} {pos : Pos} {Q : Flow → Shared → Prop} (h : wpC M A (eval e env) (fun v s' => Q (.ret v) s') E s) : wpC M A (exec (.Return (some e) pos) env) Q E s := by
  rw [exec_Return_some]
  exact cBind (cStandAt (cBind (cMono h (fun v s' q => cPure q) fun _ _ x => x)))
theorem cExpr {e : Expr} {pos : Pos} {Q : Flow → Shared → Prop} (hi : interactive env = false) (hs : swapsWith e none pos.line env = pure false)
    (h : wpC M A (eval e env) (fun v s' => wpC M A (dropValue e pos v) Q E s') E s) : wpC M A (exec (.Expr e pos) env) Q E s := by
  rw [exec_Expr env e pos hi hs]
  exact cBind (cStandAt (cBind h))
theorem cTry {body orelse : List Stmt} {h₀ : ExceptHandler} {hs : List ExceptHandler} {pos : Pos} {Q : Flow → Shared → Prop}
    (h : wpC M A (execs body env) (fun f s₁ => match f with | .next => wpC M A (execs orelse env) Q E s₁ | f => Q f s₁)
      (fun e s₁ => wpAny M A (noteFrame e env) (fun _ s₂ => wpAny M A (setFlight e none) (fun _ s₃ => wpAny M A (handleBy e env (h₀ :: hs)) Q E s₃) E s₂) E s₁) s) :
    wpC M A (exec (.Try body (h₀ :: hs) orelse [] pos) env) Q E s := by
  rw [arm_exec_Try]
  refine cBind (cStandAt ?_)
  unfold tryStmt
  simp only [List.isEmpty_nil, if_true]
  refine cBind (cAttempt (cMono h (fun f s₁ h₁ => ?_) fun e s₁ h₁ => ?_))
  · cases f <;> first | exact h₁ | exact cPure h₁
  · refine cOf (wpAny_bind (wpAny_mono h₁ (fun _ s₂ h₂ => ?_) fun _ _ x => x))
    simp only [List.isEmpty_cons, Bool.false_eq_true, if_false, Bool.false_and]
    exact wpAny_bind (wpAny_mono h₂ (fun _ s₃ h₃ => h₃) fun _ _ x => x)
theorem cFor {target iter : Expr} {body orelse : List Stmt} {pos : Pos} {Q : Flow → Shared → Prop}
    (h : wpAny M A (eval iter env) (fun x s₁ => wpAny M A (pyIter x) (fun it s₂ =>
      codeC M A (.forLoop target it body orelse env) (fun r s' => match r with | .ok f => Q f s' | .error e => cameBackBy M A env E e s') s₂) E s₁) E s)
    (hs : ∀ x, foldedSetIterable iter env x = pure x) : wpC M A (exec (.For target iter body orelse pos) env) Q E s := by
  rw [exec_For]
  refine cBind (cStandAt (cBind (cOf (wpAny_mono h (fun x s₁ h₁ => ?_) fun _ _ x => x))))
  rw [hs]
  refine cBind (cPure (cBind (cStandAt (cBind (cHolding (cOf (wpAny_mono h₁ (fun it s₂ h₂ => ?_) fun _ _ x => x)))))))
  exact cRunOwn rfl h₂
end
section
variable {prog : Program} {w : World} {A : Around} {E : Value → Shared → Prop} {s : Shared} {env : Env} {R : Result → Shared → Prop}
theorem cFunc {body : List Stmt} (h : wpC (model prog w) (A.deeper env) (execs body env) (fun f s' => R (.ok (.ret (match f with | .ret v => v | _ => .none))) s')
      (fun e s' => wpAny (model prog w) (A.deeper env) (leaving env e) (fun _ s'' => R (.error e) s'') (fun e' s'' => R (.error e') s'') s') s) :
    codeC (model prog w) A (.func body env) R s := by
  refine cTree ?_
  show wpC _ (A.deeper env) (do point; match ← (execs body env).onRaise (leaving env) with | .ret v => ret v | _ => ret .none) _ _ s
  refine cBind (cPoint (cBind (cOnRaise (cMono h (fun f s' h' => ?_) fun _ _ h' => cOf h'))))
  cases f <;> exact cPure h'
theorem cBlockNil (h : R (.ok .next) s) : codeC (model prog w) A (.block [] env) R s :=
  cCode (codeAny_block (wpAny_pure h))
abbrev cNoted (prog : Program) (w : World) (A : Around) (env : Env) (R : Result → Shared → Prop) : Value → Shared → Prop := fun x s' => wpAny (model prog w) A (do noteFrame x env; theTreesLotGoes x) (fun _ s'' => R (.error x) s'') (fun e s'' => R (.error e) s'') s'
theorem cForTurn {target : Expr} {it : Value} {body orelse : List Stmt}
    (h : wpAny (model prog w) A (pyNext it) (fun o s₁ => match o with
      | none => codeC (model prog w) A (.block orelse env) R s₁
      | some v => wpAny (model prog w) A (letOwnedTupleGo target it v) (fun _ s₂ => wpAny (model prog w) A (assign target env v) (fun _ s₃ =>
          wpC (model prog w) A (execs body env) (fun f s₄ => match f with
            | .next | .cont => codeC (model prog w) A (.forLoop target it body orelse env) R s₄
            | .brk => R (.ok .next) s₄
            | .ret v => R (.ok (.ret v)) s₄) (cNoted prog w A env R) s₃) (cNoted prog w A env R) s₂) (cNoted prog w A env R) s₁) (cNoted prog w A env R) s) :
    codeC (model prog w) A (.forLoop target it body orelse env) R s := by
  refine cTree ?_
  show wpC _ A ((forTurn target it body orelse env).onRaise (fun x => do noteFrame x env; theTreesLotGoes x)) _ _ s
  refine cOnRaise (cMono (E := cNoted prog w A env R) ?_ (fun _ _ q => q) fun _ _ q => cOf q)
  simp only [forTurn]
  refine cBind (cStandAt (cBind (cOnRaise (cMono (cOf h) (fun o s₁ h₁ => ?_) fun _ _ q => cStandAt q))))
  cases o with
  | none => exact cPure ⟨rfl, rfl, h₁⟩
  | some v =>
    refine cBind (cOf (wpAny_mono h₁ (fun _ s₂ h₂ => ?_) fun _ _ q => q))
    refine cBind (cOf (wpAny_mono h₂ (fun _ s₃ h₃ => ?_) fun _ _ q => q))
    refine cBind (cMono h₃ (fun f s₄ h₄ => ?_) fun _ _ q => q)
    cases f with
    | next => exact cPure ⟨rfl, rfl, h₄⟩
    | cont => exact cPure ⟨rfl, rfl, h₄⟩
    | brk => exact cPure h₄
    | ret v => exact cPure h₄
theorem cCallFunction {a : Addr} {args : Args} {o : Obj} {fd : FuncData} {body : List Stmt} (hroom : A.depth < recursionLimit)
    (ho : s.heap.get? a = some o)
    (hd' : o.data = .func fd) (hco : fd.scope.isCoroutine = false) (hgen : fd.scope.isGenerator = false) (hbody : fd.body = .stmts body) (hcd : s.heap.CodeRec fd.code fd.qualname)
    (h : wpAny (model prog w) A.in1 (bindArgs fd args) (fun binds s₁ =>
      wpAny (model prog w) A.in1 (newFunctionEnv fd.scope fd.globals fd.closure binds (fd.qualname ++ ".<locals>.") (some a) fd.code none fd.builtins)
        (fun env s₂ => s₂.heap.NoLimit ∧ codeC (model prog w) A (.func body env) R s₂) (fun e s' => R (.error e) s') s₁) (fun e s' => R (.error e) s') s) :
    codeC (model prog w) A (.call (.ref a) args) R s := by
  refine cTree ?_
  show wpC _ A.in1 (callAny (.ref a) args) _ _ s
  simp only [callAny]
  refine cBind (cOf (wpAny_load ho ?_))
  obtain ⟨c, oc, vs, tq, hc, hoc, hdc, hq⟩ := hcd
  simp only [hd', callFunction, hco, hgen, hbody, hc]
  rw [hc] at h
  refine cBind (cOf (wpAny_field hoc hdc hq ?_))
  refine cBind (cPure (cBind (cOf (wpAny_mono h (fun binds s₁ h₁ => ?_) fun _ _ q => q))))
  refine cBind (cOf (wpAny_mono h₁ (fun env s₂ h₂ => ?_) fun _ _ q => q))
  exact cBind (cOf (wpAny_enterFrame h₂.1 hroom (cPure ⟨rfl, rfl, h₂.2⟩)))
theorem cCallDef {a : Addr} {o : Obj} {fd : FuncData} {body : List Stmt} {args : Args} {binds : List (Str × Value)}
    (hroom : A.depth < recursionLimit) (ho : s.heap.get? a = some o) (hdata : o.data = .func fd) (hlim : s.heap.NoLimit) (hcd : s.heap.CodeRec fd.code fd.qualname)
    (hbody : fd.body = .stmts body) (hbind : BindsTo s fd args binds)
    (hcell : ∀ x ∈ fd.scope.names, x.2 ≠ .cell) (hloc : ∀ x ∈ binds, fd.scope.names.lookup x.1 = some .local)
    (h : ∀ h₀, h₀.Ns s.heap.objs.size (fun x => binds.reverse.lookup x) → (∀ b o, s.heap.get? b = some o → h₀.get? b = some o) →
      wpC (model prog w) (A.deeper (callEnv fd s.heap.objs.size a)) (execs body (callEnv fd s.heap.objs.size a)) (fun f s' => R (.ok (.ret (match f with | .ret v => v | _ => .none))) s')
        (fun e s' => wpAny (model prog w) (A.deeper (callEnv fd s.heap.objs.size a)) (leaving (callEnv fd s.heap.objs.size a) e) (fun _ s'' => R (.error e) s'') (fun e' s'' => R (.error e') s'') s')
        { s with heap := h₀, toks := s.toks + binds.length })
    (hco : fd.scope.isCoroutine = false) (hgen : fd.scope.isGenerator = false) (hk : fd.scope.kind = .function) :
    codeC (model prog w) A (.call (.ref a) args) R s := by
  refine cCallFunction hroom ho hdata hco hgen hbody hcd (hbind _ _ _ _ ?_)
  refine wpAny_newFunctionEnv hcell hloc (fun h₀ hns₀ hsb₀ => ⟨hlim.fresh _ hsb₀, cFunc (h h₀ hns₀ fun b o e => ?_)⟩) hk
  exact hsb₀.extBut b o (Nat.ne_of_lt (Heap.lt_size e)) (Heap.get?_push_of_some _ e)
theorem cCode_def {A₀ : Around} {base h₀ : Heap} {outer : List Env} {L : Addr} {m mg mb : Str → Option Value} {news : List (Addr × Obj)} {K : Frag} {p : Program} {loose : List Str} {mean : ExcName → Option Value}
    {name qual : Str} {params : Arguments} {body : List Stmt} {scope : Scope} {dV kV doc pm cdv ct oc : Value} {an od : Option Addr} {osl : Array (Option Value)} {f : Addr} {args : Args} {binds : List (Str × Value)}
    (B : Below A₀ base outer h₀) (F : Fr h₀ L s.heap m) (X₀ : K.In h₀) (N : News h₀ L s.heap news) (T : Top p loose mean mg mb h₀) (hA : A.frames = some (env :: outer)) (hf : env.frame = some L) (hke : env.scope.kind = .function)
    (ho : K.lookup f = some ⟨oc, od, .func (fnOf name qual params body scope dV kV doc pm an cdv ct), osl⟩) (hcd : codeIn K cdv qual = true) (hroom : A.depth < recursionLimit)
    (hbind : BindsTo s (fnOf name qual params body scope dV kV doc pm an cdv ct) args binds) (hloc : ∀ y ∈ binds, scope.names.lookup y.1 = some .local)
    (h : ∀ g L' h₁, Fr h₀ L g m → Fr g L' h₁ (fun y => binds.reverse.lookup y) → News g L' h₁ news → Below A base (env :: outer) g → K.In g → Top p loose mean mg mb g → (∀ p ∈ news, p.1 < L') →
      wpC (model prog w) (A.deeper (envOf qual scope L' f cdv)) (execs body (envOf qual scope L' f cdv))
        (fun fl s' => LeaveK h₀ L m g R (match fl with | .ret v => v | _ => .none) s')
        (fun e s' => wpAny (model prog w) (A.deeper (envOf qual scope L' f cdv)) (leaving (envOf qual scope L' f cdv) e) (fun _ s'' => R (.error e) s'') (fun e' s'' => R (.error e') s'') s')
        { s with heap := h₁, toks := s.toks + binds.length })
    (hco : scope.isCoroutine = false) (hgen : scope.isGenerator = false) (hk : scope.kind = .function)
    (hcell : ∀ x ∈ scope.names, x.2 ≠ .cell) : codeC (model prog w) A (.call (.ref f) args) R s := by
  obtain ⟨FG, BG, st, lv⟩ := groundX (R := R) B F N hA hf hke
  refine cCallDef (fd := fnX name qual params body scope [] dV kV doc pm an cdv ct) (body := body) (binds := binds) hroom ((X₀.keeps F.keep) _ _ ho) rfl (T.nolimit.keeps F.keep) (codeRec_of (X₀.keeps F.keep) hcd) rfl hbind hcell hloc (fun h₁ hns hk₁ => ?_) hco hgen hk
  exact cMono (h _ s.heap.objs.size h₁ FG ⟨hns, fun b o e => hk₁ b o (of_hideAll _ e), Nat.le_of_eq (hideAll_size _ _)⟩
    (fun p hp => ⟨hk₁ _ _ (N p hp).1, Nat.ne_of_lt (Heap.lt_size (N p hp).1), hideAll_none _ (List.mem_map_of_mem hp)⟩) BG (X₀.keeps st) (T.keeps st) (fun p hp => Heap.lt_size (N p hp).1)) (fun fl s' hl => lv _ _ hl) fun _ _ y => y
theorem cSplicedCons {x : Sem Value} {rest : List (Bool × Sem Value)} {Q : List Value → Shared → Prop}
    (h : wpC (model prog w) A x (fun v s₁ => wpC (model prog w) A (spliced rest) (fun vs s₂ => Q (v :: vs) s₂) E s₁) E s) : wpC (model prog w) A (spliced ((false, x) :: rest)) Q E s := by
  unfold spliced
  refine cBind (cMono h (fun v s₁ h₁ => ?_) fun _ _ q => q)
  refine cBind (cPure (cBind (cHolding (cMono h₁ (fun vs s₂ h₂ => cPure h₂) fun _ _ q => q))))
theorem cEvalArgs {f : Value} {x : Sem Value} {rest : List (Bool × Sem Value)} {Q : Args → Shared → Prop}
    (h : wpC (model prog w) A (spliced ((false, x) :: rest)) (fun vs s' => Q ⟨vs, []⟩ s') E s) : wpC (model prog w) A (evalArgs f true ((false, x) :: rest) []) Q E s := by
  unfold evalArgs
  show wpC _ A (spliced ((false, x) :: rest) >>= _) Q E s
  refine cBind (cMono h (fun vs s' h' => ?_) fun _ _ x => x)
  refine cHolding ?_
  exact cBind (cPure (cBind (cPure (cPure h'))))
theorem cCallWith {K : Frag} {f : Addr} {pos : Pos} {x : Sem Value} {rest : List (Bool × Sem Value)} {Q : Value → Shared → Prop} (hk : keepIn K (.ref f) = true) (hplain : rest.any (·.1) = false)
    (h : wpC (model prog w) A (spliced ((false, x) :: rest)) (fun vs s₁ => K.In s₁.heap ∧ wpC (model prog w) A (call (.ref f) vs) Q E s₁) E s) :
    wpC (model prog w) A (callWith pos (.ref f) [] ((false, x) :: rest) []) Q E s := by
  have hpl : (((false, x) :: rest).any (·.1) || ([] : List (Option Str × Sem Value)).any (·.1.isNone)) = false := by simp [hplain]
  unfold callWith
  refine cBind (cHolding (cEvalArgs (cMono h (fun vs s₁ h₁ => ?_) fun _ _ q => q)))
  refine cBind (cStandAt ?_)
  obtain ⟨k, hk', L⟩ := keeps_K (M := model prog w) hk _ h₁.1
  simp only [hpl]
  refine cBind (cOf (L.here ?_))
  have tail : ∀ {t : Sem Value}, wpC (model prog w) A t Q E s₁ → wpC (model prog w) A (t >>= fun r => holding [r] point >>= fun _ => pure r) Q E s₁ :=
    fun ht => cBind (cMono ht (fun r s₂ hr => cBind (cHolding (cPoint (cPure hr)))) fun _ _ q => q)
  have marked (mk : Value) : wpC (model prog w) A (callMarked mk (.ref f) ([] ++ vs) []) Q E s₁ := by unfold callMarked; exact cKeep h₁.2
  rcases hk' with rfl | rfl | rfl <;> dsimp only <;> first | exact tail h₁.2 | (split <;> first | exact tail h₁.2 | exact tail (marked _))
end
end Mine
end

section
open PySem PySem.W PySem.Calls PyProof.Rows
set_option Elab.async false
set_option maxRecDepth 100000
set_option maxHeartbeats 2000000
namespace Mine
/-- an end of a piece of the walk: the walker leaves it as it stands -/
def Cut (P : Prop) : Prop := P
theorem lookup_if {y k : Str} {v : Value} {l : List (Str × Value)} : List.lookup y ((k, v) :: l) = if y = k then some v else List.lookup y l := by
  rw [List.lookup_cons]
  by_cases h : y = k
  · subst h; simp
  · have : (y == k) = false := beq_eq_false_iff_ne.mpr h
    simp [this, h]
theorem map_twice {x : Str} {a b : Option Value} {m : Str → Option Value} : (fun y => if y = x then a else (fun y => if y = x then b else m y) y) = fun y => if y = x then a else m y := by
  funext y; by_cases h : y = x <;> simp [h]
section
variable {prog : Program} {w : World} {A : Around} {E : Value → Shared → Prop} {s : Shared} {env : Env} {R : Result → Shared → Prop}
theorem cEvalCall {fn : Str} {fp : Pos} {args : List Expr} {pos : Pos} {Q : Value → Shared → Prop}
    (h : wpC (model prog w) A (eval (.Name fn fp) env) (fun f s₁ => wpC (model prog w) A (callWith pos f [] (backTo pos (starEach args env)) []) Q E s₁) E s) : wpC (model prog w) A (eval (.Call (.Name fn fp) args [] pos) env) Q E s := by
  have e : eval (.Call (.Name fn fp) args [] pos) env = (eval (.Name fn fp) env >>= fun f => callWith pos f [] (backTo pos (starEach args env)) []) := rfl
  rw [e]; exact cBind h
theorem cCallWithT {T : String} {pos : Pos} {x : Sem Value} {rest : List (Bool × Sem Value)} {Q : Value → Shared → Prop} (hplain : rest.any (·.1) = false)
    (h : wpC (model prog w) A (spliced ((false, x) :: rest)) (fun vs s₁ => wpC (model prog w) A (call (.type T) vs) Q E s₁) E s) :
    wpC (model prog w) A (callWith pos (.type T) [] ((false, x) :: rest) []) Q E s := by
  have hpl : (((false, x) :: rest).any (·.1) || ([] : List (Option Str × Sem Value)).any (·.1.isNone)) = false := by simp [hplain]
  unfold callWith
  refine cBind (cHolding (cEvalArgs (cMono h (fun vs s₁ h₁ => ?_) fun _ _ q => q)))
  refine cBind (cStandAt ?_)
  simp only [hpl]
  refine cBind (cOf (wpAny_pure ?_))
  exact cBind (cMono h₁ (fun r s₂ hr => cBind (cHolding (cPoint (cPure hr)))) fun _ _ q => q)
theorem backTo_cons {e : Expr} {rest : List Expr} {pos : Pos} (he : starEach (e :: rest) env = (false, eval e env) :: starEach rest env) :
    backTo pos (starEach (e :: rest) env) = (false, eval e env) :: backTo pos (starEach rest env) := by rw [he]; rfl
theorem cSplicedB {e : Expr} {rest : List Expr} {pos : Pos} {Q : List Value → Shared → Prop} (he : starEach (e :: rest) env = (false, eval e env) :: starEach rest env)
    (h : wpC (model prog w) A (eval e env) (fun v s₁ => wpC (model prog w) A (spliced (backTo pos (starEach rest env))) (fun vs s₂ => Q (v :: vs) s₂) E s₁) E s) : wpC (model prog w) A (spliced (backTo pos (starEach (e :: rest) env))) Q E s := by
  rw [backTo_cons he]; exact cSplicedCons h
theorem cSplicedNil {pos : Pos} {Q : List Value → Shared → Prop} (h : Q [] s) : wpC (model prog w) A (spliced (backTo pos (starEach [] env))) Q E s := cPure h
theorem cCallT {T : String} {e : Expr} {rest : List Expr} {pos : Pos} {Q : Value → Shared → Prop} (he : starEach (e :: rest) env = (false, eval e env) :: starEach rest env) (hplain : (backTo pos (starEach rest env)).any (·.1) = false)
    (h : wpC (model prog w) A (spliced (backTo pos (starEach (e :: rest) env))) (fun vs s₁ => wpC (model prog w) A (call (.type T) vs) Q E s₁) E s) :
    wpC (model prog w) A (callWith pos (.type T) [] (backTo pos (starEach (e :: rest) env)) []) Q E s := by
  rw [backTo_cons he] at h ⊢
  exact cCallWithT hplain h
theorem cCallF {K : Frag} {f : Addr} {e : Expr} {rest : List Expr} {pos : Pos} {Q : Value → Shared → Prop} (hk : keepIn K (.ref f) = true) (he : starEach (e :: rest) env = (false, eval e env) :: starEach rest env) (hplain : (backTo pos (starEach rest env)).any (·.1) = false)
    (h : wpC (model prog w) A (spliced (backTo pos (starEach (e :: rest) env))) (fun vs s₁ => K.In s₁.heap ∧ wpC (model prog w) A (call (.ref f) vs) Q E s₁) E s) :
    wpC (model prog w) A (callWith pos (.ref f) [] (backTo pos (starEach (e :: rest) env)) []) Q E s := by
  rw [backTo_cons he] at h ⊢
  exact cCallWith hk hplain h
theorem cIfExp {test body orelse : Expr} {pos : Pos} {Q : Value → Shared → Prop}
    (h : wpC (model prog w) A (isTrue test env (eval test env)) (fun b s₁ => wpC (model prog w) A (if b = true then eval body env else eval orelse env) Q E s₁) E s) : wpC (model prog w) A (eval (.IfExp test body orelse pos) env) Q E s := by
  have e : eval (.IfExp test body orelse pos) env = (isTrue test env (eval test env) >>= fun b => if b = true then eval body env else eval orelse env) := rfl
  rw [e]; exact cBind h
theorem wpAny_cut {α : Type} {t : Sem α} {Q : α → Shared → Prop} (P : α → Shared → Prop) (h : wpAny (model prog w) A t (fun v s' => Cut (P v s')) E s) (k : ∀ v s', P v s' → Q v s') : wpAny (model prog w) A t Q E s :=
  wpAny_mono h (fun v s' p => k v s' p) fun _ _ e => e
theorem hideQ {α : Type} {t : Sem α} {Q : α → Shared → Prop} (h : ∀ Q' : α → Shared → Prop, (∀ v s', Q v s' → Q' v s') → wpAny (model prog w) A t Q' E s) : wpAny (model prog w) A t Q E s := h Q fun _ _ p => p
theorem wpC_cut {α : Type} {t : Sem α} {Q : α → Shared → Prop} (P : α → Shared → Prop) (h : wpAny (model prog w) A t (fun v s' => Cut (P v s')) E s) (k : ∀ v s', P v s' → Q v s') : wpC (model prog w) A t Q E s :=
  cOf (wpAny_cut P h k)
/-- a loop over a range by any step, by an invariant over the turn's number, the frame and the ledger -/
theorem iter_rangeJ {x : Str} {body : List Stmt} {Q : Flow → Shared → Prop} {h₀ : Heap} {r : Addr} {a₀ b₀ c₀ : Int} {t₀ u₀ v₀ : Tok} {n : Nat} {m₀ : Str → Option Value} {news : List (Addr × Obj)} (J : Nat → (Str → Option Value) → List (Addr × Obj) → Prop)
    (hh : A.handled = none) (hr : IsRange s.heap r a₀ b₀ c₀ t₀ u₀ v₀) (hsmall : Builtin.Range.small a₀ b₀ c₀ = true) (hn : Builtin.Range.rangeSize a₀ b₀ c₀ = (n : Int)) (F : Fr h₀ env.locals s.heap m₀) (N : News h₀ env.locals s.heap news) (hj : J 0 m₀ news)
    (turn : ∀ i t m₁ news₁ h tk own, i < n → OwnOff own (news.map (·.1)) → J i m₁ news₁ → Fr h₀ env.locals h (fun y => if y = x then some (.int (a₀ + i * c₀) t) else m₁ y) → News h₀ env.locals h (news₁ ++ own) →
      wpAny (model prog w) A (execs body env) (InvPostN h₀ env.locals (J (i + 1)) own (news.map (·.1)) { s with heap := h, toks := tk } Q) E { s with heap := h, toks := tk })
    (done : ∀ m₁ news₁ h tk, J n m₁ news₁ → Fr h₀ env.locals h m₁ → News h₀ env.locals h news₁ → Q .next { s with heap := h, toks := tk }) :
    wpAny (model prog w) A (pyIter (.ref r)) (fun it s₂ => LoopAtV prog w A h₀ env x body Q E it s₂) E s := by
  refine wpAny_pyIter_range hr hsmall ?_
  have W := Walks.range (prog := prog) (w := w) hh s.heap.objs.size a₀ c₀ n
  refine loop_invN J W ?_ ?_ ?_ ?_ (by show IsRangeIter _ _ _ _ _; rw [hn]; simpa using Heap.get?_push_size _ rfl) (F.push _) (fun p hp => ⟨Heap.get?_push_of_some _ (N p hp).1, (N p hp).2⟩) hj ?_ ?_
  · intro hm
    exact absurd F.ns.lt ((List.mem_singleton.mp hm) ▸ Nat.lt_irrefl _)
  · intro b hb
    rw [List.mem_singleton.mp hb]
    exact next_is_new F
  · intro p hp hI
    exact absurd (Heap.lt_size (N p hp).1) ((List.mem_singleton.mp hI) ▸ Nat.lt_irrefl _)
  · intro p hp hI
    exact absurd (Heap.lt_size (N p hp).1) ((List.mem_singleton.mp hI) ▸ Nat.lt_irrefl _)
  · rintro i v m₁ news₁ h tk own hin ⟨t, rfl⟩ _ hsep hJ F₁ N₁
    exact turn i t m₁ news₁ h tk own hin hsep hJ F₁ N₁
  · exact done
theorem baSetL {a : Addr} {l : List UInt8} {i v : Int} {t u : Tok} {Q : Unit → Shared → Prop} (ho : s.heap.get? a = some (baObj l.toArray)) (h0 : 0 ≤ i) (h1 : i < l.length) (hb : l.length ≤ 1000) (hv0 : 0 ≤ v) (hv1 : v < 256)
    (h : ∀ h', Heap.SameBut a s.heap h' → h'.get? a = some (baObj (l.set i.toNat v.toNat.toUInt8).toArray) → Q () { s with heap := h' }) :
    wpAny (model prog w) A (setItem (.ref a) (.int i t) (.int v u)) Q E s :=
  baSet ho h0 (by simpa using h1) (by simpa using hb) hv0 hv1 fun h' hs ho' => h h' hs (by simpa using ho')
/-- the bytearray of the ledger, an item stored -/
theorem baSetN {h₀ : Heap} {L : Addr} {m : Str → Option Value} {news : List (Addr × Obj)} {a : Addr} {l : List UInt8} {i v : Int} {t u : Tok} {Q : Unit → Shared → Prop} {pre post : List (Addr × Obj)} (F : Fr h₀ L s.heap m) (N : News h₀ L s.heap (pre ++ (a, baObj l.toArray) :: post))
    (hp1 : ∀ p ∈ pre, p.1 ≠ a) (hp2 : ∀ p ∈ post, p.1 ≠ a) (h0 : 0 ≤ i) (h1 : i < l.length) (hb : l.length ≤ 1000) (hv0 : 0 ≤ v) (hv1 : v < 256)
    (h : ∀ h', Fr h₀ L h' m → News h₀ L h' (pre ++ (a, baObj (l.set i.toNat v.toNat.toUInt8).toArray) :: post) → Q () { s with heap := h' }) :
    wpAny (model prog w) A (setItem (.ref a) (.int i t) (.int v u)) Q E s := by
  have hm : (a, baObj l.toArray) ∈ pre ++ (a, baObj l.toArray) :: post := by simp
  have z := N _ hm
  refine baSetL z.1 h0 h1 hb hv0 hv1 fun h' hs ho' => h h' (F.change hs z.2.1 z.2.2) ?_
  exact news_set N hp1 hp2 hs ho'
end
end Mine
end

section
open PySem PySem.W PyProof.Rows
set_option Elab.async false
set_option maxRecDepth 100000
set_option maxHeartbeats 8000000
namespace Mine
/- The kit's own head writes the top's heap out as a constant, `hd0.heap_1`; here it is stopped ahead of the rest. -/
section
local macro_rules | `(tactic| o_head $_) => `(tactic| exact False.elim (by assumption))
theorem hd0 : False → PySem.Challenge.rw_rx0034_01.row.Holds := by
  intro no
  k_head
end
end Mine
end

section
open PySem PySem.W PyProof.Rows
set_option Elab.async false
set_option maxRecDepth 100000
set_option maxHeartbeats 2000000
namespace Mine
abbrev theLaw : OpenLaw := PySem.Challenge.rw_rx0034_01
abbrev ConB (w : World) (f d : Nat) (news : List (Addr × Obj)) (args : List Value) (post : Heap → List Env → Heap → Addr → (Str → Option Value) → (Value → Shared → Prop) → (Value → Shared → Prop) → Shared → Prop) : Prop :=
  ∀ (loose : List Str) (mean : ExcName → Option Value) (mg mb : Str → Option Value) (dp un : Nat) (gd : Option (List Code)) (cn : Str) (cs : Scope) (a : Addr) (ccd : Value) (cl : List (Str × Addr)) (outer : List Env) (A₀ : Around) (base h₀ : Heap) (L : Addr) (m : Str → Option Value) (s : Shared) (Q E : Value → Shared → Prop),
    Below A₀ base outer h₀ → Fr h₀ L s.heap m → (hd0.heap_1 w.params).In h₀ → News h₀ L s.heap news → Top topProg loose mean mg mb h₀ → cs.kind = .function → dp + d < recursionLimit → un + 10 * d < cLine →
    post base (envX cn cs L a ccd cl :: outer) h₀ L m Q E s →
    wpC (model PySem.Challenge.rw_rx0034_01.row.prog w) (ktrTop dp un gd cn cs L a ccd cl outer) (call (.ref f) args) Q E s
abbrev ConA (w : World) (f d : Nat) (news : List (Addr × Obj)) (args : List Value) (post : Heap → List Env → Heap → Addr → (Str → Option Value) → (Value → Shared → Prop) → (Value → Shared → Prop) → Shared → Prop) : Prop :=
  ∀ (loose : List Str) (mean : ExcName → Option Value) (mg mb : Str → Option Value) (dp un : Nat) (gd : Option (List Code)) (cn : Str) (cs : Scope) (a : Addr) (ccd : Value) (cl : List (Str × Addr)) (outer : List Env) (A₀ : Around) (base h₀ : Heap) (L : Addr) (m : Str → Option Value) (s : Shared) (Q E : Value → Shared → Prop),
    Below A₀ base outer h₀ → Fr h₀ L s.heap m → (hd0.heap_1 w.params).In h₀ → News h₀ L s.heap news → Top topProg loose mean mg mb h₀ → cs.kind = .function → dp + d < recursionLimit → un + 10 * d < cLine →
    post base (envX cn cs L a ccd cl :: outer) h₀ L m Q E s →
    wpAny (model PySem.Challenge.rw_rx0034_01.row.prog w) (ktrTop dp un gd cn cs L a ccd cl outer) (call (.ref f) args) Q E s
theorem abs {prog : Program} {w : World} {body : List Stmt} {env : Env} {dp un : Nat} {fr : Option (List Env)} {gd : Option (List Code)} {h : Heap} {s : Shared} {tk : Nat} {Q : Flow → Shared → Prop} {E : Value → Shared → Prop}
    (P : (Flow → Shared → Prop) → (Value → Shared → Prop) → Shared → Prop) (hP : P Q E s)
    (k : ∀ (dp un : Nat) (fr : Option (List Env)) (gd : Option (List Code)) (Q : Flow → Shared → Prop) (E : Value → Shared → Prop) s, PassesOwn (model prog w) ⟨none, dp, fr, gd, un⟩ env E → P Q E s → wpC (model prog w) ⟨none, dp, fr, gd, un⟩ (execs body env) Q E { s with heap := h, toks := tk })
    (hE : PassesOwn (model prog w) ⟨none, dp, fr, gd, un⟩ env E := by passes_own) :
    wpC (model prog w) ⟨none, dp, fr, gd, un⟩ (execs body env) Q E { s with heap := h, toks := tk } := k _ _ _ _ _ _ _ hE hP
theorem absA {prog : Program} {w : World} {body : List Stmt} {env : Env} {dp un : Nat} {fr : Option (List Env)} {gd : Option (List Code)} {h : Heap} {s : Shared} {tk : Nat} {Q : Flow → Shared → Prop} {E : Value → Shared → Prop}
    (P : (Flow → Shared → Prop) → (Value → Shared → Prop) → Shared → Prop) (hP : P Q E s)
    (k : ∀ (dp un : Nat) (fr : Option (List Env)) (gd : Option (List Code)) (Q : Flow → Shared → Prop) (E : Value → Shared → Prop) s, PassesOwn (model prog w) ⟨none, dp, fr, gd, un⟩ env E → P Q E s → wpAny (model prog w) ⟨none, dp, fr, gd, un⟩ (execs body env) Q E { s with heap := h, toks := tk })
    (hE : PassesOwn (model prog w) ⟨none, dp, fr, gd, un⟩ env E := by passes_own) :
    wpAny (model prog w) ⟨none, dp, fr, gd, un⟩ (execs body env) Q E { s with heap := h, toks := tk } := k _ _ _ _ _ _ _ hE hP

theorem absC {prog : Program} {w : World} {body : List Stmt} {env : Env} {dp un : Nat} {fr : Option (List Env)} {gd : Option (List Code)} {h : Heap} {s : Shared} {tk : Nat} {Q : Flow → Shared → Prop} {E : Value → Shared → Prop}
    (P : Around → (Flow → Shared → Prop) → (Value → Shared → Prop) → Shared → Prop) (hP : P ⟨none, dp, fr, gd, un⟩ Q E s)
    (k : ∀ (dp un : Nat) (fr : Option (List Env)) (gd : Option (List Code)) (Q : Flow → Shared → Prop) (E : Value → Shared → Prop) s, PassesOwn (model prog w) ⟨none, dp, fr, gd, un⟩ env E → P ⟨none, dp, fr, gd, un⟩ Q E s → wpAny (model prog w) ⟨none, dp, fr, gd, un⟩ (execs body env) Q E { s with heap := h, toks := tk })
    (hE : PassesOwn (model prog w) ⟨none, dp, fr, gd, un⟩ env E := by passes_own) :
    wpAny (model prog w) ⟨none, dp, fr, gd, un⟩ (execs body env) Q E { s with heap := h, toks := tk } := k _ _ _ _ _ _ _ hE hP

end Mine
end

section
open PySem PySem.W PyProof.Rows
set_option Elab.async false
set_option maxRecDepth 100000
set_option maxHeartbeats 2000000
namespace Mine
theorem range_q {n wd q : Nat} (h0 : 0 < wd) (hq : n = q * wd) (h0q : 0 < q) : Builtin.Range.rangeSize 0 n wd = (q : Int) := by
  unfold Builtin.Range.rangeSize
  have h1 : (wd : Int) > 0 := by omega
  have h2 : (0 : Int) < n := by subst hq; exact Int.natCast_pos.mpr (Nat.mul_pos h0q h0)
  rw [if_pos h1, if_pos h2]
  have e : ((n : Int) - 0 - 1) / wd = (q : Int) - 1 := by
    subst hq
    rw [Int.ediv_eq_iff_of_pos h1]
    push_cast
    constructor
    · rw [Int.sub_mul]; omega
    · rw [Int.sub_mul]; omega
  omega
theorem range_small {n wd : Nat} (hn : n ≤ 1000) (h0 : 0 < wd) (hw : wd ≤ 100) {q : Nat} (hs : Builtin.Range.rangeSize 0 n wd = (q : Int)) (hq : q ≤ 1000) : Builtin.Range.small 0 n wd = true := by
  have h1 : (wd : Int) > 0 := by omega
  unfold Builtin.Range.small
  rw [hs]
  simp only [Builtin.Range.rangeFitsLong, Bool.and_eq_true, Bool.or_eq_true, decide_eq_true_eq, beq_iff_eq, h1, if_true]
  omega
theorem range_1 {n : Nat} (h : 0 < n) : Builtin.Range.rangeSize 0 n 1 = (n : Int) := by
  have := range_q (wd := 1) (q := n) (n := n) (by decide) (by omega) h
  simpa using this
def innerL (ys : List UInt8) (wd i : Nat) (S : List UInt8) : Nat → List UInt8
  | 0 => S
  | j + 1 => (innerL ys wd i S j).set (i + wd - 1 - j) (ys.getD (i + j) 0)
def outerL (ys : List UInt8) (wd : Nat) (S : List UInt8) : Nat → List UInt8
  | 0 => S
  | k + 1 => innerL ys wd (k * wd) (outerL ys wd S k) wd
abbrev mB (ys : List UInt8) (ty : Tok) (wd : Nat) (tw : Tok) (S : Addr) : Str → Option Value := fun y => if y = Str.ofString "swapped_data" then some (Value.ref S) else if y = Str.ofString "width" then some (Value.int wd tw) else if y = Str.ofString "data" then some (Value.bytes ys.toArray ty) else none
abbrev mI (ys : List UInt8) (ty : Tok) (wd : Nat) (tw : Tok) (S : Addr) (k : Nat) (t : Tok) (u2 : Option Value) : Str → Option Value := fun y => if y = Str.ofString "i" then some (Value.int (k * wd : Nat) t) else if y = Str.ofString "j" then u2 else mB ys ty wd tw S y
abbrev mJ (ys : List UInt8) (ty : Tok) (wd : Nat) (tw : Tok) (S : Addr) (k : Nat) (t : Tok) (j : Nat) (t3 : Tok) : Str → Option Value := fun y => if y = Str.ofString "j" then some (Value.int (j : Nat) t3) else mI ys ty wd tw S k t none y
theorem innerL_length {ys : List UInt8} {wd i : Nat} {S : List UInt8} : ∀ j, (innerL ys wd i S j).length = S.length
  | 0 => rfl
  | j + 1 => by rw [innerL, List.length_set, innerL_length j]
theorem outerL_length {ys : List UInt8} {wd : Nat} {S : List UInt8} : ∀ k, (outerL ys wd S k).length = S.length
  | 0 => rfl
  | k + 1 => by rw [outerL, innerL_length, outerL_length k]
theorem toU8_of {x : UInt8} : ((x.toNat : Int)).toNat.toUInt8 = x := by simp
theorem in_block {n wd q k j : Nat} (hq : n = q * wd) (hk : k < q) (hj : j < wd) : k * wd + j < n := by
  subst hq
  have : (k + 1) * wd ≤ q * wd := Nat.mul_le_mul_right wd hk
  rw [Nat.add_mul] at this; omega
theorem range_q1 {n wd q : Nat} (h0 : 0 < wd) (hq : q * wd < n) (hq2 : n < q * wd + wd) : Builtin.Range.rangeSize 0 n wd = ((q + 1 : Nat) : Int) := by
  unfold Builtin.Range.rangeSize
  have h1 : (wd : Int) > 0 := by omega
  have h2 : (0 : Int) < n := by omega
  rw [if_pos h1, if_pos h2]
  have e : ((n : Int) - 0 - 1) / wd = (q : Int) := by
    rw [Int.ediv_eq_iff_of_pos h1]
    constructor
    · have : ((q * wd : Nat) : Int) = (q : Int) * wd := by push_cast; rfl
      omega
    · have : ((q * wd : Nat) : Int) = (q : Int) * wd := by push_cast; rfl
      have e3 : ((q : Int) + 1) * wd = q * wd + wd := by rw [Int.add_mul, Int.one_mul]
      omega
  omega

/-- the number of turns -/
theorem range_n {n wd q : Nat} (h0 : 0 < wd) (hn : 0 < n) (hq : q * wd ≤ n) (hq2 : n < q * wd + wd) : ∃ N : Nat, Builtin.Range.rangeSize 0 n wd = (N : Int) ∧ N ≤ q + 1 ∧ (q * wd = n → N = q) ∧ (N ≤ q → N = q ∧ q * wd = n) := by
  rcases Nat.eq_or_lt_of_le hq with e | e
  · exact ⟨q, range_q h0 e.symm (Nat.pos_of_ne_zero fun z => by subst z; omega), Nat.le_succ _, fun _ => rfl, fun _ => ⟨rfl, e⟩⟩
  · exact ⟨q + 1, range_q1 h0 e hq2, Nat.le_refl _, fun z => absurd z (Nat.ne_of_lt e), fun z => absurd z (Nat.not_succ_le_self _)⟩
theorem idx_in {n wd q k j : Nat} (hq : q * wd ≤ n) (hk : k < q) (hj : j < wd) : k * wd + j < n ∧ 0 ≤ ((k * wd : Nat) : Int) + wd - 1 - j ∧ ((k * wd : Nat) : Int) + wd - 1 - j < (n : Int) ∧ (((k * wd : Nat) : Int) + wd - 1 - j).toNat = k * wd + wd - 1 - j := by
  have : (k + 1) * wd ≤ q * wd := Nat.mul_le_mul_right wd hk
  rw [Nat.add_mul] at this
  generalize k * wd = a at *
  omega
theorem idx_out {n wd q : Nat} (hn : n ≤ 100) (hw : wd ≤ 100) (hq : q * wd < n) (hq2 : n < q * wd + wd) : (0 : Int) ≤ ((q * wd : Nat) : Int) + wd - 1 - (0 : Nat) ∧ (n : Int) ≤ ((q * wd : Nat) : Int) + wd - 1 - (0 : Nat) ∧ ((q * wd : Nat) : Int) + wd - 1 - (0 : Nat) < 2 ^ 40 := by
  generalize q * wd = a at *
  omega
theorem byteB (x : UInt8) : (0 : Int) ≤ ((x.toNat : Nat) : Int) ∧ ((x.toNat : Nat) : Int) < 256 := by
  have := UInt8.toNat_lt x
  omega

theorem m_one {x : Str} {u : Option Value} {m : Str → Option Value} (h : m x = u) : m = fun z => if z = x then u else m z := by
  funext z; by_cases e : z = x
  · subst e; simp [h]
  · simp [e]
theorem m_two {x y : Str} {u v : Option Value} {m : Str → Option Value} (h : m x = u) (h2 : m y = v) : m = fun z => if z = x then u else if z = y then v else m z := by
  funext z; by_cases e : z = x
  · subst e; simp [h]
  · by_cases e2 : z = y
    · subst e2; simp [h2, e]
    · simp [e, e2]
theorem mI_of {ys : List UInt8} {ty : Tok} {wd : Nat} {tw : Tok} {S : Addr} {k : Nat} {t : Tok} {u1 u2 : Option Value} {a : Int} (h : a + (k : Int) * wd = (k : Int) * wd) : (fun y => if y = Str.ofString "i" then some (Value.int (a + ↑k * ↑wd) t) else (fun z => if z = Str.ofString "i" then u1 else if z = Str.ofString "j" then u2 else mB ys ty wd tw S z) y) = mI ys ty wd tw S k t u2 := by
  funext y; unfold mI; split
  · rw [h]; rfl
  · rename_i h1; simp only [h1, if_false]
theorem mJ_of {ys : List UInt8} {ty : Tok} {wd : Nat} {tw : Tok} {S : Addr} {k j : Nat} {t t3 : Tok} {u u2 : Option Value} : (fun y => if y = Str.ofString "j" then some (Value.int (0 + ↑j * 1) t3) else (fun z => if z = Str.ofString "j" then u else mI ys ty wd tw S k t u2 z) y) = mJ ys ty wd tw S k t j t3 := by
  funext y; unfold mJ; split
  · rw [Int.zero_add, Int.mul_one]
  · rename_i h1; simp only [h1, if_false, mI]

theorem mJ_end {ys : List UInt8} {ty : Tok} {wd : Nat} {tw : Tok} {S : Addr} {k j : Nat} {t t3 : Tok} {u2 : Option Value} : mJ ys ty wd tw S k t j t3 = fun z => if z = Str.ofString "j" then some (.int (j : Nat) t3) else mI ys ty wd tw S k t u2 z := by
  funext z; unfold mJ; split
  · rfl
  · rename_i h1; simp only [h1, if_false, mI]
theorem mI_end {ys : List UInt8} {ty : Tok} {wd : Nat} {tw : Tok} {S : Addr} {k : Nat} {t : Tok} {u u2 : Option Value} : (fun z => if z = Str.ofString "j" then u else mI ys ty wd tw S k t u2 z) = fun z => if z = Str.ofString "i" then some (.int (k * wd : Nat) t) else if z = Str.ofString "j" then u else mB ys ty wd tw S z := by
  funext z
  by_cases h1 : z = Str.ofString "i"
  · subst h1; rfl
  · by_cases h2 : z = Str.ofString "j"
    · subst h2; rfl
    · simp only [h1, h2, if_false, mI]

end Mine
end

section
open PySem PySem.W PyProof.Rows
set_option Elab.async false
set_option maxRecDepth 100000
set_option maxHeartbeats 2000000
namespace Mine
theorem bs (w : World) (ys : List UInt8) (hys : ys.length ≤ 100) (wd q : Nat) (h0 : 0 < wd) (hw : wd ≤ 100) (hn0 : 0 < ys.length) (hq : q * wd ≤ ys.length) (hq2 : ys.length < q * wd + wd) (ty tw : Tok) (news : List (Addr × Obj)) : theLaw = theLaw → ConB w 38 2 news [.bytes ys.toArray ty, .int wd tw] fun base fs h₀ L m Q E s =>
    (∀ (t : Tok) (h' : Heap) (tk' : Nat), q * wd = ys.length → Fr h₀ L h' m → News h₀ L h' news → Q (.bytes (outerL ys wd (List.replicate ys.length 0) q).toArray t) { s with heap := h', toks := tk' }) ∧
    (∀ e h' tk' G, q * wd < ys.length → Fr h₀ L G m → RaisedSN base G fs e (.type "IndexError") news h' → G.UpToSlots h' → E (.ref e) { s with heap := h', toks := tk' }) := by
  unfold ConB
  k_fill
  intro _
  intro loose mean mg mb dp un gd cn cs a ccd cl outer A₀ base h₀ L m s Q E B F X N T hk hd' hu hret
  refine cCall ?_
  (refine' cCode_def ?k1 ?k2 ?k3 ?k4 ?k5 ?kA ?kF ?kK ?k6 ?k7 ?k8 ?k9 ?kB ?_ ?c2 ?c3 ?c4 ?c5; (case kA => exact rfl); (case kF => exact rfl); (case kK => first | assumption | exact rfl); (case k1 => k_asm); (case k2 => k_asm); (case k3 => k_asm); (case k4 => k_asm); (case k5 => k_asm); (case k6 => k_is); (case k7 => k_is); (case k8 => ktr_room); (case k9 => exact BindsTo.of_eq rfl); (case c5 => decide); (case kB => exact locs rfl); (case c2 => exact rfl); (case c3 => exact rfl); (case c4 => exact rfl))
  intro g' L' h' FG' F' N' B' X' T' l1
  have hn1 : ys.toArray.size ≤ 1000 := by simp; omega
  refine abs (P := fun Q E s => (∀ t h' tk' m', q * wd = ys.length → Fr g' L' h' m' → News g' L' h' news → Q (.ret (.bytes (outerL ys wd (List.replicate ys.length 0) q).toArray t)) { s with heap := h', toks := tk' }) ∧
    (∀ e h3 h' tk' m', q * wd < ys.length → Heap.NewExc h3 h' e "IndexError" → Fr g' L' h3 m' → News g' L' h3 news → E (.ref e) { s with heap := h', toks := tk' })) ⟨?_, ?_⟩ ?_
  · intro t h2 tk2 m2 e F2 N2
    exact leaveK_ F2 N2 fun kF kN => hret.1 t _ _ e kF kN
  · intro e h3 h4 tk2 m2 hlt hx F2 N2
    exact leave_newS B' hx F2 N2 fun h9 R9 _ up => hret.2 e h9 _ g' hlt FG' R9 up
  clear hret B F N T X FG' hd' hu B'
  have F'' : Fr g' L' h' (fun y => List.lookup y [(Str.ofString "width", .int wd tw), (Str.ofString "data", .bytes ys.toArray ty)]) := F'
  clear F'
  generalize s.toks + _ = tk0
  intro dp un fr gd Q E s hE hPQ
  obtain ⟨hret, hrai⟩ := hPQ
  simp only [lookup_if, List.lookup_nil] at F''
  refine cExecsCons (cAssign rfl (cEvalCall (wpC_cut (fun v s' => v = .type "bytearray" ∧ ∃ tk, s' = { s with heap := h', toks := tk }) ?_ ?_)))
  · k_fold
    k_steps
    all_goals exact ⟨rfl, _, rfl⟩
  rintro _ _ ⟨rfl, tk, rfl⟩
  refine cCallT rfl rfl (wpC_cut (fun v s' => ∃ t tk, v = [.int ys.toArray.size t] ∧ s' = { s with heap := h', toks := tk }) ?_ ?_)
  · k_fold
    k_steps
    all_goals exact ⟨_, _, rfl, rfl⟩
  rintro _ _ ⟨t2, tk2, rfl, rfl⟩
  refine cNewBA hn1 (by simpa using hn0) fun h2 hk2 hz2 ho2 => ?_
  have F2 := F''.keeps hk2
  have N2 : News g' L' h2 ((h'.objs.size, baObj (List.replicate ys.length 0).toArray) :: news) := by
    intro p hp
    rcases List.mem_cons.mp hp with rfl | hp
    · exact ⟨by simpa using ho2, Nat.ne_of_gt F''.ns.lt, next_is_new F''⟩
    · exact N'.grown hk2 p hp
  have lS : ∀ p ∈ news, p.1 ≠ h'.objs.size := fun p hp => Nat.ne_of_lt (Heap.lt_size (N' p hp).1)
  generalize h'.objs.size = S at N2 lS
  refine stN F2 N2 fun h3 F3 N3 => ?_
  clear F2 N2 F'' N' hk2 hz2 ho2
  refine cOf (wpAny_execs_cons ?_)
  have F5 : Fr g' L' h3 (mB ys ty wd tw S) := F3
  clear F3
  with_unfolding_all refine For_invVF (hE := hE) F5 rfl rfl ?_
  refine wpAny_cut (fun v s' => ∃ r h tk t u v', v = .ref r ∧ s' = { s with heap := h, toks := tk } ∧ IsRange h r 0 ys.toArray.size wd t u v' ∧ Fr g' L' h (mB ys ty wd tw S) ∧ News g' L' h ((S, baObj (List.replicate ys.length 0).toArray) :: news)) ?_ ?_
  · k_fold
    k_steps
    exact ⟨_, _, _, _, _, _, rfl, rfl, by assumption, by assumption, by assumption⟩
  rintro _ _ ⟨r, h4, tk4, t4, u4, v4, rfl, rfl, R4, F4, N4⟩
  clear F5 N3
  obtain ⟨n, hsz, hnq, hne, hnl⟩ := range_n (n := ys.toArray.size) h0 (by simpa using hn0) (by simpa using hq) (by simpa using hq2)
  have hqn : q ≤ ys.length := Nat.le_trans (Nat.le_mul_of_pos_right q h0) hq
  have hsm : Builtin.Range.small 0 ys.toArray.size wd = true := range_small hn1 h0 hw hsz (by omega)
  refine iter_rangeJ (fun k m nx => k ≤ q ∧ ∃ u1 u2, ∃ l : List UInt8, l.length = ys.length ∧ l = outerL ys wd (List.replicate ys.length 0) k ∧ m = (fun z => if z = Str.ofString "i" then u1 else if z = Str.ofString "j" then u2 else mB ys ty wd tw S z) ∧ nx = (S, baObj l.toArray) :: news) rfl R4 hsm hsz F4 N4 ⟨Nat.zero_le _, none, none, _, List.length_replicate, rfl, m_two rfl rfl, rfl⟩ ?_ ?_
  · clear R4 hsm hsz F4 N4
    rintro k t m₁ nx h5 tk5 own hk hoff ⟨hkq, u1, u2, l1, hl1, hc1, rfl, rfl⟩ F6 N6
    have F7 : Fr g' L' h5 (mI ys ty wd tw S k t u2) := mI_of (a := 0) (Int.zero_add _) ▸ F6
    clear F6
    refine wpAny_execs_cons ?_
    with_unfolding_all refine For_invVF (hE := hE) F7 rfl rfl ?_
    refine wpAny_cut (fun v s' => ∃ r h tk t9 u9 v9, v = .ref r ∧ s' = { s with heap := h, toks := tk } ∧ IsRange h r 0 wd 1 t9 u9 v9 ∧ Fr g' L' h (mI ys ty wd tw S k t u2) ∧ News g' L' h ((S, baObj l1.toArray) :: news ++ own)) ?_ ?_
    · k_fold
      k_steps
      exact ⟨_, _, _, _, _, _, rfl, rfl, by assumption, by assumption, by assumption⟩
    rintro _ _ ⟨r2, h6, tk6, t6, u6, v6, rfl, rfl, R6, F6, N7⟩
    clear F7 N6
    refine iter_rangeJ (fun j m nx => (0 < j → k < q) ∧ ∃ u, ∃ l : List UInt8, l.length = ys.length ∧ l = innerL ys wd (k * wd) l1 j ∧ m = (fun z => if z = Str.ofString "j" then u else mI ys ty wd tw S k t u2 z) ∧ nx = (S, baObj l.toArray) :: news ++ own) rfl R6 (range_small (wd := 1) (Nat.le_trans hw (by decide)) (by decide) (by decide) (range_1 h0) (Nat.le_trans hw (by decide))) (range_1 h0) F6 N7 ⟨fun h => absurd h (Nat.lt_irrefl _), u2, _, hl1, rfl, m_one rfl, rfl⟩ ?_ ?_
    · clear R6 F6 N7
      rintro j t3 m₁ nx h7 tk7 own' hj hoff' ⟨hjk, u, l0, hln, hc0, rfl, rfl⟩ F7 N7
      have F8 : Fr g' L' h7 (mJ ys ty wd tw S k t j t3) := mJ_of ▸ F7
      have hS : ∀ p ∈ news ++ own ++ own', p.1 ≠ S := by
        intro p hp
        rcases List.mem_append.mp hp with hp | hp
        · rcases List.mem_append.mp hp with hp | hp
          · exact lS p hp
          · exact hoff p hp S (.head _)
        · exact hoff' p hp S (.head _)
      have N8 : News g' L' h7 ([] ++ (S, baObj l0.toArray) :: (news ++ own ++ own')) := N7
      have hkn : k * wd + j < ys.length := by
        by_cases hkq' : k < q
        · exact (idx_in hq hkq' hj).1
        · have e1 : k = q := Nat.le_antisymm hkq (Nat.le_of_not_lt hkq')
          have e2 : j = 0 := Nat.eq_zero_of_not_pos fun e => hkq' (hjk e)
          subst e1; subst e2
          exact Nat.lt_of_le_of_ne hq fun z => absurd (hne z) (by omega)
      clear F7 N7 hoff hoff' lS
      generalize hr0 : news ++ own ++ own' = rest at N8 hS
      show wpAny _ _ (execs _ _) _ _ _
      k_fold
      k_steps
      have hv1 := byteB (ys.getD (((k * wd : Nat) : Int) + j).toNat 0)
      by_cases hkq' : k < q
      · obtain ⟨-, i1, i2, i3⟩ := idx_in hq hkq' hj
        have hset : l0.set (((k * wd : Nat) : Int) + wd - 1 - j).toNat (((ys.getD (((k * wd : Nat) : Int) + j).toNat 0).toNat : Int)).toNat.toUInt8 = innerL ys wd (k * wd) l1 (j + 1) := by
          rw [toU8_of, i3, innerL, hc0, show (((k * wd : Nat) : Int) + j).toNat = k * wd + j from rfl]
        refine baSetN (news := []) (pre := []) (l := l0) F8 N8 (fun _ h => nomatch h) hS i1 (hln ▸ i2) (hln ▸ Nat.le_trans hys (by decide)) hv1.1 hv1.2 fun h8 F9 N9 => ?_
        rw [hset] at N9
        show wpAny _ _ (execs [] _) _ _ _
        refine wpAny_execs_nil (InvEndN.intro (nx := (S, baObj (innerL ys wd (k * wd) l1 (j + 1)).toArray) :: news ++ own) F9 N9 ⟨fun _ => hkq', some (.int (j : Nat) t3), _, innerL_length (S := l1) (j + 1) |>.trans hl1, rfl, mJ_end, rfl⟩ rfl (fun p hp => ?_) fun p hp => ?_)
        · rcases List.mem_cons.mp hp with rfl | hp
          · exact .head _
          · exact .tail _ (hr0 ▸ List.mem_append_left _ hp)
        · exact .tail _ (hr0 ▸ List.mem_append_right _ hp)
      · have e1 : k = q := Nat.le_antisymm hkq (Nat.le_of_not_lt hkq')
        have e2 : j = 0 := Nat.eq_zero_of_not_pos fun e => hkq' (hjk e)
        subst e1; subst e2
        have hlt : k * wd < ys.length := Nat.lt_of_le_of_ne hq fun z => absurd (hne z) (by omega)
        obtain ⟨o1, o2, o3⟩ := idx_out hys hw hlt hq2
        refine baSetOut rfl (N8 _ (.head _)).1 o1 (by rw [List.size_toArray, hln]; exact o2) o3 hv1.1 hv1.2 fun h8 tk8 e hx => ?_
        exact hrai e _ _ _ _ hlt hx F8 fun p hp => N8 p (.tail _ (hr0 ▸ List.mem_append_left _ (List.mem_append_left _ hp)))
    · rintro m₁ nx h7 tk7 ⟨hjk, u, l0, hln, hc0, rfl, rfl⟩ F7 N7
      show wpAny _ _ (execs [] _) _ _ _
      refine wpAny_execs_nil (InvEndN.intro F7 N7 ⟨hjk h0, some (.int (k * wd : Nat) t), u, l0, hln, hc0.trans (hc1 ▸ rfl), mI_end, rfl⟩ rfl (fun p hp => List.mem_append_left _ hp) fun p hp => List.mem_append_right _ hp)
  · rintro m₁ nx h5 tk5 ⟨hle, u1, u2, l1, hl1, hc1, rfl, rfl⟩ F6 N6
    have hqe := hnl hle
    clear R4 F4 N4
    show wpAny _ _ (execs _ _) _ _ _
    refine wpAny_execs_cons (wpAny_Return_some ?_)
    refine wpAny_cut (fun v s' => ∃ t tk, v = .bytes l1.toArray t ∧ s' = { s with heap := h5, toks := tk }) ?_ ?_
    · k_fold
      k_steps
      exact bytesOfBA (N6 _ (.head _)).1 (by rw [List.size_toArray, hl1]; exact Nat.le_trans hys (by decide)) fun _ _ => ⟨_, _, rfl, rfl⟩
    rintro _ _ ⟨t6, tk6, rfl, rfl⟩
    rw [hc1, hqe.1]
    exact hret _ _ _ _ hqe.2 F6 (fun p hp => N6 p (.tail _ hp))

end Mine
end

section
open PySem PySem.W PySem.Calls PyProof.Rows PyProof.Rows.LCg
set_option Elab.async false
set_option maxRecDepth 100000
set_option maxHeartbeats 2000000
namespace Mine
section
variable {prog : Program} {w : World} {A : Around} {E : Value → Shared → Prop} {s : Shared} {h₀ : Heap} {L : Addr} {m : Str → Option Value} {env : Env}
/-- a source of a comprehension that walks by an iterator object of its own -/
def CompSrcX (prog : Program) (w : World) (A : Around) (h₀ : Heap) (L : Addr) (m : Str → Option Value) (env : Env) (elt : Expr) (x : Str) (scope : Scope) (cl : List (Str × Addr)) (Fin : Shared → List Value → List (Addr × Obj) → Prop) (E : Value → Shared → Prop) (xv : Value) (s₁ : Shared) : Prop :=
  wpAny (model prog w) A (pyIter xv) (fun it s₂ => ∃ (I : Addr) (n : Nat) (P : Nat → Value → Prop) (St : Nat → Heap → Prop) (news : List (Addr × Obj)), it = .ref I ∧ Walks prog w A I [I] [I] n P St ∧ n ≤ sizeLine ∧ (∀ i h, St i h → ∃ o, h.get? I = some o) ∧ St 0 s₂.heap ∧ I < s₂.heap.objs.size ∧
    Fr h₀ L s₂.heap m ∧ News h₀ L s₂.heap news ∧ L ≠ I ∧ h₀.get? I = none ∧ (∀ p ∈ news, p.1 ≠ I) ∧ CompRest prog w A h₀ L m env elt x scope cl s₂ (fun _ => True) P (Fin s₂) n 0 [] news) E s₁
theorem ListComp_X {elt iter : Expr} {x : Str} {px : Pos} {scope : Scope} {cl : List (Str × Addr)} {pos : Pos} {Q : Value → Shared → Prop} (_F₀ : Fr h₀ L s.heap m)
    (hclos : closureFor scope env = pure cl) (hcell : ∀ y ∈ scope.names, y.2 ≠ .cell) (hkind : scope.kind = .function)
    (hnames : ∀ y ∈ scope.names, y.2 = .local → scope.names.lookup y.1 = some .local) (hx : scope.names.lookup x = some .local)
    (h : wpAny (model prog w) A (eval iter env) (CompSrcX prog w A h₀ L m env elt x scope cl (fun s₂ => FinE h₀ L m s₂ Q) E) E s)
    (hs : ∀ x, foldedSetIterable iter env x = pure x := by intro _; rfl) :
    wpAny (model prog w) A (eval (.ListComp elt [⟨.Name x px, iter, [], 0⟩] scope pos) env) Q E s := by
  rw [eval_ListComp]
  refine wpAny_comprehension_free (use := none) rfl hs hclos hkind hnames (wpAny_mono h (fun xv s₁ h₁ => ?_) fun _ _ e => e)
  refine wpAny_mono h₁ (fun it s₂ h₂ => ?_) fun _ _ e => e
  obtain ⟨I, n, P, St, news, rfl, W, hsz, hIo, hst, hI, F, N, hLI, hI0, off, R⟩ := h₂
  refine block_U W hsz hIo (fun i h h' o nw st e e' _ _ _ => W.frame i h h' st fun b hb o' q => ?_) hcell hkind hx hst (fun b hb => ?_) F N hLI hI0 off trivial R ?_
  · rw [List.mem_singleton.mp hb] at q ⊢; rw [e] at q; cases q; exact e'
  · rw [List.mem_singleton.mp hb]; exact hI
  · intro D C h tk m' ys news' F' N' o1 hn hC₀ hD₀ hCL hDL hCD offC fin
    refine ⟨m', hn, fun h'' hs'' => fin D h'' tk (F'.change hs'' hCL hC₀) (fun p hp => ?_) o1⟩
    refine ⟨hs''.extBut _ _ ?_ (N' p hp).1, (N' p hp).2⟩
    rcases List.mem_cons.mp hp with rfl | hp
    · exact Ne.symm hCD
    · exact offC p hp
theorem CompSrcX.range {elt : Expr} {x : Str} {scope : Scope} {cl : List (Str × Addr)} {Fin : Shared → List Value → List (Addr × Obj) → Prop} {r : Addr} {a b c : Int} {t u v : Tok} {n : Nat} {news : List (Addr × Obj)}
    (hh : A.handled = none) (F : Fr h₀ L s.heap m) (N : News h₀ L s.heap news) (hr : IsRange s.heap r a b c t u v) (hsm : Builtin.Range.small a b c = true) (hn : Builtin.Range.rangeSize a b c = ((n : Nat) : Int)) (hsz : n ≤ sizeLine)
    (h : ∀ g, CompRest prog w A h₀ L m env elt x scope cl { s with heap := g } (fun _ => True) (fun i v => ∃ t, v = .int (a + i * c) t) (Fin { s with heap := g }) n 0 [] news) :
    CompSrcX prog w A h₀ L m env elt x scope cl Fin E (.ref r) s := by
  refine wpAny_pyIter_range hr hsm ?_
  exact ⟨_, n, _, _, news, rfl, Walks.range hh _ a c n, hsz, fun i h st => ⟨_, st⟩, (by show IsRangeIter _ _ _ _ _; rw [hn]; simpa using Heap.get?_push_size _ rfl), (by show s.heap.objs.size < (s.heap.push _).objs.size; rw [Heap.size_push]; exact Nat.lt_succ_self _),
    F.keeps fun _ _ e => Heap.get?_push_of_some _ e, N.grown fun _ _ e => Heap.get?_push_of_some _ e, Nat.ne_of_lt F.ns.lt, next_is_new F, fun p hp => Nat.ne_of_lt (Heap.lt_size (N p hp).1), h _⟩
theorem CompSrcX.str {elt : Expr} {x : Str} {scope : Scope} {cl : List (Str × Addr)} {Fin : Shared → List Value → List (Addr × Obj) → Prop} {z : Str} {t : Tok} {news : List (Addr × Obj)}
    (hh : A.handled = none) (F : Fr h₀ L s.heap m) (N : News h₀ L s.heap news) (hsz : z.cps.size ≤ sizeLine)
    (h : ∀ g, CompRest prog w A h₀ L m env elt x scope cl { s with heap := g } (fun _ => True) (SignAt z) (Fin { s with heap := g }) z.cps.size 0 [] news) :
    CompSrcX prog w A h₀ L m env elt x scope cl Fin E (.str z t) s := by
  have go : ∀ (o : Obj) (St : Nat → Heap → Prop), Walks prog w A s.heap.objs.size [s.heap.objs.size] [s.heap.objs.size] z.cps.size (SignAt z) St → (∀ i h, St i h → ∃ o, h.get? s.heap.objs.size = some o) → St 0 (s.heap.push o) →
      ∃ (I : Addr) (n : Nat) (P : Nat → Value → Prop) (St : Nat → Heap → Prop) (news : List (Addr × Obj)), Value.ref s.heap.objs.size = .ref I ∧ Walks prog w A I [I] [I] n P St ∧ n ≤ sizeLine ∧ (∀ i h, St i h → ∃ o, h.get? I = some o) ∧ St 0 (s.heap.push o) ∧ I < (s.heap.push o).objs.size ∧
        Fr h₀ L (s.heap.push o) m ∧ News h₀ L (s.heap.push o) news ∧ L ≠ I ∧ h₀.get? I = none ∧ (∀ p ∈ news, p.1 ≠ I) ∧ CompRest prog w A h₀ L m env elt x scope cl { s with heap := s.heap.push o } (fun _ => True) P (Fin { s with heap := s.heap.push o }) n 0 [] news := fun o St W hI hst =>
    ⟨_, z.cps.size, _, _, news, rfl, W, hsz, hI, hst, (by rw [Heap.size_push]; exact Nat.lt_succ_self _), F.keeps fun _ _ e => Heap.get?_push_of_some _ e, N.grown fun _ _ e => Heap.get?_push_of_some _ e, Nat.ne_of_lt F.ns.lt, next_is_new F, fun p hp => Nat.ne_of_lt (Heap.lt_size (N p hp).1), h _⟩
  show wpAny _ _ _ _ _ _
  cases ha : z.cps.all (· < 128)
  · exact wpAny_pyIter_wide ha (go _ _ (Walks.strWide hh _ z t) (fun i h st => let ⟨o, e, _⟩ := st; ⟨o, e⟩) ⟨_, Heap.get?_push_size _ rfl, rfl, rfl⟩)
  · exact wpAny_pyIter_ascii ha (go _ _ (Walks.strAscii hh _ z t) (fun i h st => let ⟨o, e, _⟩ := st; ⟨o, e⟩) ⟨_, Heap.get?_push_size _ rfl, rfl, rfl⟩)
/-- the turns of a comprehension by an invariant -/
theorem compRest_inv {elt : Expr} {x : Str} {scope : Scope} {cl : List (Str × Addr)} {S : List (Addr × Obj) → Prop} {P : Nat → Value → Prop} {Fin : List Value → List (Addr × Obj) → Prop} {n : Nat} {news : List (Addr × Obj)} (J : Nat → List Value → List (Addr × Obj) → Prop)
    (h0 : J 0 [] news) (fin : ∀ ys nw, J n ys nw → Fin ys nw)
    (turn : ∀ i ys nw v I oI C oC D m₂ h tk (E' : Value → Shared → Prop), i < n → J i ys nw → P i v → NsObj oC m₂ → m₂ x = some v → Fr h₀ L h m → News h₀ L h ((I, oI) :: (C, oC) :: (D, lst ys) :: nw) → Off3 I C D nw → ((@Ne Nat I C) ∧ (@Ne Nat I D) ∧ (@Ne Nat C D)) →
      wpAny (model prog w) A (eval elt (compEnvC scope cl C env)) (CompEnd h₀ L m { s with heap := h, toks := tk } I oI C oC D (lst ys) S (fun y nw' => J (i + 1) (ys ++ [y]) nw')) E' { s with heap := h, toks := tk }) :
    CompRest prog w A h₀ L m env elt x scope cl s S P Fin n 0 [] news := by
  have key : ∀ (k i : Nat) ys nw, i + k = n → J i ys nw → CompRest prog w A h₀ L m env elt x scope cl s S P Fin k i ys nw := by
    intro k
    induction k with
    | zero => intro i ys nw hi hj; have e : i = n := by omega
              subst e; exact CompRest.zero (fin _ _ hj)
    | succ k ih =>
      intro i ys nw hi hj
      refine CompRest.succ fun v I oI C oC D m₂ h tk E' hP hC hx F N off ne => ?_
      refine wpAny_mono (turn i ys nw v I oI C oC D m₂ h tk E' (by omega) hj hP hC hx F N off ne) (fun y s₂ hq => ?_) fun _ _ e => e
      obtain ⟨h', tk', nw', e, F', N', off', hS, hJ⟩ := hq
      exact ⟨h', tk', nw', e, F', N', off', hS, ih (i + 1) _ _ (by omega) hJ⟩
  exact key n 0 [] news (by omega) h0
def ValEnd (h₀ : Heap) (L : Addr) (m : Str → Option Value) (s₁ : Shared) (led : List (Addr × Obj)) (G : Value → Prop) (y : Value) (s₂ : Shared) : Prop :=
  ∃ h' tk, s₂ = { s₁ with heap := h', toks := tk } ∧ Fr h₀ L h' m ∧ News h₀ L h' led ∧ G y
/-- the turns of a comprehension whose elements are plain values: no new object stays -/
theorem compRest_val {elt : Expr} {x : Str} {scope : Scope} {cl : List (Str × Addr)} {P : Nat → Value → Prop} {Fin : List Value → List (Addr × Obj) → Prop} {n : Nat} {news : List (Addr × Obj)} (J : Nat → List Value → Prop)
    (h0 : J 0 []) (fin : ∀ ys, J n ys → Fin ys news)
    (turn : ∀ i ys v I oI C oC D m₂ h tk (E' : Value → Shared → Prop), i < n → J i ys → P i v → NsObj oC m₂ → m₂ x = some v → Fr h₀ L h m → News h₀ L h ((I, oI) :: (C, oC) :: (D, lst ys) :: news) → Off3 I C D news → ((@Ne Nat I C) ∧ (@Ne Nat I D) ∧ (@Ne Nat C D)) →
      wpAny (model prog w) A (eval elt (compEnvC scope cl C env)) (fun y s' => Cut (ValEnd h₀ L m { s with heap := h, toks := tk } ((I, oI) :: (C, oC) :: (D, lst ys) :: news) (fun y => J (i + 1) (ys ++ [y])) y s')) E' { s with heap := h, toks := tk }) :
    CompRest prog w A h₀ L m env elt x scope cl s (fun _ => True) P Fin n 0 [] news := by
  refine compRest_inv (fun i ys nw => nw = news ∧ J i ys) ⟨rfl, h0⟩ (fun ys nw ⟨e, hj⟩ => e ▸ fin ys hj) ?_
  rintro i ys nw v I oI C oC D m₂ h tk E' hi ⟨rfl, hj⟩ hP hC hx F N off ne
  refine wpAny_mono (turn i ys v I oI C oC D m₂ h tk E' hi hj hP hC hx F N off ne) (fun y s₂ hq => ?_) fun _ _ e => e
  obtain ⟨h', tk', rfl, F', N', hJ⟩ := hq
  exact CompEnd.intro F' N' _ (fun _ hp => hp) off trivial ⟨rfl, hJ⟩
end
end Mine
end

section
open PySem PySem.W PyProof.Rows
set_option Elab.async false
set_option maxRecDepth 100000
set_option maxHeartbeats 2000000
namespace Mine
local macro_rules | `(tactic| walk_at "eval ListComp") => `(tactic| (k_here; k_dflt (refine ListComp_X (_F₀ := by k_asm) (by with_unfolding_all rfl) (by decide) (by rfl) (by decide) (by rfl) ?_)))
theorem lo (w : World) (x : PySem.Str) (hx : x.cps.size ≤ 100) (hc : ∀ c ∈ x.cps.toList, c < 128) (tx : Tok) (news : List (Addr × Obj)) : theLaw = theLaw → ConA w 88 2 news [.str x tx] fun _ _ h₀ L m Q _ s =>
    ∀ (t : Tok) (h' : Heap) (tk' : Nat), Fr h₀ L h' m → News h₀ L h' news → Q (.bytes (x.cps.toList.map fun c => ((255 : Int) - (c : Nat)).toNat.toUInt8).toArray t) { s with heap := h', toks := tk' } := by
  unfold ConA
  k_fill
  intro _
  intro loose mean mg mb dp un gd cn cs a ccd cl outer A₀ base h₀ L m s Q E B F X N T hk hd' hu hret
  refine wpAny_call ?_
  (refine' code_def ?k1 ?k2 ?k3 ?k4 ?k5 ?kA ?kF ?kK ?k6 ?k7 ?k8 ?k9 ?kB ?_ ?c2 ?c3 ?c4 ?c5; (case kA => exact rfl); (case kF => exact rfl); (case kK => first | assumption | exact rfl); (case k1 => k_asm); (case k2 => k_asm); (case k3 => k_asm); (case k4 => k_asm); (case k5 => k_asm); (case k6 => k_is); (case k7 => k_is); (case k8 => ktr_room); (case k9 => exact BindsTo.of_eq rfl); (case c5 => decide); (case kB => exact locs rfl); (case c2 => exact rfl); (case c3 => exact rfl); (case c4 => exact rfl))
  intro g' L' h' FG' F' N' B' X' T'
  k_steps
  refine CompSrcX.str rfl (by assumption) (by assumption) (by rw [sizeLine_eq]; omega) fun g => ?_
  refine compRest_val (fun i ys => IntsAre ys ((x.cps.toList.take i).map fun c : Nat => (255 : Int) - (c : Int))) .nil ?_ ?_
  · intro ys hys
    rw [List.take_of_length_le (by simp)] at hys
    intro D h2 tk2 F2 N2 o1
    k_fold
    k_steps
    refine bytes_K F2 N2 ⟨_, (N2 _ (.head _)).1, rfl, _, rfl⟩ hys ?_ ?_ rfl fun h3 t3 k3 F3 N3 _ => ?_
    · intro n hn
      obtain ⟨c, hcm, rfl⟩ := List.mem_map.mp hn
      have := hc c hcm
      omega
    · have := hys.length
      rw [sizeLine_eq]
      simp at this
      omega
    rw [List.map_map]
    show LeaveK _ _ _ _ _ _ _
    refine leaveK_ F3 N3 fun kF kN => hret _ _ _ kF (fun p hp => kN p (.tail _ hp))
  · rintro i ys v I oI C oC D m₂ h2 tk2 E' hi hys ⟨c, u, hcx, rfl⟩ hC hx' F2 N2 off ne
    have hc' : c < 128 := hc c (by simpa using Array.mem_of_getElem? hcx)
    show wpAny _ _ (eval _ _) _ _ _
    k_fold
    k_steps
    refine ⟨_, _, rfl, F2, N2, ?_⟩
    rw [List.take_add_one, show x.cps.toList[i]? = some c by simpa using hcx, Option.toList_some, List.map_append]
    exact hys.append (.cons _ _ .nil)

end Mine
end

section
open PySem PySem.W PyProof.Rows
set_option Elab.async false
set_option maxRecDepth 100000
set_option maxHeartbeats 2000000
namespace Mine
open PySem.Builtin PySem.Builtin._codecs
theorem forIn_steps {m : Type → Type} [Monad m] [LawfulMonad m] {α β : Type} {f : α → β → m (ForInStep β)} (g : Nat → β) : ∀ (l : List α) (k : Nat), (∀ i (x : α), k ≤ i → i < k + l.length → f x (g i) = pure (.yield (g (i + 1)))) → forIn l (g k) f = pure (g (k + l.length))
  | [], k, _ => by simp
  | x :: l, k, h => by
    rw [List.forIn_cons, h k x (Nat.le_refl _) (by simp), pure_bind]
    show forIn l (g (k + 1)) f = _
    rw [forIn_steps g l (k + 1) fun i y h1 h2 => h i y (by omega) (by simp; omega)]
    rw [List.length_cons, Nat.add_right_comm, Nat.add_assoc]
theorem dec_step (b : List UInt8) (hb : ∀ c ∈ b, c.toNat < 128) (i : Nat) (hi : i < b.length) : asciiDecoder.find true b.toArray i = .text [((b.map (·.toNat)).getD i 0)] (i + 1) := by
  unfold asciiDecoder
  have e : b.toArray.getD i 0 = b[i] := by simp [hi]
  have e2 : (b.map (·.toNat)).getD i 0 = b[i].toNat := by simp [hi]
  simp only [e, e2]
  rw [if_pos (hb _ (List.getElem_mem hi))]
  rfl
theorem dec_ascii (id : String) (b : List UInt8) (hb : ∀ c ∈ b, c.toNat < 128) (hsz : b.length ≤ 1000) (held : List Value) : runDecoder id asciiDecoder none true b.toArray 0 held = pure ((b.map (·.toNat)).toArray, b.length) := by
  unfold runDecoder
  simp only [Std.Legacy.Range.forIn_eq_forIn_range', Std.Legacy.Range.size]
  refine Eq.trans (congrArg (· >>= _) (forIn_steps (fun i => (i, ((b.map (·.toNat)).take i).toArray, ({ held := held } : Faults))) _ 0 ?_)) ?_
  · intro i x _ hi
    have hi' : i < b.length := by simpa using hi
    have h1 : ¬ ((b.map (·.toNat)).take i).toArray.size > sizeLine := by rw [sizeLine_eq]; simp; omega
    have h2 : ¬ i ≥ b.toArray.size := by simp; omega
    rw [if_neg h1, if_neg h2, dec_step b hb i hi']
    have e : ((b.map (·.toNat)).take i).toArray ++ [((b.map (·.toNat)).getD i 0)].toArray = ((b.map (·.toNat)).take (i + 1)).toArray := by
      rw [List.append_toArray, List.take_add_one]
      congr 2
      simp [hi']
    show pure (ForInStep.yield (i + 1, ((b.map (·.toNat)).take i).toArray ++ [((b.map (·.toNat)).getD i 0)].toArray, _)) = _
    rw [e]
  · simp only [pure_bind]
    congr 2
    · congr 1; rw [List.take_of_length_le]; simp
    · simp
theorem fold_bytes (l : List Nat) : ∀ acc : Array UInt8, l.foldl (fun acc y => acc ++ (asciiCodec.bytesOf y).toArray) acc = acc ++ (l.map (·.toUInt8)).toArray := by
  induction l with
  | nil => intro acc; simp
  | cons x l ih => intro acc; rw [List.foldl_cons, ih]; apply Array.ext'; simp [asciiCodec]
theorem enc_ascii (id : String) (self : Value) (s : PySem.Str) (h : ∀ c ∈ s.cps.toList, c < 128) (h2 : 2 ≤ s.cps.size) (hsz : s.cps.size ≤ 1000) : encodeNarrow id asciiCodec none self s = pure (s.cps.map (·.toUInt8)) := by
  unfold encodeNarrow
  simp only [Std.Legacy.Range.forIn_eq_forIn_range', Std.Legacy.Range.size]
  obtain ⟨k, hk⟩ : ∃ k, (s.length - 0 + 1 - 1) / 1 = k + 1 + 1 := ⟨s.cps.size - 2, by show (s.cps.size - 0 + 1 - 1) / 1 = _; omega⟩
  rw [hk, List.range'_succ, List.range'_succ, List.forIn_cons]
  have hb : ∀ c ∈ s.cps, asciiCodec.bad c = false := fun c hc => by
    have := h c (by simpa using hc)
    show decide (c ≥ 128) = false
    simp; omega
  have hnone : Array.findIdx? asciiCodec.bad (s.cps.extract 0) = none := by
    rw [Array.findIdx?_eq_none_iff]
    intro x hx
    exact hb x (by simpa using hx)
  have h0 : ¬ (#[] : Array UInt8).size > sizeLine := by rw [sizeLine_eq]; decide
  have hx : s.cps[0]? = some s.cps[0] := by simp
  simp only [if_neg h0, hx, hb s.cps[0] (Array.getElem_mem _), hnone, Bool.not_false, if_true, pure_bind, Option.getD_none, Nat.zero_add]
  rw [List.forIn_cons]
  have hf : Array.foldl (fun acc y => acc ++ (asciiCodec.bytesOf y).toArray) #[] ((s.cps.extract 0).extract 0 (s.cps.extract 0).size) = s.cps.map (·.toUInt8) := by
    rw [← Array.foldl_toList, fold_bytes]
    simp
    apply Array.ext' 
    simp
  have h1 : ¬ (s.cps.map (·.toUInt8)).size > sizeLine := by rw [sizeLine_eq]; simp; omega
  have hy : s.cps[(s.cps.extract 0).size]? = none := by simp
  simp only [hf, if_neg h1, hy, pure_bind]
section
theorem get_enc {M : Model} {A : Around} {E : Value → Shared → Prop} {s : Shared} {x : PySem.Str} {t : Tok} {pl : Sem Bool} {Q : Value × List Value → Shared → Prop} (h : Q (.builtin "str.encode", [.str x t]) s) : wpAny M A (getMethod (.str x t) "encode" pl) Q E s := by
  with_reducible exact PySem.GM.of (.str x t) (typeIs_str _ _ _) PySem.F.slot_str_encode PySem.F.type_str_encode PySem.GM.noRef h
theorem enc_eq (x : PySem.Str) (t t2 : Tok) : Builtin.«str.encode» ⟨[.str x t, .str (PySem.Str.ofString "ascii") t2], []⟩ = ((encodeNarrow "str.encode" asciiCodec none (.str x t) x >>= fun b => mkBytes b) >>= fun v => ret v) := by kernel_rfl
variable {prog : Program} {w : World} {A : Around} {E : Value → Shared → Prop} {s : Shared}
theorem call_enc {x : PySem.Str} {t t2 : Tok} {Q : Value → Shared → Prop} (h : ∀ c ∈ x.cps.toList, c < 128) (h2 : 2 ≤ x.cps.size) (hsz : x.cps.size ≤ 1000)
    (hQ : ∀ t' k, Q (.bytes (x.cps.map (·.toUInt8)) t') { s with toks := k }) :
    wpAny (model prog w) A (call (.builtin "str.encode") [.str x t, .str (PySem.Str.ofString "ascii") t2]) Q E s := by
  refine wpAny_call_entry PySem.F.slot_str_encode (typeIs_str _ _ _) PySem.F.entry_str_encode ?_ (PySem.F.args_str_encode_2 _ _)
  rw [enc_eq, enc_ascii _ _ _ h h2 hsz, pure_bind]
  refine wpAny_bind (wpAny_mkBytes ?_ (by rw [sizeLine_eq]; simp; omega))
  exact wpAny_pure ⟨_, rfl, hQ _ _⟩
-- str(b, 'ascii')
theorem args_dec (a b : Value) : argsOk "bytes.decode" ⟨[a], [(PySem.Str.ofString "encoding", b)]⟩ := by unfold argsOk; kernel_rfl
theorem dec_eq (c : UInt8) (cs : List UInt8) (t t2 : Tok) : Builtin.«bytes.decode» ⟨[.bytes (c :: cs).toArray t], [(PySem.Str.ofString "encoding", .str (PySem.Str.ofString "ascii") t2)]⟩ = (mkStr (PySem.Str.ofString "utf-8") >>= fun _ => mkStr (PySem.Str.ofString "ascii") >>= fun e => mkStr (PySem.Str.ofString "bytes.decode") >>= fun d =>
    call (.builtin "_codecs.decode.text") [.bytes (c :: cs).toArray t, e, .none, d] >>= fun v => ret v) := by kernel_rfl
theorem road_ascii {id : String} {b : Array UInt8} : _codecs.decodeRoad id b (PySem.Str.ofString "ascii") none [] = (_codecs.runDecoder id _codecs.asciiDecoder none true b 0 [] >>= fun r => mkStr ⟨r.1⟩) := by kernel_rfl
theorem meets_dtext {b : List UInt8} {t t1 t2 : Tok} {d : PySem.Str} (hb : ∀ c ∈ b, c.toNat < 128) (hsz : b.length ≤ 1000) :
    Meets («_codecs.decode.text» ⟨[.bytes b.toArray t, .str (PySem.Str.ofString "ascii") t1, .none, .str d t2], []⟩) (fun _ R s => R (.ok (.ret (.str ⟨(b.map (·.toNat)).toArray⟩ s.toks))) { s with toks := s.toks + 1 }) := by
  refine .of_wp fun prog w A R s h => ?_
  show wpAny _ _ (Bytes.bytesLike _ (.bytes b.toArray t) >>= fun r => _) _ _ s
  refine wpAny_bind (wpAny_of_eq KBd.like_eq ?_)
  refine wpAny_bind (wpAny_of_eq KBd.held_eq ?_)
  show wpAny _ _ (_codecs.decodeRoad _ b.toArray (PySem.Str.ofString "ascii") none [] >>= fun v => _) _ _ s
  rw [road_ascii, dec_ascii _ _ hb hsz]
  refine wpAny_bind (wpAny_bind (wpAny_pure ?_))
  refine wpAny_mkStr (wpAny_pure ⟨_, rfl, h⟩) ?_
  rw [sizeLine_eq]; show (b.map (·.toNat)).toArray.size ≤ _; simp; omega
theorem wp_dec {c : UInt8} {cs : List UInt8} {t t2 : Tok} {Q : Value → Shared → Prop} (hb : ∀ x ∈ c :: cs, x.toNat < 128) (hsz : (c :: cs).length ≤ 1000) (h : ∀ t' k, Q (.str ⟨((c :: cs).map (·.toNat)).toArray⟩ t') { s with toks := k }) :
    wpAny (model prog w) A («bytes.decode» ⟨[.bytes (c :: cs).toArray t], [(PySem.Str.ofString "encoding", .str (PySem.Str.ofString "ascii") t2)]⟩) (fun fin s' => ∃ v, fin = .done (.ret v) ∧ Q v s') E s := by
  rw [dec_eq]
  refine wpAny_bind (wpAny_mkStr ?_ (by decide))
  refine wpAny_bind (wpAny_mkStr ?_ (by decide))
  refine wpAny_bind (wpAny_mkStr ?_ (by decide))
  exact wpAny_bind (call_function_meets KBd.kind_text KBd.plain_text KBd.entry_text (KBd.args_text _ _ _ _) (meets_dtext hb hsz) (wpAny_pure ⟨_, rfl, h _ _⟩))
theorem typeCall_str_2 (a b : Value) : checkTypeCall "str" ⟨[a, b], []⟩ = pure () := by kernel_rfl
theorem newCall_str_2 (a b : Value) : checkBuiltinCall "str.__new__" ⟨[.type "str", a, b], []⟩ = pure () := by kernel_rfl
theorem meets_new2 {c : UInt8} {cs : List UInt8} {t t2 : Tok} (hb : ∀ x ∈ c :: cs, x.toNat < 128) (hsz : (c :: cs).length ≤ 1000) :
    Meets («str.__new__» ⟨[.type "str", .bytes (c :: cs).toArray t, .str (PySem.Str.ofString "ascii") t2], []⟩) (fun _ R s => ∀ t' k, R (.ok (.ret (.str ⟨((c :: cs).map (·.toNat)).toArray⟩ t'))) { s with toks := k }) := by
  refine .of_wp fun prog w A R s h => ?_
  unfold Builtin.«str.__new__»
  dsimp only
  refine wpAny_bind (wpAny_pure ?_)
  simp only [Bool.not_true, Bool.false_eq_true, if_false]
  refine wpAny_bind (wpAny_of_eq isSubtype_str_str ?_)
  simp only [Bool.not_true, Bool.false_eq_true, if_false]
  refine bm_if_false rfl ?_
  refine wpAny_bind (wpAny_of_eq (a := [some (.bytes (c :: cs).toArray t), some (.str (PySem.Str.ofString "ascii") t2), none]) (by kernel_rfl) ?_)
  dsimp only
  refine wpAny_bind (wpAny_of_eq (a := some (PySem.Str.ofString "ascii")) (by kernel_rfl) ?_)
  refine wpAny_bind (wpAny_of_eq (a := none) (by kernel_rfl) ?_)
  refine bm_if_false rfl ?_
  refine wpAny_bind ?_
  refine wpAny_bind (m := (mkStr (PySem.Str.ofString "ascii") >>= fun e => pure [(PySem.Str.ofString "encoding", e)])) (wpAny_bind (wpAny_mkStr (wpAny_pure ?_) (by decide)))
  refine wpAny_bind (wpAny_pure ?_)
  refine wpAny_bind ?_
  with_reducible refine wpAny_isInstance (typeIs_bytes _ _ _) PySem.F.sub_bytes_bytes ?_
  refine bm_if_true rfl ?_
  refine wpAny_bind (wpAny_rule ?_)
  refine wpAny_call_entry_kw FB.slot_bytes_decode (typeIs_bytes _ _ _) FB.entry_bytes_decode ?_ (args_dec _ _)
  refine wp_dec hb hsz fun t' k => ?_
  refine bm_if_true (by decide) ?_
  exact wpAny_pure ⟨_, rfl, h _ _⟩
theorem strAscii {c : UInt8} {cs : List UInt8} {t t2 : Tok} {Q : Value → Shared → Prop} (hb : ∀ x ∈ c :: cs, x.toNat < 128) (hsz : (c :: cs).length ≤ 1000) (h : ∀ t' k, Q (.str ⟨((c :: cs).map (·.toNat)).toArray⟩ t') { s with toks := k }) :
    wpAny (model prog w) A (call (.type "str") [.bytes (c :: cs).toArray t, .str (PySem.Str.ofString "ascii") t2]) Q E s :=
  callType_new F.called_str (by decide) (typeCall_str_2 _ _) (newCall_str_2 _ _) (fun obj => PySem.F.args_object_init_3 obj _ _) F.entry_str_new (meets_new2 hb hsz) fun t' k => ⟨typeIs_str _ _ _, h t' k⟩
end
end Mine
end

section
open PySem PySem.W PyProof.Rows
set_option Elab.async false
set_option maxRecDepth 100000
set_option maxHeartbeats 2000000
namespace Mine
def swapB (x : PySem.Str) (wd q : Nat) : List UInt8 := outerL (x.cps.toList.map (·.toUInt8)) wd (List.replicate x.cps.size 0) q
def swapS (x : PySem.Str) (wd q : Nat) : PySem.Str := ⟨((swapB x wd q).map (·.toNat)).toArray⟩
theorem ls (w : World) (x : PySem.Str) (hx : x.cps.size ≤ 100) (hx2 : 2 ≤ x.cps.size) (hc : ∀ c ∈ x.cps.toList, c < 128) (wd q : Nat) (h0 : 0 < wd) (hw : wd ≤ 100) (hq : q * wd = x.cps.size) (hB : ∀ c ∈ swapB x wd q, c.toNat < 128) (tx tw : Tok) (news : List (Addr × Obj)) : theLaw = theLaw → ConB w 83 4 news [.str x tx, .int wd tw] fun _ _ h₀ L m Q _ s =>
    ∀ (t : Tok) (h' : Heap) (tk' : Nat), Fr h₀ L h' m → News h₀ L h' news → Q (.str (swapS x wd q) t) { s with heap := h', toks := tk' } := by
  unfold ConB
  k_fill
  intro _
  intro loose mean mg mb dp un gd cn cs a ccd cl outer A₀ base h₀ L m s Q E B F X N T hk hd' hu hret
  refine cCall ?_
  (refine' cCode_def ?k1 ?k2 ?k3 ?k4 ?k5 ?kA ?kF ?kK ?k6 ?k7 ?k8 ?k9 ?kB ?_ ?c2 ?c3 ?c4 ?c5; (case kA => exact rfl); (case kF => exact rfl); (case kK => first | assumption | exact rfl); (case k1 => k_asm); (case k2 => k_asm); (case k3 => k_asm); (case k4 => k_asm); (case k5 => k_asm); (case k6 => k_is); (case k7 => k_is); (case k8 => ktr_room); (case k9 => exact BindsTo.of_eq rfl); (case c5 => decide); (case kB => exact locs rfl); (case c2 => exact rfl); (case c3 => exact rfl); (case c4 => exact rfl))
  intro g' L' h' FG' F' N' B' X' T' l1
  have F1 : Fr g' L' h' (fun y => List.lookup y [(Str.ofString "width", .int wd tw), (Str.ofString "text", .str x tx)]) := F'
  clear F' F X N T B hk
  generalize s.toks + _ = tk0
  refine cExecsCons (cAssign rfl (cEvalCall (wpC_cut (fun v s' => v = .ref 38 ∧ ∃ tk, s' = { s with heap := h', toks := tk }) ?_ ?_)))
  · clear hret
    k_fold
    k_steps
    exact ⟨rfl, _, rfl⟩
  rintro _ _ ⟨rfl, tk, rfl⟩
  refine cCallF (K := hd0.heap_1 w.params) rfl rfl rfl (cSplicedB rfl (wpC_cut (fun v s' => ∃ t tk, v = .bytes (x.cps.map (·.toUInt8)) t ∧ s' = { s with heap := h', toks := tk }) ?_ ?_))
  · clear hret
    k_fold
    k_steps
    with_reducible refine get_enc ?_
    k_steps
    refine call_enc hc hx2 (Nat.le_trans hx (by decide)) fun _ _ => ?_
    k_steps
    exact ⟨_, _, rfl, rfl⟩
  rintro _ _ ⟨t1, tk1, rfl, rfl⟩
  refine cSplicedB rfl (wpC_cut (fun v s' => ∃ tk, v = .int wd tw ∧ s' = { s with heap := h', toks := tk }) ?_ ?_)
  · clear hret
    k_fold
    k_steps
    exact ⟨_, rfl, rfl⟩
  rintro _ _ ⟨tk2, rfl, rfl⟩
  refine cSplicedNil ⟨X'.keeps F1.keep, ?_⟩
  have hm : x.cps.map (·.toUInt8) = (x.cps.toList.map (·.toUInt8)).toArray := by apply Array.ext'; simp
  have hlen : (x.cps.toList.map (·.toUInt8)).length = x.cps.size := by simp
  rw [hm]
  refine' bs w (x.cps.toList.map (·.toUInt8)) (hlen ▸ hx) wd q h0 hw (hlen ▸ Nat.lt_of_lt_of_le (by decide) hx2) (hlen ▸ Nat.le_of_eq hq) (hlen ▸ hq ▸ Nat.lt_add_of_pos_right h0) t1 tw news rfl _ _ _ _ _ _ _ _ _ _ _ _ _ _ _ _ _ _ _ _ _ ?k1 ?k2 ?k3 ?k4 ?k5 ?_ ?_ ?_ ?_
  case k1 => exact B'
  case k2 => exact F1
  case k3 => exact X'
  case k4 => exact N'
  case k5 => exact T'
  · exact rfl
  · clear hret; ktr_room
  · clear hret; ktr_units
  refine ⟨fun t3 h3 tk3 _ F3 N3 => ?_, fun e _ _ _ hlt => absurd hlt (hlen ▸ hq ▸ Nat.lt_irrefl _)⟩
  clear F1 N' B' FG' hd' hu
  have hsw : outerL (x.cps.toList.map (·.toUInt8)) wd (List.replicate (x.cps.toList.map (·.toUInt8)).length 0) q = swapB x wd q := by rw [hlen]; rfl
  have hl : (swapB x wd q).length = x.cps.size := (outerL_length _).trans List.length_replicate
  rw [hsw]
  refine stN F3 N3 fun h4 F4 N4 => cOf ?_
  simp only [lookup_if, List.lookup_nil] at F4
  clear F3 N3 hm hsw hq h0
  refine absA (P := fun Q E s => ∀ t h tk m', Fr g' L' h m' → News g' L' h news → Q (.ret (.str (swapS x wd q) t)) { s with heap := h, toks := tk }) (fun t h2 tk2 m2 F2 N2 => leaveK_ F2 N2 fun kF kN => hret t _ _ kF kN) ?_
  clear hret
  obtain ⟨b, hb⟩ : ∃ b, b = swapB x wd q := ⟨_, rfl⟩
  have hS : swapS x wd q = ⟨(b.map (·.toNat)).toArray⟩ := by rw [hb]; rfl
  rw [← hb] at hB hl F4
  rw [hS]
  clear hS hb
  match b, hl with
  | [], hl => exact absurd hx2 (hl ▸ by decide)
  | c :: cs, hl =>
    have hl' : (c :: cs).length ≤ 1000 := hl ▸ Nat.le_trans hx (by decide)
    clear hl hx hx2 hc
    intro dp un fr gd Q E s hE hret
    k_steps
    refine strAscii hB hl' fun _ _ => ?_
    exact hret _ _ _ _ F4 N4

end Mine
end

section
open PySem PySem.W PyProof.Rows
set_option Elab.async false
set_option maxRecDepth 100000
set_option maxHeartbeats 2000000
namespace Mine
def cellS (x : PySem.Str) (wd k : Nat) : PySem.Str := Txt.slice x (some (0 + (k : Int) * wd)) (some (0 + (k : Int) * wd + wd))
theorem lc (w : World) (x : PySem.Str) (hx : x.cps.size ≤ 100) (wd q : Nat) (h0 : 0 < wd) (hw : wd ≤ 100) (hq : q * wd = x.cps.size) (hq0 : 0 < x.cps.size) (tx tw : Tok) (news : List (Addr × Obj)) : theLaw = theLaw → ConA w 93 2 news [.str x tx, .int wd tw] fun _ _ h₀ L m Q _ s =>
    ∀ (vs : List Value) (D : Addr) (h' : Heap) (tk' : Nat), StrsAre vs ((List.range q).map (cellS x wd)) → Fr h₀ L h' m → News h₀ L h' ((D, LCg.lst vs) :: news) → Q (.ref D) { s with heap := h', toks := tk' } := by
  unfold ConA
  k_fill
  intro _
  intro loose mean mg mb dp un gd cn cs a ccd cl outer A₀ base h₀ L m s Q E B F X N T hk hd' hu hret
  refine wpAny_call ?_
  refine' code_defC ?k1 ?k2 ?k3 ?k4 ?k5 ?kA ?kF ?kK ?k6 ?k7 ?k8 ?k9 ?kB ?kD ?_ ?c2 ?c3 ?c4; (case kA => exact rfl); (case kF => exact rfl); (case kK => first | assumption | exact rfl); (case k1 => k_asm); (case k2 => k_asm); (case k3 => k_asm); (case k4 => k_asm); (case k5 => k_asm); (case k6 => k_is); (case k7 => k_is); (case k8 => ktr_room); (case k9 => exact BindsTo.of_eq rfl); (case kB => exact rfl); (case kD => decide +kernel); (case c2 => exact rfl); (case c3 => exact rfl); (case c4 => exact rfl)
  intro g' L' h' tk' cells' FG' F' N' Y' B' X' T' l1
  (try k_lt l1)
  k_cells Y'
  (try simp only [List.cons_append, List.nil_append] at N')
  rename_i oA oB dA dB
  have F0 : Fr g' L' h' (fun _ => none) := F'
  have dA' : oA.data = .cell (some (.int wd tw)) := dA
  have dB' : oB.data = .cell (some (.str x tx)) := dB
  clear F' dA dB
  have hn1 : x.cps.size ≤ 1000 := Nat.le_trans hx (by decide)
  have hsz := range_q h0 hq.symm (Nat.pos_of_ne_zero fun z => by subst z; omega)
  have hqn : q ≤ 1000 := Nat.le_trans (Nat.le_trans (Nat.le_mul_of_pos_right q h0) (Nat.le_of_eq hq)) hn1
  have hsm := range_small hn1 h0 hw hsz hqn
  show wpAny _ _ (execs _ _) _ _ _
  refine wpAny_execs_cons (wpAny_Return_some ?_)
  refine ListComp_X (_F₀ := F0) (by with_unfolding_all rfl) (by decide) (by rfl) (by decide) (by rfl) ?_
  refine wpAny_cut (fun v s' => ∃ r h tk t u v', v = .ref r ∧ s' = { s with heap := h, toks := tk } ∧ IsRange h r 0 x.cps.size wd t u v' ∧ Fr g' L' h (fun _ => none) ∧ News g' L' h ((L' + 1 + 1, oA) :: (L' + 1, oB) :: news)) ?_ ?_
  · k_fold
    repeat' (first | (k_unfold; (try dsimp only)) | ((fail_if_success (with_reducible show wpAny _ _ (call (Value.builtin _) [Value.str _ _]) _ _ _)); walk1) | ((fail_if_success (with_reducible show wpAny _ _ (call (Value.builtin _) [Value.str _ _]) _ _ _)); dsimp only; walk1))
    have hfit : ¬ ((x.length : Nat) : Int) ≥ 2 ^ 63 := by show ¬ ((x.cps.size : Nat) : Int) ≥ 2 ^ 63; omega
    refine P.len_str hfit ?_
    k_steps
    exact ⟨_, _, _, _, _, _, rfl, rfl, by assumption, by assumption, by assumption⟩
  rintro _ _ ⟨r, h1, tk1, t1, u1, v1, rfl, rfl, R1, F1, N1⟩
  refine CompSrcX.range rfl F1 N1 R1 hsm hsz (by rw [sizeLine_eq]; exact Nat.le_trans hqn (by decide)) fun g => ?_
  refine compRest_val (fun i ys => StrsAre ys ((List.range i).map (cellS x wd))) .nil ?_ ?_
  · intro ys hys D h2 tk2 F2 N2 o1
    show LeaveK _ _ _ _ _ _ _
    exact leaveK_ F2 N2 fun kF kN => hret _ _ _ _ hys kF fun p hp => by
      rcases List.mem_cons.mp hp with rfl | hp
      · exact kN _ (.head _)
      · exact kN _ (.tail _ (.tail _ (.tail _ hp)))
  · clear hret F1 N1 R1 hsm hsz
    rintro i ys v I oI C oC D m₂ h2 tk2 E' hi hys ⟨t3, rfl⟩ hC hx' F2 N2 off ne
    show wpAny _ _ (eval _ _) _ _ _
    k_fold
    k_steps
    refine ⟨_, _, rfl, by assumption, by assumption, ?_⟩
    rw [List.range_succ, List.map_append]
    exact kct_snoc hys

end Mine
end

section
open PySem PySem.W PyProof.Rows
set_option Elab.async false
set_option maxRecDepth 100000
set_option maxHeartbeats 2000000
namespace Mine
theorem turnedBack {h₀ g g2 h : Heap} {L L2 : Addr} {m m2 : Str → Option Value} {news : List (Addr × Obj)} (FG : Fr h₀ L g m) (T : KtsTurn [L] g g2) (F2 : Fr g2 L2 h m2) (N2 : News g2 L2 h news) : Fr h₀ L h m ∧ News h₀ L h news := by
  have hL : h₀.get? L = none := kts_self FG
  have nL : ∀ b o, h₀.get? b = some o → b ∉ [L] := fun b o e q => by rw [List.mem_singleton.mp q, hL] at e; cases e
  obtain ⟨o, es, ep, ho, hd, hk, hf⟩ := FG.ns
  obtain ⟨sl, hs⟩ := T.up ho
  refine ⟨⟨⟨_, es, ep, F2.keep _ _ hs, hd, hk, hf⟩, fun b o e => F2.keep _ _ (T.other _ _ (FG.keep _ _ e) (nL b o e)), FG.above⟩, fun p hp => ⟨(N2 p hp).1, fun q => ?_, ?_⟩⟩
  · have := (N2 p hp).2.2
    rw [q, hs] at this; cases this
  · cases e : h₀.get? p.1 with
    | none => rfl
    | some o => have := (N2 p hp).2.2; rw [T.other _ _ (FG.keep _ _ e) (nL _ _ e)] at this; cases this
theorem cCode_defT {prog : Program} {w : World} {A : Around} {s : Shared} {R : Result → Shared → Prop} {env : Env} {A₀ : Around} {base h₀ : Heap} {L : Addr} {m mg mb : Str → Option Value} {news : List (Addr × Obj)} {K : Frag} {p : Program} {loose : List Str} {mean : ExcName → Option Value}
    {name qual : Str} {params : Arguments} {body : List Stmt} {scope : Scope} {dV kV doc pm cdv ct oc : Value} {an od : Option Addr} {osl : Array (Option Value)} {f : Addr} {args : Args} {binds : List (Str × Value)}
    (B : Below A₀ base [] h₀) (F : Fr h₀ L s.heap m) (X₀ : K.In h₀) (N : News h₀ L s.heap news) (T : Top p loose mean mg mb h₀) (hA : A.frames = some [env]) (hf : env.frame = some L) (hke : env.scope.kind = .function)
    (ho : K.lookup f = some ⟨oc, od, .func (fnOf name qual params body scope dV kV doc pm an cdv ct), osl⟩) (hcd : codeIn K cdv qual = true) (hroom : A.depth < recursionLimit)
    (hbind : BindsTo s (fnOf name qual params body scope dV kV doc pm an cdv ct) args binds) (hloc : ∀ y ∈ binds, scope.names.lookup y.1 = some .local)
    (h : ∀ g L' h₁, Fr h₀ L g m → Fr g L' h₁ (fun y => binds.reverse.lookup y) → News g L' h₁ news → Below A base [env] g → K.In g → Top p loose mean mg mb g →
      wpC (model prog w) (A.deeper (envOf qual scope L' f cdv)) (execs body (envOf qual scope L' f cdv))
        (fun fl s' => ∃ L₂ m₂ g₂, KtsTurn [L] g g₂ ∧ Fr g₂ L₂ s'.heap m₂ ∧ News g₂ L₂ s'.heap news ∧ (Fr h₀ L s'.heap m → News h₀ L s'.heap news → R (.ok (.ret (match fl with | .ret v => v | _ => .none))) s'))
        (fun e s' => wpAny (model prog w) (A.deeper (envOf qual scope L' f cdv)) (leaving (envOf qual scope L' f cdv) e) (fun _ s'' => R (.error e) s'') (fun e' s'' => R (.error e') s'') s')
        { s with heap := h₁, toks := s.toks + binds.length })
    (hco : scope.isCoroutine = false) (hgen : scope.isGenerator = false) (hk : scope.kind = .function)
    (hcell : ∀ x ∈ scope.names, x.2 ≠ .cell) : codeC (model prog w) A (.call (.ref f) args) R s := by
  obtain ⟨FG, BG, st, -⟩ := groundX (R := R) B F N hA hf hke
  refine cCallDef (fd := fnX name qual params body scope [] dV kV doc pm an cdv ct) (body := body) (binds := binds) hroom ((X₀.keeps F.keep) _ _ ho) rfl (T.nolimit.keeps F.keep) (codeRec_of (X₀.keeps F.keep) hcd) rfl hbind hcell hloc (fun h₁ hns hk₁ => ?_) hco hgen hk
  refine cMono (h _ s.heap.objs.size h₁ FG ⟨hns, fun b o e => hk₁ b o (of_hideAll _ e), Nat.le_of_eq (hideAll_size _ _)⟩
    (fun p hp => ⟨hk₁ _ _ (N p hp).1, Nat.ne_of_lt (Heap.lt_size (N p hp).1), hideAll_none _ (List.mem_map_of_mem hp)⟩) BG (X₀.keeps st) (T.keeps st)) (fun fl s' hl => ?_) fun _ _ y => y
  obtain ⟨L₂, m₂, g₂, T₂, F₂, N₂, k⟩ := hl
  obtain ⟨F₃, N₃⟩ := turnedBack FG T₂ F₂ N₂
  exact k F₃ N₃
theorem lr (w : World) (x : PySem.Str) (hx : x.cps.size ≤ 100) (hx2 : 2 ≤ x.cps.size) (hc : ∀ c ∈ x.cps.toList, c < 128) (wd q : Nat) (h0 : 0 < wd) (hw : wd ≤ 100) (hq : q * wd < x.cps.size) (hq2 : x.cps.size < q * wd + wd) (tx tw : Tok) (news : List (Addr × Obj)) : theLaw = theLaw →
  ∀ (loose : List Str) (mean : ExcName → Option Value) (mg mb : Str → Option Value) (dp un : Nat) (gd : Option (List Code)) (cn : Str) (cs : Scope) (a : Addr) (ccd : Value) (cl : List (Str × Addr)) (A₀ : Around) (base h₀ : Heap) (L : Addr) (m : Str → Option Value) (s : Shared) (Q E : Value → Shared → Prop),
    Below A₀ base [] h₀ → Fr h₀ L s.heap m → (hd0.heap_1 w.params).In h₀ → News h₀ L s.heap news → Top topProg loose mean mg mb h₀ → cs.kind = .function → dp + 4 < recursionLimit → un + 10 * 4 < cLine → (hd0.heap_1 w.params).In base → Top topProg loose mean mg mb base →
    (∀ h' tk', Fr h₀ L h' m → News h₀ L h' news → Q (.bool true) { s with heap := h', toks := tk' }) →
    wpC (model PySem.Challenge.rw_rx0034_01.row.prog w) (ktrTop dp un gd cn cs L a ccd cl []) (call (.ref 100) [.str x tx, .int wd tw]) Q E s := by
  k_fill
  intro _
  intro loose mean mg mb dp un gd cn cs a ccd cl A₀ base h₀ L m s Q E B F X N T hk hd' hu XB TB hret
  refine cCall ?_
  refine' cCode_defT ?k1 ?k2 ?k3 ?k4 ?k5 ?kA ?kF ?kK ?k6 ?k7 ?k8 ?k9 ?kB ?_ ?c2 ?c3 ?c4 ?c5; (case kA => exact rfl); (case kF => exact rfl); (case kK => first | assumption | exact rfl); (case k1 => k_asm); (case k2 => k_asm); (case k3 => k_asm); (case k4 => k_asm); (case k5 => k_asm); (case k6 => k_is); (case k7 => k_is); (case k8 => ktr_room); (case k9 => exact BindsTo.of_eq rfl); (case c5 => decide); (case kB => exact locs rfl); (case c2 => exact rfl); (case c3 => exact rfl); (case c4 => exact rfl)
  intro g' L' h' FG' F' N' B' X' T'
  have F1 : Fr g' L' h' (fun y => List.lookup y [(Str.ofString "width", .int wd tw), (Str.ofString "text", .str x tx)]) := F'
  clear F' F X N T B hk
  generalize s.toks + _ = tk0
  refine cExecsCons (cTry (cExecsCons (cExpr rfl rfl (cEvalCall (wpC_cut (fun v s' => v = .ref 38 ∧ ∃ tk, s' = { s with heap := h', toks := tk }) ?_ ?_)))))
  · clear hret
    k_fold
    k_steps
    exact ⟨rfl, _, rfl⟩
  rintro _ _ ⟨rfl, tk, rfl⟩
  refine cCallF (K := hd0.heap_1 w.params) rfl rfl rfl (cSplicedB rfl (wpC_cut (fun v s' => ∃ t tk, v = .bytes (x.cps.map (·.toUInt8)) t ∧ s' = { s with heap := h', toks := tk }) ?_ ?_))
  · clear hret
    k_fold
    k_steps
    with_reducible refine get_enc ?_
    k_steps
    refine call_enc hc hx2 (Nat.le_trans hx (by decide)) fun _ _ => ?_
    k_steps
    exact ⟨_, _, rfl, rfl⟩
  rintro _ _ ⟨t1, tk1, rfl, rfl⟩
  refine cSplicedB rfl (wpC_cut (fun v s' => ∃ tk, v = .int wd tw ∧ s' = { s with heap := h', toks := tk }) ?_ ?_)
  · clear hret
    k_fold
    k_steps
    exact ⟨_, rfl, rfl⟩
  rintro _ _ ⟨tk2, rfl, rfl⟩
  refine cSplicedNil ⟨X'.keeps F1.keep, ?_⟩
  have hm : x.cps.map (·.toUInt8) = (x.cps.toList.map (·.toUInt8)).toArray := by apply Array.ext'; simp
  have hlen : (x.cps.toList.map (·.toUInt8)).length = x.cps.size := by simp
  rw [hm]
  refine' bs w (x.cps.toList.map (·.toUInt8)) (hlen ▸ hx) wd q h0 hw (hlen ▸ Nat.lt_of_lt_of_le (by decide) hx2) (hlen ▸ Nat.le_of_lt hq) (hlen ▸ hq2) t1 tw news rfl _ _ _ _ _ _ _ _ _ _ _ _ _ _ _ _ _ _ _ _ _ ?k1 ?k2 ?k3 ?k4 ?k5 ?_ ?_ ?_ ?_
  case k1 => exact B'
  case k2 => exact F1
  case k3 => exact X'
  case k4 => exact N'
  case k5 => exact T'
  · exact rfl
  · clear hret; ktr_room
  · clear hret; ktr_units
  refine ⟨fun _ _ _ e => absurd e (hlen ▸ Nat.ne_of_lt hq), fun e h3 tk3 G _ F3 R3 up => ?_⟩
  have D : KtsDicts ([envX cn cs L a ccd cl].filterMap (·.frame)) g' := fun b hb => by
    obtain ⟨o, es, ep, ho, hd, _⟩ := FG'.ns
    rw [List.mem_singleton.mp hb]
    exact ⟨o, es, ep, ho, hd⟩
  refine caught_SN0 (T' := "IndexError") R3 F3 B' up XB TB D KtsTurn.refl ?ex PyProof.Rows.Boot.«IndexError» (by decide) PySem.F.isExc_IndexError PySem.F.notTuple_IndexError ?hs ?_
  case ex => k_is
  case hs => kts_sub
  intro h4 g4 T4 F4 N4 K4 X4 P4 D4
  clear XB TB D R3 F3 up FG' B' X' T' F1
  refine wpAny_execs_cons (wpAny_Return_some (wpAny_cut (fun v s' => v = .bool true ∧ s' = { s with heap := h4, toks := tk3 }) ?_ ?_))
  · clear hret
    k_fold
    k_steps
    exact ⟨rfl, rfl⟩
  rintro _ _ ⟨rfl, rfl⟩
  exact ⟨L', _, g4, T4, F4, N4, fun kF kN => hret _ _ kF kN⟩

end Mine
end

section
open PySem PySem.W PyProof.Rows
set_option Elab.async false
set_option maxRecDepth 100000
set_option maxHeartbeats 4000000
namespace Mine
open PySem.Builtin

theorem get_tr {M : Model} {A : Around} {E : Value → Shared → Prop} {s : Shared} {x : PySem.Str} {t : Tok} {pl : Sem Bool} {Q : Value × List Value → Shared → Prop} (h : Q (.builtin "str.translate", [.str x t]) s) : wpAny M A (getMethod (.str x t) "translate" pl) Q E s := by
  with_reducible exact PySem.GM.of (.str x t) (typeIs_str _ _ _) PySem.F.slot_str_translate PySem.F.type_str_translate PySem.GM.noRef h

noncomputable def scOf (P : Params) : Array DictEntry := match (hd0.heap_1 P).lookup 52 with
  | some ⟨_, _, .dict es _, _⟩ => es
  | _ => #[]
def isInK (e : DictEntry) : Bool := match e.key with | .int k _ => e.hash == hashInt k | _ => false
theorem keys_of_check {prog : Program} {w : World} {es : Array DictEntry} (h : es.toList.all isInK = true) : KeysOf (intKind prog w) es := by
  intro e he
  have := List.all_eq_true.mp h e (by simpa using he)
  unfold isInK at this
  split at this
  · rename_i k t hk
    exact ⟨k, by rw [hk]; exact intKind_is _ _ _ _, by show e.hash = hashInt k; simpa using this⟩
  · cases this
theorem sc_map {prog : Program} {w : World} {h : Heap} (X : (hd0.heap_1 w.params).In h) : h.MapOf (intKind prog w) 52 (fun k => findBy Value.isInt (scOf w.params) k) := by
  refine ⟨_, scOf w.params, _, X 52 _ rfl, ?_, rfl, ?_, fun k => rfl⟩
  · exact ⟨rfl, rfl, rfl⟩
  · exact keys_of_check (by rfl)

-- the table's answer for one sign
def escS (n : Nat) : PySem.Str := if [40, 41, 91, 93, 123, 125, 63, 42, 43, 45, 124, 94, 36, 92, 46, 38, 126, 35, 32, 9, 10, 13, 11, 12].contains n then ⟨#[92, n]⟩ else ⟨#[n]⟩

example (w : World) : findBy Value.isInt (scOf w.params) 97 = none := rfl
example (w : World) : findBy Value.isInt (scOf w.params) 46 = some (.str ⟨#[92, 46]⟩ 435) := rfl

section
variable {prog : Program} {w : World} {A : Around} {E : Value → Shared → Prop} {s : Shared}
theorem tl_found {n : Nat} {x : PySem.Str} {t : Tok} {Q : Str.Mapped → Shared → Prop} (X : (hd0.heap_1 w.params).In s.heap) (hf : findBy Value.isInt (scOf w.params) n = some (.str x t))
    (h : ∀ tk, Q (.text x) { s with toks := tk }) : wpAny (model prog w) A (Str.tableLookup (.ref 52) n) Q E s := by
  unfold Str.tableLookup
  refine wpAny_bind (wpAny_attempt (wpAny_bind (wpAny_mkInt ?_)))
  refine wpAny_getItem_of (k := (n : Int)) (intKind_is prog w _ _) (sc_map (prog := prog) X) hf ?_
  show wpAny _ _ (asInt? (.str x t) >>= _) _ _ _
  exact fun _ _ _ => h _
theorem tl_missing {n : Nat} {Q : Str.Mapped → Shared → Prop} (X : (hd0.heap_1 w.params).In s.heap) (hh : A.handled = none) (hf : findBy Value.isInt (scOf w.params) n = none)
    (h : ∀ h' tk, (∀ b o, s.heap.get? b = some o → h'.get? b = some o) → Q .keep { s with heap := h', toks := tk }) : wpAny (model prog w) A (Str.tableLookup (.ref 52) n) Q E s := by
  unfold Str.tableLookup
  refine wpAny_bind (wpAny_attempt (wpAny_bind (wpAny_mkInt ?_)))
  refine wpAny_getItem_missing_of (k := (n : Int)) (intKind_is prog w _ _) (by decide) hh (sc_map (prog := prog) X) hf fun h' e hx => ?_
  obtain ⟨ob, t', ho, hc, hdt⟩ := hx.there
  dsimp only
  refine wpAny_bind (wpAny_isInstance (T := "KeyError") (b := true) ⟨ob, ho, hc⟩ (by rw [isSubtype_type]; kernel_rfl) ?_)
  exact fun _ _ _ => h _ _ hx.keeps

theorem tr_len (n : Nat) : ((⟨#[n]⟩ : PySem.Str).length == 0) = false := rfl
theorem tr_keep {n : Nat} {t : Tok} {Q : PySem.Fin → Shared → Prop} (hn : n < 128) (X : (hd0.heap_1 w.params).In s.heap) (hh : A.handled = none) (hf : findBy Value.isInt (scOf w.params) n = none)
    (h : ∀ t' h' tk, (∀ b o, s.heap.get? b = some o → h'.get? b = some o) → Q (.done (.ret (.str ⟨#[n]⟩ t'))) { s with heap := h', toks := tk }) :
    wpAny (model prog w) A (Builtin.«str.translate» ⟨[.str ⟨#[n]⟩ t, .ref 52], []⟩) Q E s := by
  have hall : (#[n].all fun x => decide (x < 128)) = true := by simp [hn]
  unfold Builtin.«str.translate»
  rw [show Str.strOneArg "translate" { pos := [Value.str { cps := #[n] } t, .ref 52] } = pure (.str ⟨#[n]⟩ t, ⟨#[n]⟩, .ref 52) from rfl]
  simp only [pure_bind, List.forIn_toArray, List.forIn_cons, List.forIn_nil, hall, tr_len, show Str.tooLong 0 = false from rfl, if_true, Bool.false_eq_true, if_false, List.lookup_nil, bind_assoc]
  refine wpAny_bind (tl_missing X hh hf fun h' tk hk => ?_)
  exact fun _ _ _ => h _ _ _ hk
theorem tr_text {n : Nat} {t t₁ : Tok} {Q : PySem.Fin → Shared → Prop} (hn : n < 128) (X : (hd0.heap_1 w.params).In s.heap) (hf : findBy Value.isInt (scOf w.params) n = some (.str ⟨#[92, n]⟩ t₁))
    (h : ∀ t' tk, Q (.done (.ret (.str ⟨#[92, n]⟩ t'))) { s with toks := tk }) :
    wpAny (model prog w) A (Builtin.«str.translate» ⟨[.str ⟨#[n]⟩ t, .ref 52], []⟩) Q E s := by
  have hall : (#[n].all fun x => decide (x < 128)) = true := by simp [hn]
  unfold Builtin.«str.translate»
  rw [show Str.strOneArg "translate" { pos := [Value.str { cps := #[n] } t, .ref 52] } = pure (.str ⟨#[n]⟩ t, ⟨#[n]⟩, .ref 52) from rfl]
  simp only [pure_bind, List.forIn_toArray, List.forIn_cons, List.forIn_nil, hall, tr_len, show Str.tooLong 0 = false from rfl, if_true, Bool.false_eq_true, if_false, List.lookup_nil, bind_assoc]
  refine wpAny_bind (tl_found X hf fun tk => ?_)
  simp only [show ((⟨#[92, n]⟩ : PySem.Str).length == 1) = false from rfl, Bool.false_and, Bool.false_eq_true, if_false]
  refine wpAny_bind (wpAny_bind (wpAny_rule (wpAny_bind (tl_found X hf fun tk => ?_))))
  exact wpAny_pure fun _ _ _ => h _ _
theorem call_tr {n : Nat} {t : Tok} {Q : Value → Shared → Prop} (hn : n ∈ [97, 98, 46, 45, 93, 33]) (X : (hd0.heap_1 w.params).In s.heap) (hh : A.handled = none)
    (h : ∀ t' h' tk, (∀ b o, s.heap.get? b = some o → h'.get? b = some o) → Q (.str (escS n) t') { s with heap := h', toks := tk }) :
    wpAny (model prog w) A (call (.builtin "str.translate") [.str ⟨#[n]⟩ t, .ref 52]) Q E s := by
  refine wpAny_call_entry PySem.F.slot_str_translate (typeIs_str _ _ _) PySem.F.entry_str_translate ?_ (PySem.F.args_str_translate_2 _ _)
  simp only [List.mem_cons, List.not_mem_nil, or_false] at hn
  rcases hn with rfl | rfl | rfl | rfl | rfl | rfl
  · exact tr_keep (by decide) X hh rfl fun t' h' tk hk => ⟨_, rfl, h t' h' tk hk⟩
  · exact tr_keep (by decide) X hh rfl fun t' h' tk hk => ⟨_, rfl, h t' h' tk hk⟩
  · exact tr_text (by decide) X rfl fun t' tk => ⟨_, rfl, h t' s.heap tk fun _ _ e => e⟩
  · exact tr_text (by decide) X rfl fun t' tk => ⟨_, rfl, h t' s.heap tk fun _ _ e => e⟩
  · exact tr_text (by decide) X rfl fun t' tk => ⟨_, rfl, h t' s.heap tk fun _ _ e => e⟩
  · exact tr_keep (by decide) X hh rfl fun t' h' tk hk => ⟨_, rfl, h t' h' tk hk⟩
end
end Mine
end

section
open PySem PySem.W PyProof.Rows
set_option Elab.async false
set_option maxRecDepth 100000
set_option maxHeartbeats 2000000
namespace Mine
theorem es (w : World) (n : Nat) (hn : n ∈ [97, 98, 46, 45, 93, 33]) (t : Tok) (news : List (Addr × Obj)) : theLaw = theLaw → ConA w 62 2 news [.str ⟨#[n]⟩ t] fun _ _ h₀ L m Q _ s =>
    ∀ (t' : Tok) (h' : Heap) (tk' : Nat), Fr h₀ L h' m → News h₀ L h' news → Q (.str (escS n) t') { s with heap := h', toks := tk' } := by
  unfold ConA
  k_fill
  intro _
  intro loose mean mg mb dp un gd cn cs a ccd cl outer A₀ base h₀ L m s Q E B F X N T hk hd' hu hret
  refine wpAny_call ?_
  (refine' code_def ?k1 ?k2 ?k3 ?k4 ?k5 ?kA ?kF ?kK ?k6 ?k7 ?k8 ?k9 ?kB ?_ ?c2 ?c3 ?c4 ?c5; (case kA => exact rfl); (case kF => exact rfl); (case kK => first | assumption | exact rfl); (case k1 => k_asm); (case k2 => k_asm); (case k3 => k_asm); (case k4 => k_asm); (case k5 => k_asm); (case k6 => k_is); (case k7 => k_is); (case k8 => ktr_room); (case k9 => exact BindsTo.of_eq rfl); (case c5 => decide); (case kB => exact locs rfl); (case c2 => exact rfl); (case c3 => exact rfl); (case c4 => exact rfl))
  intro g' L' h' FG' F' N' B' X' T'
  clear F X N T B hk hu
  have F1 : Fr g' L' h' (fun y => List.lookup y [(Str.ofString "pattern", .str ⟨#[n]⟩ t)]) := F'
  clear F' B'
  generalize s.toks + _ = tk0
  refine absA (P := fun Q E s => ∀ t h tk m', Fr g' L' h m' → News g' L' h news → Q (.ret (.str (escS n) t)) { s with heap := h, toks := tk }) (fun t h2 tk2 m2 F2 N2 => leaveK_ F2 N2 fun kF kN => hret t _ _ kF kN) ?_
  clear hret
  intro dp un fr gd Q E s hE hret
  k_steps
  with_reducible refine get_tr ?_
  k_steps
  refine call_tr hn (X'.keeps F1.keep) rfl fun t' h2 tk hk => ?_
  exact hret _ _ _ _ (F1.keeps hk) (N'.grown hk)

end Mine
end

section
open PySem PySem.W PyProof.Rows PySem.Builtin
set_option Elab.async false
set_option maxRecDepth 100000
set_option maxHeartbeats 4000000
namespace Mine
theorem append_look : typeLookup (.type "list") (Str.ofString "append") = pure (some (.builtin "list.append")) := by rw [typeLookup_type, builtinLookup_eq_fast]; kernel_rfl
theorem md_get : typeLookup (.type "method_descriptor") (Str.ofString "__get__") = pure (some (.builtin "method_descriptor.__get__")) := by rw [typeLookup_type, builtinLookup_eq_fast]; kernel_rfl
theorem md_set : typeLookup (.type "method_descriptor") (Str.ofString "__set__") = pure none := by rw [typeLookup_type, builtinLookup_eq_fast]; kernel_rfl
theorem md_del : typeLookup (.type "method_descriptor") (Str.ofString "__delete__") = pure none := by rw [typeLookup_type, builtinLookup_eq_fast]; kernel_rfl
theorem sp_get : specialOf (.builtin "list.append") (Str.ofString "__get__") = pure (some (.builtin "method_descriptor.__get__")) := by
  unfold specialOf; rw [PySem.type_list_append]; simp only [pure_bind]; exact md_get
theorem sp_set : specialOf (.builtin "list.append") (Str.ofString "__set__") = pure none := by
  unfold specialOf; rw [PySem.type_list_append]; simp only [pure_bind]; exact md_set
theorem sp_del : specialOf (.builtin "list.append") (Str.ofString "__delete__") = pure none := by
  unfold specialOf; rw [PySem.type_list_append]; simp only [pure_bind]; exact md_del
theorem md_slot : Slot "method_descriptor" "__get__" "method_descriptor.__get__" :=
  .of (owner := "method_descriptor") (n := "__get__") (by rw [typeLookup_type, builtinLookup_eq_fast]; kernel_rfl) (by decide +kernel) (by decide +kernel) (by decide +kernel)
    (by first | exact .inl (by decide +kernel) | exact .inr (by decide +kernel)) (by rw [isSubtype_type]; kernel_rfl)
theorem md_plain : plainId "method_descriptor.__get__" = true := by decide +kernel
theorem md_entry : entryFor table "method_descriptor.__get__" = some Builtin.«method_descriptor.__get__» := entryFor_of_tree (by kernel_rfl)
theorem md_args (a b c : Value) : argsOk "method_descriptor.__get__" ⟨[a, b, c], []⟩ := by unfold argsOk; kernel_rfl
theorem md_typeIs {s : Shared} : s.TypeIs (.builtin "list.append") "method_descriptor" := PySem.type_list_append
theorem md_sub : isSubtype (.type "list") (.type (".".intercalate ("list.append".cutAt '.').dropLast)) = pure true := by rw [isSubtype_type]; kernel_rfl
/-- a bound built-in method -/
def boundObj (id : String) (a : Addr) : Obj := { cls := .type "builtin_function_or_method", data := .fields #[.builtin id, .ref a] }
section
variable {prog : Program} {w : World} {A : Around} {E : Value → Shared → Prop} {s : Shared}
theorem find_append {a : Addr} {xs : Array Value} {k : Nat} {Q : ObjectAttr.Found → Shared → Prop} (hx : s.heap.get? a = some (listOf xs k)) (h : Q (.bind (.builtin "method_descriptor.__get__") (.builtin "list.append")) s) :
    wpAny (model prog w) A (ObjectAttr.find (.ref a) (.type "list") (Str.ofString "append")) Q E s := by
  have hT : s.TypeIs (.ref a) "list" := ⟨_, hx, rfl⟩
  unfold ObjectAttr.find
  refine wpAny_bind (wpAny_of_eq append_look ?_)
  refine wpAny_bind (wpAny_of_eq sp_get ?_)
  refine wpAny_bind (wpAny_of_eq (a := none) ?_ ?_)
  · show ObjectAttr.dataDescriptor? (some (.builtin "list.append")) (some (.builtin "method_descriptor.__get__")) = pure none
    unfold ObjectAttr.dataDescriptor? ObjectAttr.takesStores
    dsimp only
    rw [sp_set, sp_del]
    rfl
  show wpAny _ _ (ObjectAttr.ownThenClass _ _ _ _) _ _ _
  unfold ObjectAttr.ownThenClass ObjectAttr.inOwnDict ObjectAttr.ownDict
  repeat (any_goals (first | assumption | wp_step))
theorem meets_ga_append (a : Addr) (xs : Array Value) (k : Nat) (u : Tok) :
    Meets (Builtin.«object.__getattribute__» ⟨[.ref a, .str (Str.ofString "append") u], []⟩) (fun A R s => s.heap.get? a = some (listOf xs k) ∧ R (.ok (.ret (.ref s.heap.objs.size))) { s with heap := s.heap.push (boundObj "list.append" a) }) :=
  Meets.of_wp fun prog w A R s hs => by
    obtain ⟨hp, g, d, tk, os⟩ := s
    obtain ⟨hx, hs⟩ := hs
    have hT : (⟨hp, g, d, tk, os⟩ : Shared).TypeIs (.ref a) "list" := ⟨_, hx, rfl⟩
    unfold Builtin.«object.__getattribute__»
    repeat (any_goals (first | assumption | ((with_reducible show wpAny _ _ (ObjectAttr.find _ _ _) _ _ _); refine find_append hx ?_) | wp_step))
    refine codeAny_call_builtin md_plain md_entry (md_slot.check _ _ _ _ _ _ _ _ md_typeIs (md_args _ _ _) ?_)
    unfold Builtin.«method_descriptor.__get__»
    repeat (any_goals (first | assumption | wp_step))
    refine wpAny_of_eq md_sub ?_
    refine wpAny_pure ?_
    refine wpAny_bind ?_
    exact wpAny_newObj_type (wpAny_pure (wpAny_pure ⟨_, rfl, hs⟩))
theorem get_append {a : Addr} {xs : Array Value} {k : Nat} {Q : Value → Shared → Prop} (hx : s.heap.get? a = some (listOf xs k)) (h : ∀ tk, Q (.ref s.heap.objs.size) { s with heap := s.heap.push (boundObj "list.append" a), toks := tk }) :
    wpAny (model prog w) A (getAttr (.ref a) (Str.ofString "append") true) Q E s := by
  obtain ⟨hp, g, d, tk, os⟩ := s
  have hT : ∀ tk', (⟨hp, g, d, tk', os⟩ : Shared).TypeIs (.ref a) "list" := fun _ => ⟨_, hx, rfl⟩
  have f3 := F.slot_list_getattribute.lookup
  have f4 := F.slot_list_getattribute.bind (.ref a)
  unfold getAttr getAttrBy
  repeat (any_goals (first | assumption | exact hT _ | ((with_reducible show wpAny _ _ (call (Value.builtin "list.__getattribute__") _ _) _ _ _); refine call_meets F.slot_list_getattribute (hT _) am_entry_list_getattribute (F.args_list_getattribute_2 _ _) (meets_ga_append a xs k _) ⟨hx, ?_⟩) | wp_step))
  show wpAny _ _ (handedOut (.ref _)) _ _ _
  exact wpAny_pure (h _)
theorem ap_plain : plainId "list.append" = true := by decide +kernel
noncomputable def apSig : Manifest.Signature := match Manifest.signature? "list.append" with | some x => x | none => ⟨.keywords, "", "", .none, []⟩
theorem apSig_is : Manifest.signature? "list.append" = some apSig := by unfold apSig; kernel_rfl
theorem apKind : builtinKind "list.append" = some .method := by decide +kernel
theorem apVar : Manifest.varargsMethods.contains "list.append" = false := by decide +kernel
theorem apArgs (a b : Value) : Bind.checkArgs "list.append" { apSig with full := s!"{Bind.lastOf "list"}.{Bind.lastOf "list.append"}" } ⟨[a, b], []⟩ = pure () := by kernel_rfl
theorem ap_sub : isSubtype (.type "list") (.type "module") = pure false := by rw [isSubtype_type]; kernel_rfl
theorem bound_check {l : Addr} {xs : Array Value} {k : Nat} {v : Value} {Q : Unit → Shared → Prop} (hl : s.heap.get? l = some (listOf xs k)) (h : Q () s) : wpAny (model prog w) A (checkBoundCall "list.append" ⟨[.ref l, v], []⟩) Q E s := by
  have hT : s.TypeIs (.ref l) "list" := ⟨_, hl, rfl⟩
  unfold checkBoundCall
  rw [apSig_is, apKind]
  dsimp only
  refine bm_if_false (by decide) ?_
  refine wpAny_bind ?_
  with_reducible refine wpAny_isInstance hT ap_sub ?_
  rw [apVar]
  refine bm_if_false rfl ?_
  refine wpAny_bind ?_
  unfold isType
  dsimp only
  repeat (first | assumption | ((with_reducible show wpAny _ _ (Bind.checkArgs _ _ _) _ _ _); exact wpAny_of_eq (apArgs _ _) h) | wp_step)
theorem call_boundAppend {q l : Addr} {xs : Array Value} {k : Nat} {v : Value} {Q : Value → Shared → Prop} (hq : s.heap.get? q = some (boundObj "list.append" l)) (hl : s.heap.get? l = some (listOf xs k)) (hsz : xs.size ≤ sizeLine)
    (h : ∀ h', Heap.SameBut l s.heap h' → h'.get? l = some (listOf (xs.push v) (k + 1)) → Q .none { s with heap := h' }) : wpAny (model prog w) A (call (.ref q) [v]) Q E s := by
  have hT : s.TypeIs (.ref l) "list" := ⟨_, hl, rfl⟩
  refine wpAny_call (codeAny_of_tree ?_)
  show wpAny _ _ (callAny (.ref q) _) _ _ _
  show wpAny _ _ (load q >>= _) _ _ _
  refine wpAny_bind (wpAny_load hq ?_)
  show wpAny _ _ (checkBoundCall "list.append" ⟨[.ref l, v], []⟩ >>= fun _ => again (.builtin "list.append" ⟨[.ref l, v], []⟩) >>= _) _ _ _
  refine wpAny_bind (bound_check hl (wpAny_bind (wpAny_pure (wpAny_pure ⟨plainId_quiet ap_plain _, codeAny_builtin entry_list_append ?_⟩))))
  show wpAny _ _ (updateSeq l (·.push v) >>= fun _ => ret .none) _ _ s
  refine wpAny_bind (wpAny_updateSeq hl rfl (wpAny_pure (h _ (Heap.SameBut.update ..) ?_)))
  rw [Heap.get?_update_self _ hl (by rw [mapSeq_push]; rfl), mapSeq_push]
end
end Mine
end

section
open PySem PySem.W PySem.Calls PyProof.Rows
set_option Elab.async false
set_option maxRecDepth 100000
set_option maxHeartbeats 2000000
namespace Mine
section
variable {prog : Program} {w : World} {A : Around} {E : Value → Shared → Prop} {s : Shared} {env : Env} {h₀ : Heap} {L : Addr} {m : Str → Option Value} {news : List (Addr × Obj)}
theorem callWith_bound {q l : Addr} {e : Expr} {pos : Pos} {Q : Value → Shared → Prop}
    (h : wpAny (model prog w) A (eval e env) (fun v s₁ => s₁.heap.get? q = some (boundObj "list.append" l) ∧ wpAny (model prog w) A (call (.ref q) [v]) Q E s₁) E s)
    (he : starEach [e] env = [(false, eval e env)] := by rfl) : wpAny (model prog w) A (callWith pos (.ref q) [] (backTo pos (starEach [e] env)) []) Q E s := by
  rw [he]
  refine callWith_of (P := fun h => h.get? q = some (boundObj "list.append" l)) rfl (fun h X => ⟨.machine, .inr (.inl rfl), (Looks.ld (part := none) X).andThen .now⟩) (evalArgs_plain ?_)
  exact spliced_cons (wpAny_mono h (fun v s₁ h₁ => spliced_nil h₁) fun _ _ x => x)
theorem get_appendK {l : Addr} {xs : Array Value} {k : Nat} {Q : Value → Shared → Prop} (F : Fr h₀ L s.heap m) (N : News h₀ L s.heap news) (hm : (l, listOf xs k) ∈ news)
    (h : ∀ q h' tk, (∀ p ∈ news, p.1 ≠ q) → Fr h₀ L h' m → News h₀ L h' ((q, boundObj "list.append" l) :: news) → Q (.ref q) { s with heap := h', toks := tk }) :
    wpAny (model prog w) A (getAttr (.ref l) (Str.ofString "append") true) Q E s :=
  get_append (N _ hm).1 fun tk => h _ _ _ (fun p hp => Nat.ne_of_lt (Heap.lt_size (N p hp).1)) (F.push _) (fun p hp => by
    rcases List.mem_cons.mp hp with rfl | hp
    · exact ⟨Heap.get?_push_size _ rfl, Nat.ne_of_gt F.ns.lt, next_is_new F⟩
    · exact ⟨Heap.get?_push_of_some _ (N p hp).1, (N p hp).2⟩)
theorem call_addK {q l : Addr} {xs : Array Value} {k : Nat} {v : Value} {Q : Value → Shared → Prop} {rest : List (Addr × Obj)} (F : Fr h₀ L s.heap m) (N : News h₀ L s.heap ((q, boundObj "list.append" l) :: (l, listOf xs k) :: rest)) (hql : q ≠ l) (hr : ∀ p ∈ rest, p.1 ≠ l) (hsz : xs.size ≤ sizeLine)
    (h : ∀ h', Fr h₀ L h' m → News h₀ L h' ((q, boundObj "list.append" l) :: (l, listOf (xs.push v) (k + 1)) :: rest) → Q .none { s with heap := h' }) :
    wpAny (model prog w) A (call (.ref q) [v]) Q E s := by
  have z := N _ (.tail _ (.head _))
  refine call_boundAppend (N _ (.head _)).1 z.1 hsz fun h' hs ho => h h' (F.change hs z.2.1 z.2.2) ?_
  intro p hp
  rcases List.mem_cons.mp hp with rfl | hp
  · exact ⟨hs.extBut _ _ hql (N _ (.head _)).1, (N _ (.head _)).2⟩
  · rcases List.mem_cons.mp hp with rfl | hp
    · exact ⟨ho, z.2⟩
    · exact ⟨hs.extBut _ _ (hr p hp) (N p (.tail _ (.tail _ hp))).1, (N p (.tail _ (.tail _ hp))).2⟩
end
end Mine
end

section
open PySem PySem.W PyProof.Rows
set_option Elab.async false
set_option maxRecDepth 100000
set_option maxHeartbeats 2000000
namespace Mine
/-- the pieces that _translate makes of signs without a closed bracket -/
def trStep (qm : PySem.Str) (c : Nat) (out : List (Option PySem.Str)) : List (Option PySem.Str) :=
  if c = 42 then (if out.getLast? = some none then out else out ++ [none]) else if c = 63 then out ++ [some qm] else if c = 91 then out ++ [some ⟨#[92, 91]⟩] else out ++ [some (escS c)]
def trL (qm : PySem.Str) : List Nat → List (Option PySem.Str) → List (Option PySem.Str)
  | [], out => out
  | c :: r, out => trL qm r (trStep qm c out)
theorem trStep_len (qm : PySem.Str) (c : Nat) (out : List (Option PySem.Str)) : (trStep qm c out).length ≤ out.length + 1 := by
  unfold trStep
  split
  · split
    · exact Nat.le_succ _
    · simp
  · split
    · simp
    · split <;> simp
inductive Pcs : List Value → List (Option PySem.Str) → Prop
  | nil : Pcs [] []
  | star {vs ps} (h : Pcs vs ps) : Pcs (vs ++ [.none]) (ps ++ [none])
  | text {vs ps} (x : PySem.Str) (t : Tok) (h : Pcs vs ps) : Pcs (vs ++ [.str x t]) (ps ++ [some x])
theorem Pcs.len {vs ps} (h : Pcs vs ps) : vs.length = ps.length := by
  induction h with
  | nil => rfl
  | star _ ih => simp [ih]
  | text _ _ _ ih => simp [ih]
def tr7 (i n : Int) (ti tn : Tok) (q l : Addr) (qm x : PySem.Str) (tq t : Tok) (sv : Value) (m : Str → Option Value) : Prop :=
  m (Str.ofString "i") = some (.int i ti) ∧ m (Str.ofString "n") = some (.int n tn) ∧ m (Str.ofString "add") = some (.ref q) ∧ m (Str.ofString "res") = some (.ref l) ∧ m (Str.ofString "QUESTION_MARK") = some (.str qm tq) ∧ m (Str.ofString "STAR") = some sv ∧ m (Str.ofString "pat") = some (.str x t)
abbrev mTR (i n : Int) (ti tn : Tok) (q l : Addr) (qm x : PySem.Str) (tq t : Tok) (sv : Value) (m : Str → Option Value) : Str → Option Value := fun z => if z = Str.ofString "i" then some (.int i ti) else if z = Str.ofString "n" then some (.int n tn) else if z = Str.ofString "add" then some (.ref q) else if z = Str.ofString "res" then some (.ref l) else if z = Str.ofString "QUESTION_MARK" then some (.str qm tq) else if z = Str.ofString "STAR" then some sv else if z = Str.ofString "pat" then some (.str x t) else m z
theorem tr7_map {i n : Int} {ti tn : Tok} {q l : Addr} {qm x : PySem.Str} {tq t : Tok} {sv : Value} {m : Str → Option Value} (h : tr7 i n ti tn q l qm x tq t sv m) : m = mTR i n ti tn q l qm x tq t sv m := by
  obtain ⟨h1, h2, h3, h4, h5, h6, h7⟩ := h
  funext z
  show _ = ite _ _ _
  split
  · rename_i e; rw [e, h1]
  · split
    · rename_i e; rw [e, h2]
    · split
      · rename_i e; rw [e, h3]
      · split
        · rename_i e; rw [e, h4]
        · split
          · rename_i e; rw [e, h5]
          · split
            · rename_i e; rw [e, h6]
            · split
              · rename_i e; rw [e, h7]
              · rfl

theorem item_of {x : PySem.Str} {i c : Nat} (h : x.cps[i]? = some c) : Txt.item x (i : Int) = ⟨#[c]⟩ := by
  have hi : i < x.cps.size := by
    rcases Nat.lt_or_ge i x.cps.size with h1 | h1
    · exact h1
    · rw [Array.getElem?_eq_none h1] at h; cases h
  have e : Txt.charAt x (i : Int) = some c := by
    unfold Txt.charAt seqIndex?
    have h1 : ¬ ((i : Int) < 0) := by omega
    have h2 : (i : Int) < (x.length : Nat) := Int.ofNat_lt.mpr hi
    simp [h1, h2, h]
  unfold Txt.item
  rw [e]; rfl

theorem item_last {prog : Program} {w : World} {A : Around} {E : Value → Shared → Prop} {s : Shared} {value slice : Expr} {l : Addr} {vs : List Value} {v : Value} {u : Tok} {Q : Value → Shared → Prop} (hl : s.heap.IsList l (vs ++ [v]).toArray) (h : Q v s)
    (hs : subscripted slice false (.ref l) (.int (-1) u) = operate [.ref l, .int (-1) u] (getItem (.ref l) (.int (-1) u)) := by with_unfolding_all rfl) (hg : ∀ r, letTemporaryGo value (.ref l) r = pure () := by intro _; with_unfolding_all rfl) :
    wpAny (model prog w) A (subscriptTail value slice (.ref l) (.int (-1) u)) Q E s := by
  have hz : ((-1 : Int) + ((vs ++ [v]).toArray.size : Nat)).toNat = vs.length := by simp; omega
  have h1 : -(((vs ++ [v]).toArray.size : Nat) : Int) ≤ -1 := by simp; omega
  exact subscriptTail_builtin hl.typeIs slot_list_getitem.lookup (wpAny_getItem_list_neg hl (by decide) h1 (by decide) (x := v) (by rw [hz]; simp) h) hs hg

end Mine
end

section
open PySem PySem.W PyProof.Rows
set_option Elab.async false
set_option maxRecDepth 100000
set_option maxHeartbeats 2000000
namespace Mine
theorem sign6 {c : Nat} (h : c ∈ [97, 98, 46, 45, 93, 33, 42, 63, 91]) (h42 : ¬c = 42) (h63 : ¬c = 63) (h91 : ¬c = 91) : c ∈ [97, 98, 46, 45, 93, 33] := by
  rcases List.mem_append.mp (show c ∈ [97, 98, 46, 45, 93, 33] ++ [42, 63, 91] from h) with h | h
  · exact h
  rcases List.mem_cons.mp h with e | h
  · exact absurd e h42
  rcases List.mem_cons.mp h with e | h
  · exact absurd e h63
  exact absurd (List.mem_singleton.mp h) h91
theorem tr (w : World) (x : PySem.Str) (hx : x.cps.size ≤ 100) (hc : ∀ c ∈ x.cps.toList, c ∈ [97, 98, 46, 45, 93, 33, 42, 63, 91]) (hb : ∀ i, x.cps[i]? = some 91 → i + 1 = x.cps.size) (t tq : Tok) (sv : Value) (hs : sv = .none ∨ ∀ c ∈ x.cps.toList, c ≠ 42) (qm : PySem.Str) (news : List (Addr × Obj)) : theLaw = theLaw → ConA w 69 4 news [.str x t, sv, .str qm tq] fun _ _ h₀ L m Q _ s =>
    ∀ (vs : List Value) (k : Nat) (l : Addr) (h' : Heap) (tk' : Nat), Pcs vs (trL qm x.cps.toList []) → Fr h₀ L h' m → News h₀ L h' ((l, listOf vs.toArray k) :: news) → Q (.ref l) { s with heap := h', toks := tk' } := by
  unfold ConA
  k_fill
  intro _
  intro loose mean mg mb dp un gd cn cs a ccd cl outer A₀ base h₀ L m s Q E B F X N T hk hd' hu hret
  refine wpAny_call ?_
  (refine' code_def ?k1 ?k2 ?k3 ?k4 ?k5 ?kA ?kF ?kK ?k6 ?k7 ?k8 ?k9 ?kB ?_ ?c2 ?c3 ?c4 ?c5; (case kA => exact rfl); (case kF => exact rfl); (case kK => first | assumption | exact rfl); (case k1 => k_asm); (case k2 => k_asm); (case k3 => k_asm); (case k4 => k_asm); (case k5 => k_asm); (case k6 => k_is); (case k7 => k_is); (case k8 => ktr_room); (case k9 => exact BindsTo.of_eq rfl); (case c5 => decide); (case kB => exact locs rfl); (case c2 => exact rfl); (case c3 => exact rfl); (case c4 => exact rfl))
  intro g' L' h' FG' F' N' B' X' T'
  clear F X N T B hk
  have F1 : Fr g' L' h' (fun y => List.lookup y [(Str.ofString "QUESTION_MARK", .str qm tq), (Str.ofString "STAR", sv), (Str.ofString "pat", .str x t)]) := F'
  clear F'
  simp only [lookup_if, List.lookup_nil] at F1
  generalize s.toks + _ = tk0
  refine absC (P := fun A Q E s => (∀ vs k l h tk m', Pcs vs (trL qm x.cps.toList []) → Fr g' L' h m' → News g' L' h ((l, listOf vs.toArray k) :: news) → Q (.ret (.ref l)) { s with heap := h, toks := tk }) ∧
    ∀ n t h tk m' nw (Q' : Value → Shared → Prop), n ∈ [97, 98, 46, 45, 93, 33] → Fr g' L' h m' → News g' L' h nw → (∀ t' h' tk', Fr g' L' h' m' → News g' L' h' nw → Q' (.str (escS n) t') { s with heap := h', toks := tk' }) → wpAny (model PySem.Challenge.rw_rx0034_01.row.prog w) A (call (.ref 62) [.str ⟨#[n]⟩ t]) Q' E { s with heap := h, toks := tk }) ⟨fun vs k l h2 tk2 m2 hv F2 N2 => leaveK_ F2 N2 fun kF kN => hret vs k l _ _ hv kF kN, ?_⟩ ?_
  · intro n t h2 tk2 m2 nw Q' hn F2 N2 hQ
    clear hret
    refine' es w n hn t nw rfl _ _ _ _ _ _ _ _ _ _ _ _ _ _ _ _ _ _ _ _ _ ?k1 ?k2 ?k3 ?k4 ?k5 ?_ ?_ ?_ ?_
    case k1 => exact B'
    case k2 => exact F2
    case k3 => exact X'
    case k4 => exact N2
    case k5 => exact T'
    · exact rfl
    · ktr_room
    · ktr_units
    · exact hQ
  clear hret B'
  intro dp un fr gd Q E s hE hP
  obtain ⟨hret, hesc⟩ := hP
  refine wpAny_execs_cons (wpAny_cut (fun f s' => f = .next ∧ ∃ h tk l m', s' = { s with heap := h, toks := tk } ∧ (∀ p ∈ news, p.1 ≠ l) ∧ m' = (fun y => if y = Str.ofString "res" then some (Value.ref l) else if y = Str.ofString "QUESTION_MARK" then some (Value.str qm tq) else if y = Str.ofString "STAR" then some sv else if y = Str.ofString "pat" then some (Value.str x t) else none) ∧ Fr g' L' h m' ∧ News g' L' h ((l, listOf #[] 0) :: news)) ?_ ?_)
  · clear hret hesc
    k_fold
    k_steps
    rename_i lt _ _ _
    exact ⟨rfl, _, _, _, _, rfl, fun p hp => Nat.ne_of_lt (lt p hp), rfl, by assumption, by assumption⟩
  rintro _ _ ⟨rfl, h1, tk1, l, m1, rfl, hl, rfl, F2, N2⟩
  clear F1 N'
  show wpAny _ _ (execs _ _) _ _ _
  refine wpAny_execs_cons (wpAny_cut (fun f s' => f = .next ∧ ∃ h tk q m', s' = { s with heap := h, toks := tk } ∧ q ≠ l ∧ m' = (fun y => if y = Str.ofString "add" then some (Value.ref q) else if y = Str.ofString "res" then some (Value.ref l) else if y = Str.ofString "QUESTION_MARK" then some (Value.str qm tq) else if y = Str.ofString "STAR" then some sv else if y = Str.ofString "pat" then some (Value.str x t) else none) ∧ Fr g' L' h m' ∧ News g' L' h ((q, boundObj "list.append" l) :: (l, listOf #[] 0) :: news)) ?_ ?_)
  · clear hret hesc
    k_fold
    k_steps
    refine get_appendK F2 N2 (.head _) fun q h3 tk3 hq F3 N3 => ?_
    have hql : q ≠ l := (hq _ (.head _)).symm
    k_steps
    exact ⟨rfl, _, _, _, _, rfl, hql, rfl, by assumption, by assumption⟩
  rintro _ _ ⟨rfl, h2, tk2, q, m2, rfl, hql, rfl, F3, N3⟩
  clear F2 N2
  show wpAny _ _ (execs _ _) _ _ _
  refine wpAny_execs_cons (wpAny_cut (fun f s' => f = .next ∧ ∃ h tk ti tn m', s' = { s with heap := h, toks := tk } ∧ tr7 0 x.length ti tn q l qm x tq t sv m' ∧ Fr g' L' h m' ∧ News g' L' h ((q, boundObj "list.append" l) :: (l, listOf #[] 0) :: news)) ?_ ?_)
  · clear hret hesc
    k_fold
    repeat' (first | (k_unfold; (try dsimp only)) | ((fail_if_success (with_reducible show wpAny _ _ (call (Value.builtin _) [Value.str _ _]) _ _ _)); walk1) | ((fail_if_success (with_reducible show wpAny _ _ (call (Value.builtin _) [Value.str _ _]) _ _ _)); dsimp only; walk1))
    have hfit : ¬ ((x.length : Nat) : Int) ≥ 2 ^ 63 := by show ¬ ((x.cps.size : Nat) : Int) ≥ 2 ^ 63; omega
    refine P.len_str hfit ?_
    k_steps
    rename_i Fz Nz
    exact ⟨rfl, _, _, _, _, _, rfl, ⟨rfl, rfl, rfl, rfl, rfl, rfl, rfl⟩, Fz, fun p hp => Nz p (.tail _ hp)⟩
  rintro _ _ ⟨rfl, h3, tk3, ti0, tn0, m3, rfl, ht0, F4, N4⟩
  clear F3 N3
  show wpAny _ _ (execs _ _) _ _ _
  refine wpAny_execs_cons (While_inv (fun n m nw => ∃ (i : Nat) (vs : List Value) (k : Nat) (ti tn : Tok) (out : List (Option PySem.Str)), n + i = x.cps.size ∧ tr7 i x.length ti tn q l qm x tq t sv m ∧ nw = (q, boundObj "list.append" l) :: (l, listOf vs.toArray k) :: news ∧ Pcs vs out ∧ out.length ≤ i ∧ trL qm (x.cps.toList.drop i) out = trL qm x.cps.toList []) (n₀ := x.cps.size) F4 N4 ⟨0, [], 0, ti0, tn0, [], rfl, ht0, rfl, .nil, Nat.le_refl _, rfl⟩ ?_ hE)
  clear F4 N4 ht0
  rintro n m1 nw h4 tk4 F5 N5 ⟨i, vs, k, ti, tn, out, hi, ht, rfl, hv, hol, hR⟩
  rw [tr7_map ht] at F5
  refine wpAny_cut (fun b s' => b = decide ((i : Int) < (x.length : Nat)) ∧ ∃ tk, s' = { s with heap := h4, toks := tk }) ?_ ?_
  · clear hret hesc
    k_fold
    k_steps
    exact ⟨rfl, _, rfl⟩
  rintro _ _ ⟨rfl, tk5, rfl⟩
  by_cases hlt : i < x.length
  · rw [if_pos (decide_eq_true (Int.ofNat_lt.mpr hlt))]
    k_fold
    clear hret
    have hlt' : i < x.cps.size := hlt
    obtain ⟨c, hci⟩ : ∃ c, x.cps[i]? = some c := ⟨_, Array.getElem?_eq_getElem hlt'⟩
    refine wpAny_execs_cons (wpAny_cut (fun f s' => f = .next ∧ ∃ h tk u, s' = { s with heap := h, toks := tk } ∧ Fr g' L' h (fun z => if z = Str.ofString "c" then some (.str ⟨#[c]⟩ u) else mTR i x.length ti tn q l qm x tq t sv m1 z) ∧ News g' L' h ((q, boundObj "list.append" l) :: (l, listOf vs.toArray k) :: news)) ?_ ?_)
    · clear hesc
      rw [← item_of hci]
      k_fold
      k_steps
      exact ⟨rfl, _, _, _, rfl, by assumption, by assumption⟩
    rintro _ _ ⟨rfl, h5, tk6, u, rfl, F6, N6⟩
    clear F5 N5
    show wpAny _ _ (execs _ _) _ _ _
    refine wpAny_execs_cons (wpAny_cut (fun f s' => f = .next ∧ ∃ h tk m2 ti', s' = { s with heap := h, toks := tk } ∧ m2 (Str.ofString "c") = some (.str ⟨#[c]⟩ u) ∧ tr7 ((i : Int) + 1) x.length ti' tn q l qm x tq t sv m2 ∧ Fr g' L' h m2 ∧ News g' L' h ((q, boundObj "list.append" l) :: (l, listOf vs.toArray k) :: news)) ?_ ?_)
    · clear hesc
      k_fold
      k_steps
      rename_i Fz _
      exact ⟨rfl, _, _, _, _, rfl, rfl, ⟨rfl, rfl, rfl, rfl, rfl, rfl, rfl⟩, Fz, by assumption⟩
    rintro _ _ ⟨rfl, h6, tk7, m2, ti2, rfl, hmc, ht2, F7, N7⟩
    clear F6 N6 ht
    show wpAny _ _ (execs _ _) _ _ _
    have hR2 : trL qm (x.cps.toList.drop (i + 1)) (trStep qm c out) = trL qm x.cps.toList [] := by
      have hl9 : i < x.cps.toList.length := by simpa using hlt'
      have hc9 : x.cps.toList[i] = c := by simpa [Array.getElem?_eq_getElem hlt'] using hci
      rw [← hR, List.drop_eq_getElem_cons hl9, hc9]
      rfl
    refine wpAny_execs_cons (wpAny_cut (fun f s' => f = .next ∧ ∃ h tk m3 vs3, s' = { s with heap := h, toks := tk } ∧ tr7 ((i : Int) + 1) x.length ti2 tn q l qm x tq t sv m3 ∧ Pcs vs3 (trStep qm c out) ∧ ∃ k3, Fr g' L' h m3 ∧ News g' L' h ((q, boundObj "list.append" l) :: (l, listOf vs3.toArray k3) :: news)) ?_ ?_)
    · refine hideQ fun Qh hQh => ?_
      have hrl : ∀ p ∈ news, p.1 ≠ l := hl
      have hsz : vs.toArray.size ≤ sizeLine := by
        rw [List.size_toArray, hv.len]
        exact Nat.le_trans (Nat.le_trans hol (Nat.le_trans (Nat.le_of_lt hlt') hx)) (by rw [sizeLine_eq]; decide)
      rw [tr7_map ht2, m_one hmc] at F7
      refine wpAny_If (wpAny_cut (fun b s' => b = decide (c = 42) ∧ ∃ tk, s' = { s with heap := h6, toks := tk }) ?_ ?_)
      · clear hesc
        (try k_fold)
        k_steps
        exact ⟨PyProof.Rows.one_beq (c := 42), _, rfl⟩
      rintro _ _ ⟨rfl, tk8, rfl⟩
      by_cases h42 : c = 42
      · rcases hs with rfl | hs
        case inr => exact absurd h42 (hs c (by simpa using Array.mem_of_getElem? hci))
        rw [if_pos (decide_eq_true h42)]
        clear hesc
        have hst : trStep qm c out = (if out.getLast? = some none then out else out ++ [none]) := by unfold trStep; rw [if_pos h42]
        rw [hst] at hQh
        cases hv with
        | nil =>
          rw [if_neg (by simp)] at hQh
          show wpAny _ _ (execs _ _) _ _ _
          (try k_fold)
          repeat' (first | (k_unfold; (try dsimp only)) | ((fail_if_success (with_reducible show wpAny _ _ (callWith _ (Value.ref _) _ _ _) _ _ _)); walk1) | ((fail_if_success (with_reducible show wpAny _ _ (callWith _ (Value.ref _) _ _ _) _ _ _)); dsimp only; walk1))
          refine callWith_bound (l := l) (wpAny_cut (fun v s' => v = .none ∧ ∃ tk, s' = { s with heap := h6, toks := tk }) ?_ ?_)
          · k_steps
            exact ⟨rfl, _, rfl⟩
          rintro _ _ ⟨rfl, tk10, rfl⟩
          refine ⟨(N7 _ (.head _)).1, call_addK F7 N7 hql hrl hsz fun h8 F8 N8 => ?_⟩
          rw [List.push_toArray] at N8
          k_steps
          exact hQh _ _ ⟨rfl, _, _, _, _, rfl, ⟨rfl, rfl, rfl, rfl, rfl, rfl, rfl⟩, .star .nil, _, F8, N8⟩
        | @star vs' ps' hv' =>
          rw [if_pos (by simp)] at hQh
          show wpAny _ _ (execs _ _) _ _ _
          (try k_fold)
          repeat' (first | (k_unfold; (try dsimp only)) | ((fail_if_success (with_reducible show wpAny _ _ (truthy (Value.ref _)) _ _ _)); walk1) | ((fail_if_success (with_reducible show wpAny _ _ (truthy (Value.ref _)) _ _ _)); dsimp only; walk1))
          refine wpAny_truthy_list (News.isList N7 (.tail _ (.head _))) (Int.lt_of_le_of_lt (Int.ofNat_le.mpr hsz) (by rw [sizeLine_eq]; decide)) ?_
          rw [show (!(vs' ++ [Value.none]).toArray.isEmpty) = true by simp]
          repeat' (first | (k_unfold; (try dsimp only)) | ((fail_if_success (with_reducible show wpAny _ _ (subscriptTail _ _ (Value.ref _) _) _ _ _)); walk1) | ((fail_if_success (with_reducible show wpAny _ _ (subscriptTail _ _ (Value.ref _) _) _ _ _)); dsimp only; walk1))
          refine item_last (News.isList N7 (.tail _ (.head _))) ?_
          k_steps
          exact hQh _ _ ⟨rfl, _, _, _, _, rfl, ⟨rfl, rfl, rfl, rfl, rfl, rfl, rfl⟩, .star hv', _, F7, N7⟩
        | @text vs' ps' y ty hv' =>
          rw [if_neg (by simp)] at hQh
          show wpAny _ _ (execs _ _) _ _ _
          (try k_fold)
          repeat' (first | (k_unfold; (try dsimp only)) | ((fail_if_success (with_reducible show wpAny _ _ (truthy (Value.ref _)) _ _ _)); walk1) | ((fail_if_success (with_reducible show wpAny _ _ (truthy (Value.ref _)) _ _ _)); dsimp only; walk1))
          refine wpAny_truthy_list (News.isList N7 (.tail _ (.head _))) (Int.lt_of_le_of_lt (Int.ofNat_le.mpr hsz) (by rw [sizeLine_eq]; decide)) ?_
          rw [show (!(vs' ++ [Value.str y ty]).toArray.isEmpty) = true by simp]
          repeat' (first | (k_unfold; (try dsimp only)) | ((fail_if_success (with_reducible show wpAny _ _ (subscriptTail _ _ (Value.ref _) _) _ _ _)); walk1) | ((fail_if_success (with_reducible show wpAny _ _ (subscriptTail _ _ (Value.ref _) _) _ _ _)); dsimp only; walk1))
          refine item_last (News.isList N7 (.tail _ (.head _))) ?_
          repeat' (first | (k_unfold; (try dsimp only)) | ((fail_if_success (with_reducible show wpAny _ _ (callWith _ (Value.ref _) _ _ _) _ _ _)); walk1) | ((fail_if_success (with_reducible show wpAny _ _ (callWith _ (Value.ref _) _ _ _) _ _ _)); dsimp only; walk1))
          refine callWith_bound (l := l) (wpAny_cut (fun v s' => v = .none ∧ ∃ tk, s' = { s with heap := h6, toks := tk }) ?_ ?_)
          · k_steps
            exact ⟨rfl, _, rfl⟩
          rintro _ _ ⟨rfl, tk10, rfl⟩
          refine ⟨(N7 _ (.head _)).1, call_addK F7 N7 hql hrl hsz fun h8 F8 N8 => ?_⟩
          rw [List.push_toArray] at N8
          k_steps
          exact hQh _ _ ⟨rfl, _, _, _, _, rfl, ⟨rfl, rfl, rfl, rfl, rfl, rfl, rfl⟩, .star (.text y ty hv'), _, F8, N8⟩
      rw [if_neg (by simpa using h42)]
      refine wpAny_execs_cons (wpAny_If (wpAny_cut (fun b s' => b = decide (c = 63) ∧ ∃ tk, s' = { s with heap := h6, toks := tk }) ?_ ?_))
      · clear hesc
        (try k_fold)
        k_steps
        exact ⟨PyProof.Rows.one_beq (c := 63), _, rfl⟩
      rintro _ _ ⟨rfl, tk9, rfl⟩
      by_cases h63 : c = 63
      · rw [if_pos (decide_eq_true h63)]
        have hst : trStep qm c out = out ++ [some qm] := by unfold trStep; rw [if_neg h42, if_pos h63]
        rw [hst] at hQh
        clear hesc
        show wpAny _ _ (execs _ _) _ _ _
        (try k_fold)
        repeat' (first | (k_unfold; (try dsimp only)) | ((fail_if_success (with_reducible show wpAny _ _ (callWith _ (Value.ref _) _ _ _) _ _ _)); walk1) | ((fail_if_success (with_reducible show wpAny _ _ (callWith _ (Value.ref _) _ _ _) _ _ _)); dsimp only; walk1))
        refine callWith_bound (l := l) (wpAny_cut (fun v s' => v = .str qm tq ∧ ∃ tk, s' = { s with heap := h6, toks := tk }) ?_ ?_)
        · k_steps
          exact ⟨rfl, _, rfl⟩
        rintro _ _ ⟨rfl, tk10, rfl⟩
        refine ⟨(N7 _ (.head _)).1, call_addK F7 N7 hql hrl hsz fun h8 F8 N8 => ?_⟩
        rw [List.push_toArray] at N8
        k_steps
        exact hQh _ _ ⟨rfl, _, _, _, _, rfl, ⟨rfl, rfl, rfl, rfl, rfl, rfl, rfl⟩, .text _ _ hv, _, F8, N8⟩
      rw [if_neg (by simpa using h63)]
      refine wpAny_execs_cons (wpAny_If (wpAny_cut (fun b s' => b = decide (c = 91) ∧ ∃ tk, s' = { s with heap := h6, toks := tk }) ?_ ?_))
      · clear hesc
        (try k_fold)
        k_steps
        exact ⟨PyProof.Rows.one_beq (c := 91), _, rfl⟩
      rintro _ _ ⟨rfl, tk10, rfl⟩
      by_cases h91 : c = 91
      · rw [if_pos (decide_eq_true h91)]
        have hst : trStep qm c out = out ++ [some ⟨#[92, 91]⟩] := by unfold trStep; rw [if_neg h42, if_neg h63, if_pos h91]
        rw [hst] at hQh
        have hin : (i : Int) + 1 = (x.length : Nat) := by
          have := hb i (h91 ▸ hci)
          show (i : Int) + 1 = (x.cps.size : Nat)
          omega
        rw [hin] at ht2 F7 hQh
        clear hesc hin
        show wpAny _ _ (execs _ _) _ _ _
        refine wpAny_execs_cons (wpAny_cut (fun f s' => f = .next ∧ ∃ h tk mj tj, s' = { s with heap := h, toks := tk } ∧ tr7 x.length x.length ti2 tn q l qm x tq t sv mj ∧ mj (Str.ofString "j") = some (.int x.length tj) ∧ Fr g' L' h mj ∧ News g' L' h ((q, boundObj "list.append" l) :: (l, listOf vs.toArray k) :: news)) ?_ ?_)
        · k_fold
          k_steps
          rename_i Fz _
          exact ⟨rfl, _, _, _, _, rfl, ⟨rfl, rfl, rfl, rfl, rfl, rfl, rfl⟩, rfl, Fz, by assumption⟩
        rintro _ _ ⟨rfl, h8, tk11, mj, tj, rfl, htj, hj, Fj, Nj⟩
        clear F7 N7
        rw [tr7_map htj, m_one hj] at Fj
        show wpAny _ _ (execs _ _) _ _ _
        refine wpAny_execs_cons (wpAny_If (wpAny_cut (fun b s' => b = false ∧ ∃ tk, s' = { s with heap := h8, toks := tk }) ?_ ?_))
        · k_fold
          k_steps
          exact ⟨rfl, _, rfl⟩
        rintro _ _ ⟨rfl, tk12, rfl⟩
        rw [if_neg (by decide)]
        refine wpAny_execs_nil ?_
        show wpAny _ _ (execs _ _) _ _ _
        refine wpAny_execs_cons (wpAny_If (wpAny_cut (fun b s' => b = false ∧ ∃ tk, s' = { s with heap := h8, toks := tk }) ?_ ?_))
        · k_fold
          k_steps
          exact ⟨rfl, _, rfl⟩
        rintro _ _ ⟨rfl, tk13, rfl⟩
        rw [if_neg (by decide)]
        refine wpAny_execs_nil ?_
        show wpAny _ _ (execs _ _) _ _ _
        refine wpAny_execs_cons (While_inv (fun _ m nw => m = _ ∧ nw = _) (n₀ := 0) Fj Nj ⟨rfl, rfl⟩ ?_ hE)
        rintro _ _ _ h9 tk14 Fk Nk ⟨rfl, rfl⟩
        refine wpAny_cut (fun b s' => b = false ∧ ∃ tk, s' = { s with heap := h9, toks := tk }) ?_ ?_
        · clear Fj Nj
          (try k_fold)
          k_steps
          exact ⟨rfl, _, rfl⟩
        rintro _ _ ⟨rfl, tk15, rfl⟩
        rw [if_neg (by decide)]
        show wpAny _ _ (execs _ _) _ _ _
        clear Fj Nj
        refine wpAny_execs_cons (wpAny_If (wpAny_cut (fun b s' => b = true ∧ ∃ tk, s' = { s with heap := h9, toks := tk }) ?_ ?_))
        · k_fold
          k_steps
          exact ⟨by simp, _, rfl⟩
        rintro _ _ ⟨rfl, tk16, rfl⟩
        rw [if_pos rfl]
        (try k_fold)
        repeat' (first | (k_unfold; (try dsimp only)) | ((fail_if_success (with_reducible show wpAny _ _ (callWith _ (Value.ref _) _ _ _) _ _ _)); walk1) | ((fail_if_success (with_reducible show wpAny _ _ (callWith _ (Value.ref _) _ _ _) _ _ _)); dsimp only; walk1))
        refine callWith_bound (l := l) (wpAny_cut (fun v s' => ∃ u tk, v = .str ⟨#[92, 91]⟩ u ∧ s' = { s with heap := h9, toks := tk }) ?_ ?_)
        · k_steps
          exact ⟨_, _, rfl, rfl⟩
        rintro _ _ ⟨u9, tk17, rfl, rfl⟩
        refine ⟨(Nk _ (.head _)).1, call_addK Fk Nk hql hrl hsz fun h10 F10 N10 => ?_⟩
        rw [List.push_toArray] at N10
        k_steps
        exact hQh _ _ ⟨rfl, _, _, _, _, rfl, ⟨rfl, rfl, rfl, rfl, rfl, rfl, rfl⟩, .text _ _ hv, _, F10, N10⟩
      rw [if_neg (by simpa using h91)]
      have hcm : c ∈ [97, 98, 46, 45, 93, 33] := sign6 (hc c (by simpa using Array.mem_of_getElem? hci)) h42 h63 h91
      have hst : trStep qm c out = out ++ [some (escS c)] := by unfold trStep; rw [if_neg h42, if_neg h63, if_neg h91]
      rw [hst] at hQh
      show wpAny _ _ (execs _ _) _ _ _
      (try k_fold)
      repeat' (first | (k_unfold; (try dsimp only)) | ((fail_if_success (with_reducible show wpAny _ _ (callWith _ (Value.ref _) _ _ _) _ _ _)); walk1) | ((fail_if_success (with_reducible show wpAny _ _ (callWith _ (Value.ref _) _ _ _) _ _ _)); dsimp only; walk1))
      refine callWith_bound (l := l) ?_
      k_steps
      refine hesc c u h6 _ _ _ _ hcm F7 N7 fun t' h8 tk' F8 N8 => ?_
      refine ⟨(N8 _ (.head _)).1, call_addK F8 N8 hql hrl hsz fun h9 F9 N9 => ?_⟩
      rw [List.push_toArray] at N9
      k_steps
      exact hQh _ _ ⟨rfl, _, _, _, _, rfl, ⟨rfl, rfl, rfl, rfl, rfl, rfl, rfl⟩, .text _ _ hv, _, F9, N9⟩
    rintro _ _ ⟨rfl, h7, tk8, m3, vs3, rfl, ht3, hv3, k3, F8, N8⟩
    show wpAny _ _ (execs [] _) _ _ _
    exact wpAny_execs_nil (WhileStep.intro F8 N8 (n' := n - 1) (by omega) ⟨i + 1, vs3, k3, ti2, tn, _, by omega, ht3, rfl, hv3, Nat.le_trans (trStep_len qm c out) (Nat.succ_le_succ hol), hR2⟩)
  · rw [if_neg (by simpa using hlt)]
    show wpAny _ _ (execs _ _) _ _ _
    have hie : i = x.length := by
      have h9 : ¬ i < x.cps.size := hlt
      show i = x.cps.size
      omega
    rw [hie] at hR F5
    rw [show x.cps.toList.drop x.length = [] by simp [PySem.Str.length]] at hR
    have hR' : out = trL qm x.cps.toList [] := hR
    rw [hR'] at hv
    clear hesc ht hi hlt hie
    k_steps
    · exact hret vs k l _ _ _ hv F5 (fun p hp => N5 p (.tail _ hp))
    · rename_i hne _ _ _
      exact absurd rfl hne

end Mine
end

section
open PySem PySem.W PyProof.Rows PySem.Builtin
set_option Elab.async false
set_option maxRecDepth 100000
set_option maxHeartbeats 4000000
namespace Mine
theorem ob_lookNew : typeLookup (.type "object") "__new__" = pure (some (.builtin "object.__new__")) := by rw [typeLookup_type, builtinLookup_eq_fast]; kernel_rfl
theorem ob_called : TypeCalled "object" "object.__new__" "object.__init__" :=
  ⟨by decide +kernel, by decide +kernel, ⟨_, _, PySem.F.mro_object⟩, madeBy_type PySem.F.mro_object ob_lookNew (by decide +kernel), by decide +kernel, by rw [isSubtype_type]; kernel_rfl, PySem.F.slot_object_init⟩
theorem ob_typeCall : checkTypeCall "object" ⟨[], []⟩ = pure () := by kernel_rfl
theorem ob_newCall : checkBuiltinCall "object.__new__" ⟨[.type "object"], []⟩ = pure () := by kernel_rfl
/-- a bare object -/
def bareObj : Obj := { cls := .type "object", data := .plain }
theorem ob_new : Meets (Builtin.«object.__new__» ⟨[.type "object"], []⟩) (fun _ R s => R (.ok (.ret (.ref s.heap.objs.size))) { s with heap := s.heap.push bareObj }) :=
  .of_wp fun prog w A R s hs => by
    obtain ⟨hp, g, d, tk, os⟩ := s
    have h1 := PySem.F.mro_object
    have h2 := ob_lookNew
    have h3 := ob_called.sub
    have h4 := ob_called.made
    unfold Builtin.«object.__new__»
    repeat (any_goals (first | assumption | (with_reducible refine bm_if_false (by decide +kernel) ?_) | wp_step))
    exact ⟨_, rfl, hs⟩
theorem ob_init (a : Value) : Meets (Builtin.«object.__init__» ⟨[a], []⟩) (fun _ R s => R (.ok (.ret .none)) s) :=
  .of_wp fun prog w A R s hs => wpAny_pure ⟨_, rfl, hs⟩
theorem call_object {prog : Program} {w : World} {A : Around} {E : Value → Shared → Prop} {s : Shared} {Q : Value → Shared → Prop} (h : Q (.ref s.heap.objs.size) { s with heap := s.heap.push bareObj }) : wpAny (model prog w) A (call (.type "object") []) Q E s :=
  callType_meets (Q₁ := fun obj s₁ => obj = .ref s.heap.objs.size ∧ s₁ = { s with heap := s.heap.push bareObj }) ob_called ob_typeCall ob_newCall F.entry_object_new F.entry_object_init ob_new ⟨rfl, rfl⟩ fun obj s₁ hq => by
    obtain ⟨rfl, rfl⟩ := hq
    exact ⟨⟨_, Heap.get?_push_size _ rfl, rfl⟩, PySem.F.args_object_init_1 _, _, ob_init _, ⟨rfl, h⟩⟩
end Mine
end

section
open PySem PySem.W PyProof.Rows
set_option Elab.async false
set_option maxRecDepth 100000
set_option maxHeartbeats 2000000
namespace Mine
def jn6 (i n : Int) (ti tn : Tok) (q l p S : Addr) (m : Str → Option Value) : Prop :=
  m (Str.ofString "i") = some (.int i ti) ∧ m (Str.ofString "n") = some (.int n tn) ∧ m (Str.ofString "add") = some (.ref q) ∧ m (Str.ofString "res") = some (.ref l) ∧ m (Str.ofString "STAR") = some (.ref S) ∧ m (Str.ofString "inp") = some (.ref p)
abbrev mJN (i n : Int) (ti tn : Tok) (q l p S : Addr) (m : Str → Option Value) : Str → Option Value := fun z => if z = Str.ofString "i" then some (.int i ti) else if z = Str.ofString "n" then some (.int n tn) else if z = Str.ofString "add" then some (.ref q) else if z = Str.ofString "res" then some (.ref l) else if z = Str.ofString "STAR" then some (.ref S) else if z = Str.ofString "inp" then some (.ref p) else m z
theorem jn6_map {i n : Int} {ti tn : Tok} {q l p S : Addr} {m : Str → Option Value} (h : jn6 i n ti tn q l p S m) : m = mJN i n ti tn q l p S m := by
  obtain ⟨h1, h2, h3, h4, h5, h6⟩ := h
  funext z
  show _ = ite _ _ _
  split
  · rename_i e; rw [e, h1]
  · split
    · rename_i e; rw [e, h2]
    · split
      · rename_i e; rw [e, h3]
      · split
        · rename_i e; rw [e, h4]
        · split
          · rename_i e; rw [e, h5]
          · split
            · rename_i e; rw [e, h6]
            · rfl
abbrev mJ0 (l p S : Addr) : Str → Option Value := fun y => if y = Str.ofString "res" then some (Value.ref l) else if y = Str.ofString "STAR" then some (.ref S) else if y = Str.ofString "inp" then some (Value.ref p) else none
def wrapS (x : PySem.Str) : PySem.Str := Str.empty ++ Str.ofString "(?s:" ++ x ++ Str.ofString ")\\Z"
def joinL (xs : List PySem.Str) : PySem.Str := ⟨(xs.map (·.cps.toList)).flatten.toArray⟩
theorem join_e (xs : List PySem.Str) : Txt.join (Str.ofString "") xs = joinL xs := by
  have key : ∀ (r : List PySem.Str) (a : Array Nat), r.foldl (fun acc p => acc ++ (Str.ofString "").cps ++ p.cps) a = a ++ (r.map (·.cps.toList)).flatten.toArray := by
    intro r
    induction r with
    | nil => intro a; simp
    | cons y r ih => 
      intro a
      rw [List.foldl_cons, ih]
      have e : (Str.ofString "").cps = #[] := by decide +kernel
      rw [e]
      apply Array.ext'
      simp
  cases xs with
  | nil => decide +kernel
  | cons y r =>
    show (⟨_⟩ : PySem.Str) = _
    unfold joinL
    congr 1
    show List.foldl _ y.cps r = _
    rw [key]
    apply Array.ext'
    simp
theorem joinL_len (xs : List PySem.Str) : (joinL xs).length = (xs.map (·.length)).sum := by
  show (List.toArray _).size = _
  rw [List.size_toArray, List.length_flatten, List.map_map]
  congr 1
theorem isnot_sr (y : PySem.Str) (t : Tok) (S : Addr) : compareOp .IsNot (.str y t) (.ref S) = pure (.bool true) := rfl
theorem jn (w : World) (vs : List Value) (xs : List PySem.Str) (hv : StrsAre vs xs) (hlen : vs.length ≤ 100) (hok : (xs.map (·.length)).sum ≤ 1000) (k : Nat) (p S : Addr) (news : List (Addr × Obj)) (hm : (p, listOf vs.toArray k) ∈ news) : theLaw = theLaw → ConA w 76 2 news [.ref p, .ref S] fun _ _ h₀ L m Q _ s =>
    ∀ (t : Tok) (h' : Heap) (tk' : Nat), Fr h₀ L h' m → News h₀ L h' news → Q (.str (wrapS (joinL xs)) t) { s with heap := h', toks := tk' } := by
  unfold ConA
  k_fill
  intro _
  intro loose mean mg mb dp un gd cn cs a ccd cl outer A₀ base h₀ L m s Q E B F X N T hk hd' hu hret
  refine wpAny_call ?_
  (refine' code_def ?k1 ?k2 ?k3 ?k4 ?k5 ?kA ?kF ?kK ?k6 ?k7 ?k8 ?k9 ?kB ?_ ?c2 ?c3 ?c4 ?c5; (case kA => exact rfl); (case kF => exact rfl); (case kK => first | assumption | exact rfl); (case k1 => k_asm); (case k2 => k_asm); (case k3 => k_asm); (case k4 => k_asm); (case k5 => k_asm); (case k6 => k_is); (case k7 => k_is); (case k8 => ktr_room); (case k9 => exact BindsTo.of_eq rfl); (case c5 => decide); (case kB => exact locs rfl); (case c2 => exact rfl); (case c3 => exact rfl); (case c4 => exact rfl))
  intro g' L' h' FG' F' N' B' X' T'
  clear F X N T B hk
  have F1 : Fr g' L' h' (fun y => List.lookup y [(Str.ofString "STAR", .ref S), (Str.ofString "inp", .ref p)]) := F'
  clear F'
  simp only [lookup_if, List.lookup_nil] at F1
  generalize s.toks + _ = tk0
  refine absC (P := fun A Q E s => (∀ t h tk m', Fr g' L' h m' → News g' L' h news → Q (.ret (.str (wrapS (joinL xs)) t)) { s with heap := h, toks := tk })) (fun t h2 tk2 m2 F2 N2 => leaveK_ F2 N2 fun kF kN => hret t _ _ kF kN) ?_
  clear hret B'
  intro dp un fr gd Q E s hE hret
  refine wpAny_execs_cons (wpAny_cut (fun f s' => f = .next ∧ ∃ h tk l m', s' = { s with heap := h, toks := tk } ∧ (∀ p ∈ news, p.1 ≠ l) ∧ m' = mJ0 l p S ∧ Fr g' L' h m' ∧ News g' L' h ((l, listOf #[] 0) :: news)) ?_ ?_)
  · clear hret
    k_fold
    k_steps
    rename_i lt _ _ _
    exact ⟨rfl, _, _, _, _, rfl, fun p hp => Nat.ne_of_lt (lt p hp), rfl, by assumption, by assumption⟩
  rintro _ _ ⟨rfl, h1, tk1, l, m1, rfl, hl, rfl, F2, N2⟩
  clear F1 N'
  show wpAny _ _ (execs _ _) _ _ _
  refine wpAny_execs_cons (wpAny_cut (fun f s' => f = .next ∧ ∃ h tk q m', s' = { s with heap := h, toks := tk } ∧ q ≠ l ∧ m' = (fun y => if y = Str.ofString "add" then some (Value.ref q) else mJ0 l p S y) ∧ Fr g' L' h m' ∧ News g' L' h ((q, boundObj "list.append" l) :: (l, listOf #[] 0) :: news)) ?_ ?_)
  · clear hret
    k_fold
    k_steps
    refine get_appendK F2 N2 (.head _) fun q h3 tk3 hq F3 N3 => ?_
    have hql : q ≠ l := (hq _ (.head _)).symm
    k_steps
    exact ⟨rfl, _, _, _, _, rfl, hql, rfl, by assumption, by assumption⟩
  rintro _ _ ⟨rfl, h2, tk2, q, m2, rfl, hql, rfl, F3, N3⟩
  clear F2 N2
  show wpAny _ _ (execs _ _) _ _ _
  refine wpAny_execs_cons (wpAny_cut (fun f s' => f = .next ∧ ∃ h tk ti tn m', s' = { s with heap := h, toks := tk } ∧ jn6 0 vs.length ti tn q l p S m' ∧ Fr g' L' h m' ∧ News g' L' h ((q, boundObj "list.append" l) :: (l, listOf #[] 0) :: news)) ?_ ?_)
  · clear hret
    k_fold
    k_steps
    refine len_list (News.isList N3 (.tail _ (.tail _ hm))) (by simp; omega) ?_
    k_steps
    rename_i Fz Nz
    exact ⟨rfl, _, _, _, _, _, rfl, ⟨rfl, rfl, rfl, rfl, rfl, rfl⟩, Fz, fun p hp => Nz p (.tail _ hp)⟩
  rintro _ _ ⟨rfl, h3, tk3, ti0, tn0, m3, rfl, ht0, F4, N4⟩
  clear F3 N3
  show wpAny _ _ (execs _ _) _ _ _
  refine wpAny_execs_cons (While_inv (fun n m nw => ∃ (i : Nat) (ys : List Value) (k : Nat) (ti tn : Tok), n + i = vs.length ∧ jn6 i vs.length ti tn q l p S m ∧ nw = (q, boundObj "list.append" l) :: (l, listOf ys.toArray k) :: news ∧ ys = vs.take i) (n₀ := vs.length) F4 N4 ⟨0, [], 0, ti0, tn0, rfl, ht0, rfl, rfl⟩ ?_ hE)
  clear F4 N4 ht0
  rintro n m1 nw h4 tk4 F5 N5 ⟨i, ys, k5, ti, tn, hi, ht, rfl, hys⟩
  rw [jn6_map ht] at F5
  by_cases hlt : i < vs.length
  · refine wpAny_cut (fun b s' => b = true ∧ ∃ tk, s' = { s with heap := h4, toks := tk }) ?_ ?_
    · clear hret
      k_fold
      repeat' (first | (k_unfold; (try dsimp only)) | ((fail_if_success (with_reducible show wpAny _ _ (subscriptTail _ _ (Value.ref _) _) _ _ _)); walk1) | ((fail_if_success (with_reducible show wpAny _ _ (subscriptTail _ _ (Value.ref _) _) _ _ _)); dsimp only; walk1))
      obtain ⟨y, ty, hy⟩ : ∃ y ty, vs[i]? = some (.str y ty) := by
        have h9 : i < xs.length := hv.length ▸ hlt
        obtain ⟨ty, e⟩ := hv.get i xs[i] (List.getElem?_eq_getElem h9)
        exact ⟨_, ty, e⟩
      refine item_list (News.isList N5 (.tail _ (.tail _ hm))) (Int.natCast_nonneg i) (by omega) (x := .str y ty) (by simpa using hy) ?_
      k_steps
      rw [isnot_sr]
      refine wpAny_pure ?_
      k_steps
      exact ⟨rfl, _, rfl⟩
    rintro _ _ ⟨rfl, tk5, rfl⟩
    rw [if_pos rfl]
    obtain ⟨y, ty, hy⟩ : ∃ y ty, vs[i]? = some (.str y ty) := by
      have h9 : i < xs.length := hv.length ▸ hlt
      obtain ⟨ty, e⟩ := hv.get i xs[i] (List.getElem?_eq_getElem h9)
      exact ⟨_, ty, e⟩
    have hsz : ys.toArray.size ≤ sizeLine := by
      rw [hys, List.size_toArray, List.length_take, sizeLine_eq]; omega
    show wpAny _ _ (execs _ _) _ _ _
    refine wpAny_execs_cons (wpAny_cut (fun f s' => f = .next ∧ ∃ h tk m', s' = { s with heap := h, toks := tk } ∧ jn6 i vs.length ti tn q l p S m' ∧ ∃ k5, Fr g' L' h m' ∧ News g' L' h ((q, boundObj "list.append" l) :: (l, listOf (ys ++ [Value.str y ty]).toArray k5) :: news)) ?_ ?_)
    · clear hret
      k_fold
      repeat' (first | (k_unfold; (try dsimp only)) | ((fail_if_success (with_reducible show wpAny _ _ (callWith _ (Value.ref _) _ _ _) _ _ _)); walk1) | ((fail_if_success (with_reducible show wpAny _ _ (callWith _ (Value.ref _) _ _ _) _ _ _)); dsimp only; walk1))
      refine callWith_bound (l := l) (wpAny_cut (fun v s' => v = .str y ty ∧ ∃ tk, s' = { s with heap := h4, toks := tk }) ?_ ?_)
      · repeat' (first | (k_unfold; (try dsimp only)) | ((fail_if_success (with_reducible show wpAny _ _ (subscriptTail _ _ (Value.ref _) _) _ _ _)); walk1) | ((fail_if_success (with_reducible show wpAny _ _ (subscriptTail _ _ (Value.ref _) _) _ _ _)); dsimp only; walk1))
        refine item_list (News.isList N5 (.tail _ (.tail _ hm))) (Int.natCast_nonneg i) (by omega) (x := .str y ty) (by simpa using hy) ?_
        k_steps
        exact ⟨rfl, _, rfl⟩
      rintro _ _ ⟨rfl, tk10, rfl⟩
      refine ⟨(N5 _ (.head _)).1, call_addK F5 N5 hql hl hsz fun h8 F8 N8 => ?_⟩
      rw [List.push_toArray] at N8
      k_steps
      exact ⟨rfl, _, _, _, rfl, ⟨rfl, rfl, rfl, rfl, rfl, rfl⟩, _, F8, N8⟩
    rintro _ _ ⟨rfl, h6, tk6, m6, rfl, ht6, k6, F6, N6⟩
    clear F5 N5 ht
    rw [jn6_map ht6] at F6
    show wpAny _ _ (execs _ _) _ _ _
    refine wpAny_execs_cons (wpAny_cut (fun f s' => f = .next ∧ ∃ h tk m' ti, s' = { s with heap := h, toks := tk } ∧ jn6 ((i : Int) + 1) vs.length ti tn q l p S m' ∧ Fr g' L' h m' ∧ News g' L' h ((q, boundObj "list.append" l) :: (l, listOf (ys ++ [Value.str y ty]).toArray k6) :: news)) ?_ ?_)
    · clear hret
      k_fold
      k_steps
      exact ⟨rfl, _, _, _, _, rfl, ⟨rfl, rfl, rfl, rfl, rfl, rfl⟩, by assumption, by assumption⟩
    rintro _ _ ⟨rfl, h7, tk7, m7, ti7, rfl, ht7, F7, N7⟩
    show wpAny _ _ (execs [] _) _ _ _
    refine wpAny_execs_nil (WhileStep.intro F7 N7 (n' := n - 1) (by omega) ⟨i + 1, _, k6, ti7, tn, by omega, ht7, rfl, ?_⟩)
    rw [hys, List.take_add_one, hy]; rfl
  · have hie : i = vs.length := by omega
    rw [hie] at hys F5
    rw [List.take_length] at hys
    rw [hys] at N5
    refine wpAny_cut (fun b s' => b = false ∧ ∃ tk, s' = { s with heap := h4, toks := tk }) ?_ ?_
    · clear hret
      k_fold
      k_steps
      exact ⟨by simp, _, rfl⟩
    rintro _ _ ⟨rfl, tk5, rfl⟩
    rw [if_neg (by decide)]
    show wpAny _ _ (execs _ _) _ _ _
    refine wpAny_execs_cons (While_inv (fun _ m nw => m = _ ∧ nw = _) (n₀ := 0) F5 N5 ⟨rfl, rfl⟩ ?_ hE)
    rintro _ _ _ h9 tk14 Fk Nk ⟨rfl, rfl⟩
    refine wpAny_cut (fun b s' => b = false ∧ ∃ tk, s' = { s with heap := h9, toks := tk }) ?_ ?_
    · clear hret F5 N5
      k_fold
      k_steps
      exact ⟨by simp, _, rfl⟩
    rintro _ _ ⟨rfl, tk15, rfl⟩
    rw [if_neg (by decide)]
    clear F5 N5
    show wpAny _ _ (execs _ _) _ _ _
    k_steps
    · refine join_list (News.isList Nk (.tail _ (.head _))) (by simpa using hv) (by rw [show (Str.ofString "").length = 0 from by decide +kernel]; omega) fun tj kj => ?_
      rw [join_e]
      have hJl := joinL_len xs
      generalize joinL xs = J at *
      have hJ : J.length ≤ 1000 := by omega
      k_steps
      exact hret _ _ _ _ (by assumption) (fun p hp => by first | exact (by assumption : News g' L' _ _) p (.tail _ (.tail _ hp)))
    · rename_i hne _ _ _
      exact absurd rfl hne

end Mine
end

section
open PySem PySem.W PyProof.Rows
set_option Elab.async false
set_option maxRecDepth 100000
set_option maxHeartbeats 2000000
namespace Mine
theorem pcs_strs {vs : List Value} {ps : List (Option PySem.Str)} (h : Pcs vs ps) : ∀ xs, ps = xs.map some → StrsAre vs xs := by
  induction h with
  | nil => intro xs e; cases xs with
    | nil => exact .nil
    | cons _ _ => cases e
  | star _ ih => 
    intro xs e
    have : (none : Option PySem.Str) ∈ xs.map some := e ▸ (by simp)
    simp at this
  | text x t _ ih =>
    intro xs e
    rcases List.eq_nil_or_concat xs with rfl | ⟨ys, y, rfl⟩
    · simp at e
    · rw [List.concat_eq_append, List.map_append] at e
      have e1 := List.append_inj' e rfl
      have e2 : x = y := by simpa using e1.2
      subst e2
      rw [List.concat_eq_append]
      exact kct_snoc (ih ys e1.1)
theorem call_objectK {prog : Program} {w : World} {A : Around} {E : Value → Shared → Prop} {s : Shared} {h₀ : Heap} {L : Addr} {m : Str → Option Value} {news : List (Addr × Obj)} {Q : Value → Shared → Prop} (F : Fr h₀ L s.heap m) (N : News h₀ L s.heap news)
    (h : ∀ S h', (∀ p ∈ news, p.1 ≠ S) → Fr h₀ L h' m → News h₀ L h' ((S, bareObj) :: news) → Q (.ref S) { s with heap := h' }) : wpAny (model prog w) A (call (.type "object") []) Q E s :=
  call_object (h _ _ (fun p hp => Nat.ne_of_lt (Heap.lt_size (N p hp).1)) (F.push _) (fun p hp => by
    rcases List.mem_cons.mp hp with rfl | hp
    · exact ⟨Heap.get?_push_size _ rfl, Nat.ne_of_gt F.ns.lt, next_is_new F⟩
    · exact ⟨Heap.get?_push_of_some _ (N p hp).1, (N p hp).2⟩))
theorem tl (w : World) (x : PySem.Str) (xs : List PySem.Str) (hx : x.cps.size ≤ 100) (hc : ∀ c ∈ x.cps.toList, c ∈ [97, 98, 46, 45, 93, 33, 42, 63, 91]) (hb : ∀ i, x.cps[i]? = some 91 → i + 1 = x.cps.size) (hs : ∀ c ∈ x.cps.toList, c ≠ 42) (hxs : trL (Str.ofString ".") x.cps.toList [] = xs.map some) (hlen : xs.length ≤ 100) (hok : (xs.map (·.length)).sum ≤ 1000) (t : Tok) (news : List (Addr × Obj)) : theLaw = theLaw → ConA w 50 6 news [.str x t] fun _ _ h₀ L m Q _ s =>
    ∀ (t : Tok) (h' : Heap) (tk' : Nat), Fr h₀ L h' m → News h₀ L h' news → Q (.str (wrapS (joinL xs)) t) { s with heap := h', toks := tk' } := by
  unfold ConA
  k_fill
  intro _
  intro loose mean mg mb dp un gd cn cs a ccd cl outer A₀ base h₀ L m s Q E B F X N T hk hd' hu hret
  refine wpAny_call ?_
  (refine' code_def ?k1 ?k2 ?k3 ?k4 ?k5 ?kA ?kF ?kK ?k6 ?k7 ?k8 ?k9 ?kB ?_ ?c2 ?c3 ?c4 ?c5; (case kA => exact rfl); (case kF => exact rfl); (case kK => first | assumption | exact rfl); (case k1 => k_asm); (case k2 => k_asm); (case k3 => k_asm); (case k4 => k_asm); (case k5 => k_asm); (case k6 => k_is); (case k7 => k_is); (case k8 => ktr_room); (case k9 => exact BindsTo.of_eq rfl); (case c5 => decide); (case kB => exact locs rfl); (case c2 => exact rfl); (case c3 => exact rfl); (case c4 => exact rfl))
  intro g' L' h' FG' F' N' B' X' T'
  clear F X N T B hk
  have F1 : Fr g' L' h' (fun y => List.lookup y [(Str.ofString "pat", .str x t)]) := F'
  clear F'
  simp only [lookup_if, List.lookup_nil] at F1
  generalize s.toks + _ = tk0
  refine absC (P := fun A Q E s => (∀ t h tk m', Fr g' L' h m' → News g' L' h news → Q (.ret (.str (wrapS (joinL xs)) t)) { s with heap := h, toks := tk }) ∧
    (∀ S tq h tk m' nw (Q' : Value → Shared → Prop), Fr g' L' h m' → News g' L' h nw → (∀ vs k l h' tk', StrsAre vs xs → Fr g' L' h' m' → News g' L' h' ((l, listOf vs.toArray k) :: nw) → Q' (.ref l) { s with heap := h', toks := tk' }) → wpAny (model PySem.Challenge.rw_rx0034_01.row.prog w) A (call (.ref 69) [.str x t, .ref S, .str (Str.ofString ".") tq]) Q' E { s with heap := h, toks := tk }) ∧
    (∀ vs k p S h tk m' nw (Q' : Value → Shared → Prop), StrsAre vs xs → (p, listOf vs.toArray k) ∈ nw → Fr g' L' h m' → News g' L' h nw → (∀ t h' tk', Fr g' L' h' m' → News g' L' h' nw → Q' (.str (wrapS (joinL xs)) t) { s with heap := h', toks := tk' }) → wpAny (model PySem.Challenge.rw_rx0034_01.row.prog w) A (call (.ref 76) [.ref p, .ref S]) Q' E { s with heap := h, toks := tk })) ⟨fun t h2 tk2 m2 F2 N2 => leaveK_ F2 N2 fun kF kN => hret t _ _ kF kN, ?_, ?_⟩ ?_
  · intro S tq h2 tk2 m2 nw Q' F2 N2 hQ
    clear hret
    refine' tr w x hx hc hb t tq (.ref S) (.inr hs) _ nw rfl _ _ _ _ _ _ _ _ _ _ _ _ _ _ _ _ _ _ _ _ _ ?k1 ?k2 ?k3 ?k4 ?k5 ?_ ?_ ?_ ?_
    case k1 => exact B'
    case k2 => exact F2
    case k3 => exact X'
    case k4 => exact N2
    case k5 => exact T'
    · exact rfl
    · ktr_room
    · ktr_units
    · intro vs k l h3 tk3 hv F3 N3
      exact hQ vs k l h3 tk3 (pcs_strs hv _ hxs) F3 N3
  · intro vs k p S h2 tk2 m2 nw Q' hv hm F2 N2 hQ
    clear hret
    refine' jn w vs xs hv (hv.length ▸ hlen) hok k p S nw hm rfl _ _ _ _ _ _ _ _ _ _ _ _ _ _ _ _ _ _ _ _ _ ?k1 ?k2 ?k3 ?k4 ?k5 ?_ ?_ ?_ ?_
    case k1 => exact B'
    case k2 => exact F2
    case k3 => exact X'
    case k4 => exact N2
    case k5 => exact T'
    · exact rfl
    · ktr_room
    · ktr_units
    · exact hQ
  clear hret B'
  intro dp un fr gd Q E s hE hP
  obtain ⟨hret, htr, hjn⟩ := hP
  k_steps
  refine call_objectK F1 N' fun S h3 hS F3 N3 => ?_
  k_steps
  refine htr _ _ _ _ _ _ _ (by assumption) (by assumption) fun vs k l h4 tk4 hv F4 N4 => ?_
  k_steps
  refine hjn vs k _ _ _ _ _ _ _ hv (.head _) (by assumption) (by assumption) fun t5 h5 tk5 F5 N5 => ?_
  k_steps
  exact hret _ _ _ _ F5 (fun p hp => N5 p (.tail _ (.tail _ hp)))

end Mine
end

section
open PySem PySem.W PyProof.Rows PySem.Builtin PySem.Builtin.Re
set_option Elab.async false
set_option maxRecDepth 100000
set_option maxHeartbeats 4000000
namespace Mine
theorem rx_slot : Slot "re.Pattern" "sub" "re.Pattern.sub" :=
  .of (owner := "re.Pattern") (n := "sub") (by rw [typeLookup_type, builtinLookup_eq_fast]; kernel_rfl) (by decide +kernel) (by decide +kernel) (by decide +kernel)
    (by first | exact .inl (by decide +kernel) | exact .inr (by decide +kernel)) (by rw [isSubtype_type]; kernel_rfl)
theorem rx_type : typeOf (.builtin "re.Pattern.sub") = pure (.type "method_descriptor") := by show builtinType _ = _; rw [builtinType_eq_fast]; kernel_rfl
theorem rx_entry : entryFor table "re.Pattern.sub" = some Builtin.«re.Pattern.sub» := entryFor_of_tree (by kernel_rfl)
theorem rx_entryL : entryFor table "re.Pattern.sub.loop" = some Builtin.«re.Pattern.sub.loop» := entryFor_of_tree (by kernel_rfl)
theorem rx_args (a b c : Value) : argsOk "re.Pattern.sub" ⟨[a, b, c], []⟩ := by unfold argsOk; kernel_rfl
theorem rx_plainAttrs : PlainAttrs "re.Pattern" := ⟨⟨"object.__getattribute__", by rw [typeLookup_type, builtinLookup_eq_fast]; kernel_rfl, by decide +kernel⟩, by rw [typeLookup_type, builtinLookup_eq_fast]; kernel_rfl⟩
theorem rx_named (a b : Value) : reNamed "re.Pattern.sub" "sub" ["repl", "string", "count"] 2 [a, b] [] = pure [some a, some b, none] := by kernel_rfl
theorem rx_plainL : plainId "re.Pattern.sub.loop" = true := by decide +kernel
theorem rx_fnCall : typeLookup (.type "function") "__call__" = pure (some (.builtin "function.__call__")) := by rw [typeLookup_type, builtinLookup_eq_fast]; kernel_rfl
abbrev rxT (x : PySem.Str) (t : Tok) : ReTarget := { pattern := .ref 43, string := .str x t, code := #[14, 14, 4, 1, 1, 9, 0, 64, 0, 1342177280, 0, 0, 0, 0, 0, 17, 0, 13, 11, 9, 0, 64, 0, 1342177280, 0, 0, 0, 0, 0, 17, 1, 1], text := x.cps, kind := 0, groups := 1, pos := 0, lim := x.cps.size }
section
variable {prog : Program} {w : World} {A : Around} {E : Value → Shared → Prop} {s : Shared}
theorem rx_get {pl : Sem Bool} {Q : Value × List Value → Shared → Prop} (X : (hd0.heap_1 w.params).In s.heap) (h : Q (.builtin "re.Pattern.sub", [.ref 43]) s) : wpAny (model prog w) A (getMethod (.ref 43) "sub" pl) Q E s :=
  getMethod_builtin ⟨_, X 43 _ rfl, rfl⟩ rx_plainAttrs rx_slot rx_type (fun a e => by cases e; exact ⟨_, X 43 _ rfl, rfl⟩) h
theorem rx_whole {x : PySem.Str} {t : Tok} {Q : ReTarget → Shared → Prop} (X : (hd0.heap_1 w.params).In s.heap) (h : Q (rxT x t) s) : wpAny (model prog w) A (reWholeTarget (.ref 43) (.str x t)) Q E s :=
  (Looks.of_peek (K := hd0.heap_1 w.params) X (by kernel_rfl)).here h
theorem rx_none (x : PySem.Str) (t : Tok) (P : Params) (hx : x = Str.ofString "ab" ∨ x = Str.ofString "!b") : peek [] ⟨prog, P⟩ (reNextFound (rxT x t) 0 false) = some none := by
  rcases hx with rfl | rfl <;> kernel_rfl
theorem rx_call {f : Addr} {o : Obj} {x : PySem.Str} {t : Tok} {Q : Value → Shared → Prop} (X : (hd0.heap_1 w.params).In s.heap) (hf : s.heap.get? f = some o) (hc : o.cls = .type "function") (hx : x = Str.ofString "ab" ∨ x = Str.ofString "!b")
    (h : ∀ u tk h', (∀ b o, s.heap.get? b = some o → h'.get? b = some o) → Q (.str x u) { s with heap := h', toks := tk }) :
    wpAny (model prog w) A (call (.builtin "re.Pattern.sub") [.ref 43, .ref f, .str x t]) Q E s := by
  refine wpAny_call (codeAny_call_builtin rx_slot.plain rx_entry (rx_slot.check _ _ _ _ _ _ _ _ ⟨_, X 43 _ rfl, rfl⟩ (rx_args _ _ _) ?_))
  unfold Builtin.«re.Pattern.sub» reSubstitute
  dsimp only
  refine wpAny_bind (wpAny_of_eq (rx_named _ _) ?_)
  dsimp only
  refine wpAny_bind (wpAny_pure ?_)
  refine wpAny_bind ?_
  have hT : s.TypeIs (.ref f) "function" := ⟨o, hf, hc⟩
  with_reducible refine wpAny_specialOf hT rx_fnCall ?_
  dsimp only [Option.isSome_some]
  rw [if_pos rfl]
  refine wpAny_bind (wpAny_pure ?_)
  refine bm_if_true rfl ?_
  refine wpAny_bind (wpAny_pure ?_)
  refine wpAny_bind (wpAny_holding (rx_whole X ?_))
  refine bm_if_true rfl ?_
  refine wpAny_bind ?_
  unfold reNotHeld
  refine wpAny_bind (wpAny_isInstance (typeIs_str _ _ _) PySem.F.sub_str_bytearray ?_)
  refine bm_if_false rfl ?_
  refine wpAny_bind (wpAny_pure ?_)
  refine wpAny_pure ?_
  refine wpAny_bind (wpAny_newList ?_)
  refine wpAny_pure ⟨plainId_quiet rx_plainL _, codeAny_builtin rx_entryL ?_⟩
  rw [Around.under_plainId rx_plainL _]
  replace h : ∀ u tk h', Heap.SameBut s.heap.objs.size (s.heap.push (listOf #[] 0)) h' → Q (.str x u) { s with heap := h', toks := tk } := fun u tk h' hs => h u tk h' fun b o e => hs.extBut b o (Nat.ne_of_lt (Heap.lt_size e)) (Heap.get?_push_of_some _ e)
  have hD : (s.heap.push (listOf #[] 0)).get? s.heap.objs.size = some (listOf #[] 0) := Heap.get?_push_size _ rfl
  have X2 : (hd0.heap_1 w.params).In (s.heap.push (listOf #[] 0)) := X.keeps fun _ _ e => Heap.get?_push_of_some _ e
  show wpAny _ _ (Builtin.«re.Pattern.sub.loop» _) _ _ { s with heap := s.heap.push (listOf #[] 0) }
  generalize s.heap.objs.size = D at *
  generalize s.heap.push (listOf #[] 0) = h2 at *
  unfold Builtin.«re.Pattern.sub.loop»
  dsimp only [rawInt]
  refine wpAny_bind (rx_whole X2 ?_)
  refine bm_if_false rfl ?_
  refine wpAny_bind ?_
  refine bm_if_false rfl ?_
  refine (Looks.of_peek (K := []) (fun _ _ e => nomatch e) (rx_none x t _ hx)).here ?_
  dsimp only
  have hx2 : x.cps.size = 2 := by rcases hx with rfl | rfl <;> decide +kernel
  rw [if_pos (show Int.toNat 0 < x.cps.size by rw [hx2]; decide)]
  unfold reSlice
  refine wpAny_bind (bm_if_true rfl (wpAny_mkStr ?_ ?_))
  case refine_2 => show (Array.extract _ _ _).size ≤ _; rw [Array.size_extract, hx2, sizeLine_eq]; decide
  rw [show (x.cps.extract (Int.toNat 0) x.cps.size) = x.cps from Array.extract_size]
  refine wpAny_bind (wpAny_updateSeq hD rfl ?_)
  refine wpAny_bind (bm_if_true rfl (wpAny_mkStr ?_ ?_))
  case refine_2 => show (Array.extract _ _ _).size ≤ _; rw [Array.size_extract, sizeLine_eq]; omega
  have hD3 : (h2.update D (Obj.mapSeq (·.push (.str x s.toks)))).get? D = some (listOf #[.str x s.toks] 1) := by
    rw [Heap.get?_update_self _ hD (by rw [mapSeq_push]; rfl), mapSeq_push]; rfl
  have hs := Heap.SameBut.update (h := h2) (a := D) (f := Obj.mapSeq (·.push (.str x s.toks)))
  generalize s.toks = u0 at *
  generalize h2.update D (Obj.mapSeq (·.push (.str x u0))) = h3 at *
  refine wpAny_bind ?_
  unfold seqItems?
  refine wpAny_bind (wpAny_load hD3 (wpAny_pure ?_))
  refine bm_if_false rfl ?_
  refine wpAny_bind ?_
  show wpAny _ _ (call (.builtin "str.join") _) _ _ _
  refine join_list (ys := [x]) ⟨_, hD3, rfl, _, rfl⟩ (.cons x u0 .nil) ?_ fun t' k => ?_
  · show x.cps.size + 0 + 1 * (Array.extract _ _ _).size ≤ _
    rw [Array.size_extract, hx2]; omega
  exact bm_if_false rfl (wpAny_pure (h t' _ _ hs))
end
end Mine
end

section
open PySem PySem.W PyProof.Rows
set_option Elab.async false
set_option maxRecDepth 100000
set_option maxHeartbeats 2000000
namespace Mine
theorem allLt_mem {d : Nat} {l : List (Addr × Obj)} (h : AllLt d l) : ∀ p ∈ l, p.1 < d := by
  induction l with
  | nil => intro _ hp; cases hp
  | cons q r ih =>
    intro p hp
    rcases List.mem_cons.mp hp with e | hp
    · rw [e]; exact h.1
    · exact ih h.2 p hp
theorem repl0 {prog : Program} {w : World} {A : Around} {E : Value → Shared → Prop} {s : Shared} {x y z : PySem.Str} {t u v : Tok} {Q : Value → Shared → Prop} (hn : (Builtin.Str.occurrences x y 0 x.length (x.length + 1)).isEmpty = true) (h : Q (.str x t) s) :
    wpAny (model prog w) A (call (.builtin "str.replace") [.str x t, .str y u, .str z v]) Q E s := by
  have hc : ((Builtin.Str.occurrences x y 0 x.length (x.length + 1)).isEmpty || (y.length == 0 && z.length == 0)) = true := by rw [hn]; rfl
  refine call_gives F.slot_str_replace (typeIs_str _ _ _) F.entry_str_replace (F.args_str_replace_3 _ _ _) (gives_str_replace x y z t u v fun e => absurd (hc.symm.trans e) (by decide)) ?_
  rw [if_pos hc]; exact h
def TabOk (ps : Array Value) : Prop := ps = #[] ∨ ∃ c', ps = #[rawInt 70, rawInt 39, .ref c']
theorem brA (w : World) (t tq : Tok) (ps : Array Value) (hps : TabOk ps) (news : List (Addr × Obj)) (hn64 : ∀ p ∈ news, p.1 ≠ 64) : theLaw = theLaw → ConA w 69 4 ((64, tabObj ps) :: news) [.str (Str.ofString "[ab]") t, .none, .str (Str.ofString ".") tq] fun _ _ h₀ L m Q _ s =>
    ∀ (u : Tok) (k : Nat) (l : Addr) (ps' : Array Value) (h' : Heap) (tk' : Nat), TabOk ps' → Fr h₀ L h' m → News h₀ L h' ((l, listOf #[.str (Str.ofString "[ab]") u] k) :: (64, tabObj ps') :: news) → Q (.ref l) { s with heap := h', toks := tk' } := by
  unfold ConA
  k_fill
  intro _
  intro loose mean mg mb dp un gd cn cs a ccd cl outer A₀ base h₀ L m s Q E B F X N T hk hd' hu hret
  refine wpAny_call ?_
  (refine' code_def ?k1 ?k2 ?k3 ?k4 ?k5 ?kA ?kF ?kK ?k6 ?k7 ?k8 ?k9 ?kB ?_ ?c2 ?c3 ?c4 ?c5; (case kA => exact rfl); (case kF => exact rfl); (case kK => first | assumption | exact rfl); (case k1 => k_asm); (case k2 => k_asm); (case k3 => k_asm); (case k4 => k_asm); (case k5 => k_asm); (case k6 => k_is); (case k7 => k_is); (case k8 => ktr_room); (case k9 => exact BindsTo.of_eq rfl); (case c5 => decide); (case kB => exact locs rfl); (case c2 => exact rfl); (case c3 => exact rfl); (case c4 => exact rfl))
  intro g' L' h' FG' F' N' B' X' T'
  clear F X N T B hk B'
  have F1 : Fr g' L' h' (fun y => List.lookup y [(Str.ofString "QUESTION_MARK", .str (Str.ofString ".") tq), (Str.ofString "STAR", .none), (Str.ofString "pat", .str (Str.ofString "[ab]") t)]) := F'
  clear F'
  simp only [lookup_if, List.lookup_nil] at F1
  generalize s.toks + _ = tk0
  have hR : (Str.ofString "[ab]").length = 4 := by decide +kernel
  refine absC (P := fun A Q E s => ∀ u k l ps' h tk m', TabOk ps' → Fr g' L' h m' → News g' L' h ((l, listOf #[.str (Str.ofString "[ab]") u] k) :: (64, tabObj ps') :: news) → Q (.ret (.ref l)) { s with heap := h, toks := tk }) (fun u k l ps' h2 tk2 m2 hv F2 N2 => leaveK_ F2 N2 fun kF kN => hret u k l ps' _ _ hv kF kN) ?_
  clear hret
  intro dp un fr gd Q E s hE hret
  refine wpAny_execs_cons (wpAny_cut (fun f s' => f = .next ∧ ∃ h tk l m', s' = { s with heap := h, toks := tk } ∧ (∀ p ∈ (64, tabObj ps) :: news, p.1 ≠ l) ∧ m' = (fun y => if y = Str.ofString "res" then some (Value.ref l) else if y = Str.ofString "QUESTION_MARK" then some (Value.str (Str.ofString ".") tq) else if y = Str.ofString "STAR" then some .none else if y = Str.ofString "pat" then some (Value.str (Str.ofString "[ab]") t) else none) ∧ Fr g' L' h m' ∧ News g' L' h ((l, listOf #[] 0) :: (64, tabObj ps) :: news)) ?_ ?_)
  · clear hret
    k_fold
    k_steps
    rename_i lt _ _ _
    exact ⟨rfl, _, _, _, _, rfl, fun p hp => (by rcases List.mem_cons.mp hp with rfl | hp; exact Nat.ne_of_lt lt.1; exact Nat.ne_of_lt (allLt_mem lt.2 p hp)), rfl, by assumption, by assumption⟩
  rintro _ _ ⟨rfl, h1, tk1, l, m1, rfl, hl, rfl, F2, N2⟩
  clear F1 N'
  show wpAny _ _ (execs _ _) _ _ _
  refine wpAny_execs_cons (wpAny_cut (fun f s' => f = .next ∧ ∃ h tk q m', s' = { s with heap := h, toks := tk } ∧ q ≠ l ∧ q ≠ 64 ∧ m' = (fun y => if y = Str.ofString "add" then some (Value.ref q) else if y = Str.ofString "res" then some (Value.ref l) else if y = Str.ofString "QUESTION_MARK" then some (Value.str (Str.ofString ".") tq) else if y = Str.ofString "STAR" then some .none else if y = Str.ofString "pat" then some (Value.str (Str.ofString "[ab]") t) else none) ∧ Fr g' L' h m' ∧ News g' L' h ((q, boundObj "list.append" l) :: (l, listOf #[] 0) :: (64, tabObj ps) :: news)) ?_ ?_)
  · clear hret
    k_fold
    k_steps
    refine get_appendK F2 N2 (.head _) fun q h3 tk3 hq F3 N3 => ?_
    have hql : q ≠ l := (hq _ (.head _)).symm
    have hq64 : q ≠ 64 := (hq _ (.tail _ (.head _))).symm
    k_steps
    exact ⟨rfl, _, _, _, _, rfl, hql, hq64, rfl, by assumption, by assumption⟩
  rintro _ _ ⟨rfl, h2, tk2, q, m2, rfl, hql, hq64, rfl, F3, N3⟩
  clear F2 N2
  show wpAny _ _ (execs _ _) _ _ _
  refine wpAny_execs_cons (wpAny_cut (fun f s' => f = .next ∧ ∃ h tk ti tn m', s' = { s with heap := h, toks := tk } ∧ tr7 0 4 ti tn q l (Str.ofString ".") (Str.ofString "[ab]") tq t .none m' ∧ Fr g' L' h m' ∧ News g' L' h ((q, boundObj "list.append" l) :: (l, listOf #[] 0) :: (64, tabObj ps) :: news)) ?_ ?_)
  · clear hret
    k_fold
    k_steps
    rename_i Fz Nz
    exact ⟨rfl, _, _, _, _, _, rfl, ⟨rfl, rfl, rfl, rfl, rfl, rfl, rfl⟩, Fz, fun p hp => Nz p (.tail _ hp)⟩
  rintro _ _ ⟨rfl, h3, tk3, ti0, tn0, m3, rfl, ht0, F4, N4⟩
  clear F3 N3
  rw [tr7_map ht0] at F4
  clear ht0
  show wpAny _ _ (execs _ _) _ _ _
  refine wpAny_execs_cons (While_inv (fun n m nw => (n = 1 ∧ m = _ ∧ nw = _) ∨ (n = 0 ∧ ∃ ti tn u k ps', tr7 4 4 ti tn q l (Str.ofString ".") (Str.ofString "[ab]") tq t .none m ∧ TabOk ps' ∧ nw = (q, boundObj "list.append" l) :: (l, listOf #[.str (Str.ofString "[ab]") u] k) :: (64, tabObj ps') :: news)) (n₀ := 1) F4 N4 (.inl ⟨rfl, rfl, rfl⟩) ?_ hE)
  clear F4 N4
  rintro n m4 nw h4 tk4 F5 N5 hJ
  rcases hJ with ⟨rfl, rfl, rfl⟩ | ⟨rfl, ti, tn, u, k, ps', ht, hps', rfl⟩
  · refine wpAny_cut (fun b s' => b = true ∧ ∃ tk, s' = { s with heap := h4, toks := tk }) ?_ ?_
    · clear hret
      k_fold
      k_steps
      exact ⟨rfl, _, rfl⟩
    rintro _ _ ⟨rfl, tk5, rfl⟩
    rw [if_pos rfl]
    k_fold
    clear hret
    refine wpAny_execs_cons (wpAny_cut (fun f s' => f = .next ∧ ∃ h tk u, s' = { s with heap := h, toks := tk } ∧ Fr g' L' h (fun z => if z = Str.ofString "c" then some (.str (Str.ofString "[") u) else mTR 0 4 ti0 tn0 q l (Str.ofString ".") (Str.ofString "[ab]") tq t .none m3 z) ∧ News g' L' h ((q, boundObj "list.append" l) :: (l, listOf #[] 0) :: (64, tabObj ps) :: news)) ?_ ?_)
    · k_fold
      k_steps
      exact ⟨rfl, _, _, _, rfl, by assumption, by assumption⟩
    rintro _ _ ⟨rfl, h5, tk6, u, rfl, F6, N6⟩
    clear F5 N5
    show wpAny _ _ (execs _ _) _ _ _
    refine wpAny_execs_cons (wpAny_cut (fun f s' => f = .next ∧ ∃ h tk m2 ti', s' = { s with heap := h, toks := tk } ∧ m2 (Str.ofString "c") = some (.str (Str.ofString "[") u) ∧ tr7 1 4 ti' tn0 q l (Str.ofString ".") (Str.ofString "[ab]") tq t .none m2 ∧ Fr g' L' h m2 ∧ News g' L' h ((q, boundObj "list.append" l) :: (l, listOf #[] 0) :: (64, tabObj ps) :: news)) ?_ ?_)
    · k_fold
      k_steps
      rename_i Fz _
      exact ⟨rfl, _, _, _, _, rfl, rfl, ⟨rfl, rfl, rfl, rfl, rfl, rfl, rfl⟩, Fz, by assumption⟩
    rintro _ _ ⟨rfl, h6, tk7, m2, ti2, rfl, hmc, ht2, F7, N7⟩
    clear F6 N6
    rw [tr7_map ht2, m_one hmc] at F7
    clear ht2 hmc
    show wpAny _ _ (execs _ _) _ _ _
    refine wpAny_execs_cons (wpAny_If (wpAny_cut (fun b s' => b = false ∧ ∃ tk, s' = { s with heap := h6, toks := tk }) ?_ ?_))
    · k_fold
      k_steps
      exact ⟨rfl, _, rfl⟩
    rintro _ _ ⟨rfl, tk8, rfl⟩
    rw [if_neg (by decide)]
    k_fold
    refine wpAny_execs_cons (wpAny_If (wpAny_cut (fun b s' => b = false ∧ ∃ tk, s' = { s with heap := h6, toks := tk }) ?_ ?_))
    · k_fold
      k_steps
      exact ⟨rfl, _, rfl⟩
    rintro _ _ ⟨rfl, tk9, rfl⟩
    rw [if_neg (by decide)]
    k_fold
    refine wpAny_execs_cons (wpAny_If (wpAny_cut (fun b s' => b = true ∧ ∃ tk, s' = { s with heap := h6, toks := tk }) ?_ ?_))
    · k_fold
      k_steps
      exact ⟨rfl, _, rfl⟩
    rintro _ _ ⟨rfl, tk10, rfl⟩
    rw [if_pos rfl]
    k_fold
    refine wpAny_execs_cons (wpAny_cut (fun f s' => f = .next ∧ ∃ h tk mj tj, s' = { s with heap := h, toks := tk } ∧ tr7 1 4 ti2 tn0 q l (Str.ofString ".") (Str.ofString "[ab]") tq t .none mj ∧ mj (Str.ofString "j") = some (.int 1 tj) ∧ Fr g' L' h mj ∧ News g' L' h ((q, boundObj "list.append" l) :: (l, listOf #[] 0) :: (64, tabObj ps) :: news)) ?_ ?_)
    · k_fold
      k_steps
      rename_i Fz _
      exact ⟨rfl, _, _, _, _, rfl, ⟨rfl, rfl, rfl, rfl, rfl, rfl, rfl⟩, rfl, Fz, by assumption⟩
    rintro _ _ ⟨rfl, h8, tk11, mj, tj, rfl, htj, hj, Fj, Nj⟩
    clear F7 N7
    rw [tr7_map htj, m_one hj] at Fj
    clear htj hj
    show wpAny _ _ (execs _ _) _ _ _
    refine wpAny_execs_cons (wpAny_cut (fun f s' => f = .next ∧ ∃ h tk mk tj, s' = { s with heap := h, toks := tk } ∧ tr7 1 4 ti2 tn0 q l (Str.ofString ".") (Str.ofString "[ab]") tq t .none mk ∧ mk (Str.ofString "j") = some (.int 1 tj) ∧ Fr g' L' h mk ∧ News g' L' h ((q, boundObj "list.append" l) :: (l, listOf #[] 0) :: (64, tabObj ps) :: news)) ?_ ?_)
    · k_fold
      k_steps
      rename_i Fz _
      exact ⟨rfl, _, _, _, _, rfl, ⟨rfl, rfl, rfl, rfl, rfl, rfl, rfl⟩, rfl, by assumption, by assumption⟩
    rintro _ _ ⟨rfl, h9, tk12, mk, tk0, rfl, htk, hk, Fk, Nk⟩
    clear Fj Nj
    rw [tr7_map htk, m_one hk] at Fk
    clear htk hk
    show wpAny _ _ (execs _ _) _ _ _
    refine wpAny_execs_cons (wpAny_cut (fun f s' => f = .next ∧ ∃ h tk mk tj, s' = { s with heap := h, toks := tk } ∧ tr7 1 4 ti2 tn0 q l (Str.ofString ".") (Str.ofString "[ab]") tq t .none mk ∧ mk (Str.ofString "j") = some (.int 1 tj) ∧ Fr g' L' h mk ∧ News g' L' h ((q, boundObj "list.append" l) :: (l, listOf #[] 0) :: (64, tabObj ps) :: news)) ?_ ?_)
    · k_fold
      k_steps
      exact ⟨rfl, _, _, _, _, rfl, ⟨rfl, rfl, rfl, rfl, rfl, rfl, rfl⟩, rfl, by assumption, by assumption⟩
    rintro _ _ ⟨rfl, h10, tk13, ml, tl0, rfl, htl, hl0, Fl, Nl⟩
    clear Fk Nk
    show wpAny _ _ (execs _ _) _ _ _
    refine wpAny_execs_cons (While_inv (fun n m nw => nw = _ ∧ ∃ (j : Int) (tj : Tok), (n, j) ∈ [(0, 3), (1, 2), (2, 1)] ∧ tr7 1 4 ti2 tn0 q l (Str.ofString ".") (Str.ofString "[ab]") tq t .none m ∧ m (Str.ofString "j") = some (.int j tj)) (n₀ := 2) Fl Nl ⟨rfl, 1, tl0, by decide, htl, hl0⟩ ?_ hE)
    clear Fl Nl htl hl0
    rintro n5 m5 nw h11 tk14 Fm Nm ⟨rfl, j, tj5, hnj, htm, hjm⟩
    rw [tr7_map htm, m_one hjm] at Fm
    clear htm hjm
    have hcase : (n5 = 0 ∧ j = 3) ∨ ((n5 = 1 ∧ j = 2) ∨ (n5 = 2 ∧ j = 1)) := by simpa using hnj
    clear hnj
    rcases hcase with ⟨rfl, rfl⟩ | hgo
    · refine wpAny_cut (fun b s' => b = false ∧ ∃ tk, s' = { s with heap := h11, toks := tk }) ?_ ?_
      · k_fold
        k_steps
        exact ⟨rfl, _, rfl⟩
      rintro _ _ ⟨rfl, tk15, rfl⟩
      rw [if_neg (by decide)]
      show wpAny _ _ (execs _ _) _ _ _
      refine wpAny_execs_cons (wpAny_If (wpAny_cut (fun b s' => b = false ∧ ∃ tk, s' = { s with heap := h11, toks := tk }) ?_ ?_))
      · k_fold
        k_steps
        exact ⟨rfl, _, rfl⟩
      rintro _ _ ⟨rfl, tk16, rfl⟩
      rw [if_neg (by decide)]
      k_fold
      refine wpAny_execs_cons (wpAny_cut (fun f s' => f = .next ∧ ∃ h tk mk tj u, s' = { s with heap := h, toks := tk } ∧ tr7 1 4 ti2 tn0 q l (Str.ofString ".") (Str.ofString "[ab]") tq t .none mk ∧ mk (Str.ofString "j") = some (.int 3 tj) ∧ mk (Str.ofString "stuff") = some (.str (Str.ofString "ab") u) ∧ Fr g' L' h mk ∧ News g' L' h ((q, boundObj "list.append" l) :: (l, listOf #[] 0) :: (64, tabObj ps) :: news)) ?_ ?_)
      · k_fold
        k_steps
        exact ⟨rfl, _, _, _, _, _, rfl, ⟨rfl, rfl, rfl, rfl, rfl, rfl, rfl⟩, rfl, rfl, by assumption, by assumption⟩
      rintro _ _ ⟨rfl, h12, tk17, mn, tjn, us, rfl, htn, hjn, hsn, Fn, Nn⟩
      clear Fm Nm
      rw [tr7_map htn, m_one hjn, m_one hsn] at Fn
      clear htn hjn hsn
      show wpAny _ _ (execs _ _) _ _ _
      refine wpAny_execs_cons (wpAny_cut (fun f s' => f = .next ∧ ∃ h tk mk tj u, s' = { s with heap := h, toks := tk } ∧ tr7 1 4 ti2 tn0 q l (Str.ofString ".") (Str.ofString "[ab]") tq t .none mk ∧ mk (Str.ofString "j") = some (.int 3 tj) ∧ mk (Str.ofString "stuff") = some (.str (Str.ofString "ab") u) ∧ Fr g' L' h mk ∧ News g' L' h ((q, boundObj "list.append" l) :: (l, listOf #[] 0) :: (64, tabObj ps) :: news)) ?_ ?_)
      · refine wpAny_If (wpAny_cut (fun b s' => b = true ∧ ∃ tk, s' = { s with heap := h12, toks := tk }) ?_ ?_)
        · k_fold
          k_steps
          exact ⟨by decide +kernel, _, rfl⟩
        rintro _ _ ⟨rfl, tk18, rfl⟩
        rw [if_pos rfl]
        k_fold
        k_steps
        refine repl0 (by decide +kernel) ?_
        k_steps
        exact ⟨rfl, _, _, _, _, _, rfl, ⟨rfl, rfl, rfl, rfl, rfl, rfl, rfl⟩, rfl, rfl, by assumption, by assumption⟩
      rintro _ _ ⟨rfl, h13, tk18, mo, tjo, uo, rfl, hto, hjo, hso, Fo, No⟩
      clear Fn Nn
      rw [tr7_map hto, m_one hjo, m_one hso] at Fo
      clear hto hjo hso
      show wpAny _ _ (execs _ _) _ _ _
      refine wpAny_execs_cons (wpAny_cut (fun f s' => f = .next ∧ ∃ h tk mk tj u ps', s' = { s with heap := h, toks := tk } ∧ tr7 1 4 ti2 tn0 q l (Str.ofString ".") (Str.ofString "[ab]") tq t .none mk ∧ mk (Str.ofString "j") = some (.int 3 tj) ∧ mk (Str.ofString "stuff") = some (.str (Str.ofString "ab") u) ∧ TabOk ps' ∧ Fr g' L' h mk ∧ News g' L' h ((q, boundObj "list.append" l) :: (l, listOf #[] 0) :: (64, tabObj ps') :: news)) ?_ ?_)
      · have C' : CodeHd g' 68 64 := codeHd_of_K X' (by rfl)
        rcases hps with rfl | ⟨c', rfl⟩
        · show wpAny _ _ (exec _ _) _ _ _
          k_fold
          repeat' (first | (k_unfold; (try dsimp only)) | ((fail_if_success (with_reducible show wpAny _ _ (getMethod (Value.ref _) _ _) _ _ _)); walk1) | ((fail_if_success (with_reducible show wpAny _ _ (getMethod (Value.ref _) _ _) _ _ _)); dsimp only; walk1))
          refine rx_get (X'.keeps Fo.keep) ?_
          k_steps
          refine kla_eval rfl (kla_nest Fo No T' C' rfl (.tail hq64 (.tail (hl _ (.head _)).symm (.head hn64))) trivial rfl rfl fun f c' oc vs' t' ct' h15 tk20 F15 N15 _ _ _ _ => ?_)
          k_steps
          refine rx_call (X'.keeps F15.keep) (N15 _ (.head _)).1 rfl (by first | exact .inl rfl | exact .inr rfl) fun u9 tk21 h16 hk9 => ?_
          have F16 := F15.keeps hk9
          have N16 := N15.grown hk9
          k_steps
          exact ⟨rfl, _, _, _, _, _, _, rfl, ⟨rfl, rfl, rfl, rfl, rfl, rfl, rfl⟩, rfl, rfl, .inr ⟨_, rfl⟩, by assumption, PyProof.Rows.News.tail' (PyProof.Rows.News.tail' (by assumption))⟩
        · show wpAny _ _ (exec _ _) _ _ _
          k_fold
          repeat' (first | (k_unfold; (try dsimp only)) | ((fail_if_success (with_reducible show wpAny _ _ (getMethod (Value.ref _) _ _) _ _ _)); walk1) | ((fail_if_success (with_reducible show wpAny _ _ (getMethod (Value.ref _) _ _) _ _ _)); dsimp only; walk1))
          refine rx_get (X'.keeps Fo.keep) ?_
          k_steps
          rename_i F15 N15 _
          refine rx_call (X'.keeps F15.keep) (N15 _ (.head _)).1 rfl (by first | exact .inl rfl | exact .inr rfl) fun u9 tk21 h16 hk9 => ?_
          have F16 := F15.keeps hk9
          have N16 := N15.grown hk9
          k_steps
          exact ⟨rfl, _, _, _, _, _, _, rfl, ⟨rfl, rfl, rfl, rfl, rfl, rfl, rfl⟩, rfl, rfl, .inr ⟨_, rfl⟩, by assumption, PyProof.Rows.News.tail' (by assumption)⟩
      rintro _ _ ⟨rfl, h14, tk19, mp, tjp, up, ps', rfl, htp, hjp, hsp, hps', Fp, Np⟩
      clear Fo No
      rw [tr7_map htp, m_one hjp, m_one hsp] at Fp
      clear htp hjp hsp
      show wpAny _ _ (execs _ _) _ _ _
      refine wpAny_execs_cons (wpAny_cut (fun f s' => f = .next ∧ ∃ h tk mk ti u, s' = { s with heap := h, toks := tk } ∧ tr7 4 4 ti tn0 q l (Str.ofString ".") (Str.ofString "[ab]") tq t .none mk ∧ mk (Str.ofString "stuff") = some (.str (Str.ofString "ab") u) ∧ Fr g' L' h mk ∧ News g' L' h ((q, boundObj "list.append" l) :: (l, listOf #[] 0) :: (64, tabObj ps') :: news)) ?_ ?_)
      · k_fold
        k_steps
        exact ⟨rfl, _, _, _, _, _, rfl, ⟨rfl, rfl, rfl, rfl, rfl, rfl, rfl⟩, rfl, by assumption, by assumption⟩
      rintro _ _ ⟨rfl, h17, tk22, mr, tir, ur, rfl, htr, hsr, Fr7, Nr7⟩
      clear Fp Np
      rw [tr7_map htr, m_one hsr] at Fr7
      clear htr hsr
      show wpAny _ _ (execs _ _) _ _ _
      refine wpAny_execs_cons (wpAny_cut (fun f s' => f = .next ∧ ∃ h tk mk ti u k, s' = { s with heap := h, toks := tk } ∧ tr7 4 4 ti tn0 q l (Str.ofString ".") (Str.ofString "[ab]") tq t .none mk ∧ Fr g' L' h mk ∧ News g' L' h ((q, boundObj "list.append" l) :: (l, listOf #[.str (Str.ofString "[ab]") u] k) :: (64, tabObj ps') :: news)) ?_ ?_)
      · k_fold
        repeat' (first | (k_unfold; (try dsimp only)) | ((fail_if_success (with_reducible show wpAny _ _ (callWith _ (Value.ref _) _ _ _) _ _ _)); walk1) | ((fail_if_success (with_reducible show wpAny _ _ (callWith _ (Value.ref _) _ _ _) _ _ _)); dsimp only; walk1))
        rename_i Fz Nz _
        have Ny := PyProof.Rows.News.tail' Nz
        refine callWith_bound (l := l) (wpAny_cut (fun v s' => ∃ u h tk m', v = .str (Str.ofString "[ab]") u ∧ s' = { s with heap := h, toks := tk } ∧ tr7 4 4 tir tn0 q l (Str.ofString ".") (Str.ofString "[ab]") tq t .none m' ∧ Fr g' L' h m' ∧ News g' L' h ((q, boundObj "list.append" l) :: (l, listOf #[] 0) :: (64, tabObj ps') :: news)) ?_ ?_)
        · k_steps
          exact ⟨_, _, _, _, congrArg (fun z => Value.str z _) (by decide +kernel), rfl, ⟨rfl, rfl, rfl, rfl, rfl, rfl, rfl⟩, Fz, Ny⟩
        rintro _ _ ⟨u9, h19, tk24, m9, rfl, rfl, ht9, F8, N8⟩
        refine ⟨(N8 _ (.head _)).1, call_addK F8 N8 hql (fun p hp => by rcases List.mem_cons.mp hp with rfl | hp; exact hl (64, tabObj ps) (.head _); exact hl _ (.tail _ hp)) (by decide) fun h20 F9 N9 => ?_⟩
        rw [show (#[] : Array Value).push (.str (Str.ofString "[ab]") u9) = #[.str (Str.ofString "[ab]") u9] from rfl] at N9
        k_steps
        exact ⟨rfl, _, _, _, _, _, _, rfl, ht9, F9, N9⟩
      rintro _ _ ⟨rfl, h18, tk23, mt, tit, ut, kt, rfl, htt, Ft, Nt⟩
      iterate 8 (try (show wpAny _ _ (execs [] _) _ _ _; refine wpAny_execs_nil ?_))
      exact (WhileStep.intro Ft Nt (n' := 0) (by decide) (.inr ⟨rfl, tit, tn0, ut, kt, ps', htt, hps', rfl⟩))
    · rcases hgo with ⟨rfl, rfl⟩ | ⟨rfl, rfl⟩
      all_goals
        refine wpAny_cut (fun b s' => b = true ∧ ∃ tk, s' = { s with heap := h11, toks := tk }) ?_ ?_
        · k_fold
          k_steps
          exact ⟨rfl, _, rfl⟩
        rintro _ _ ⟨rfl, tk15, rfl⟩
        rw [if_pos rfl]
        k_fold
      · refine wpAny_execs_cons (wpAny_cut (fun f s' => f = .next ∧ ∃ h tk mk tj, s' = { s with heap := h, toks := tk } ∧ tr7 1 4 ti2 tn0 q l (Str.ofString ".") (Str.ofString "[ab]") tq t .none mk ∧ mk (Str.ofString "j") = some (.int 3 tj) ∧ Fr g' L' h mk ∧ News g' L' h ((q, boundObj "list.append" l) :: (l, listOf #[] 0) :: (64, tabObj ps) :: news)) ?_ ?_)
        · k_fold
          k_steps
          exact ⟨rfl, _, _, _, _, rfl, ⟨rfl, rfl, rfl, rfl, rfl, rfl, rfl⟩, rfl, by assumption, by assumption⟩
        rintro _ _ ⟨rfl, h12, tk16, mn, tn, rfl, htn, hn, Fn, Nn⟩
        show wpAny _ _ (execs [] _) _ _ _
        exact wpAny_execs_nil (WhileStep.intro Fn Nn (n' := 0) (by decide) ⟨rfl, 3, tn, by decide, htn, hn⟩)
      · refine wpAny_execs_cons (wpAny_cut (fun f s' => f = .next ∧ ∃ h tk mk tj, s' = { s with heap := h, toks := tk } ∧ tr7 1 4 ti2 tn0 q l (Str.ofString ".") (Str.ofString "[ab]") tq t .none mk ∧ mk (Str.ofString "j") = some (.int 2 tj) ∧ Fr g' L' h mk ∧ News g' L' h ((q, boundObj "list.append" l) :: (l, listOf #[] 0) :: (64, tabObj ps) :: news)) ?_ ?_)
        · k_fold
          k_steps
          exact ⟨rfl, _, _, _, _, rfl, ⟨rfl, rfl, rfl, rfl, rfl, rfl, rfl⟩, rfl, by assumption, by assumption⟩
        rintro _ _ ⟨rfl, h12, tk16, mn, tn, rfl, htn, hn, Fn, Nn⟩
        show wpAny _ _ (execs [] _) _ _ _
        exact wpAny_execs_nil (WhileStep.intro Fn Nn (n' := 1) (by decide) ⟨rfl, 2, tn, by decide, htn, hn⟩)
  · rw [tr7_map ht] at F5
    clear ht
    refine wpAny_cut (fun b s' => b = false ∧ ∃ tk, s' = { s with heap := h4, toks := tk }) ?_ ?_
    · clear hret
      k_fold
      k_steps
      exact ⟨rfl, _, rfl⟩
    rintro _ _ ⟨rfl, tk5, rfl⟩
    rw [if_neg (by decide)]
    show wpAny _ _ (execs _ _) _ _ _
    k_steps
    exact hret u k l ps' _ _ _ hps' F5 (PyProof.Rows.News.tail' N5)
theorem brB (w : World) (t tq : Tok) (ps : Array Value) (hps : TabOk ps) (news : List (Addr × Obj)) (hn64 : ∀ p ∈ news, p.1 ≠ 64) : theLaw = theLaw → ConA w 69 4 ((64, tabObj ps) :: news) [.str (Str.ofString "[!b]") t, .none, .str (Str.ofString ".") tq] fun _ _ h₀ L m Q _ s =>
    ∀ (u : Tok) (k : Nat) (l : Addr) (ps' : Array Value) (h' : Heap) (tk' : Nat), TabOk ps' → Fr h₀ L h' m → News h₀ L h' ((l, listOf #[.str (Str.ofString "[^b]") u] k) :: (64, tabObj ps') :: news) → Q (.ref l) { s with heap := h', toks := tk' } := by
  unfold ConA
  k_fill
  intro _
  intro loose mean mg mb dp un gd cn cs a ccd cl outer A₀ base h₀ L m s Q E B F X N T hk hd' hu hret
  refine wpAny_call ?_
  (refine' code_def ?k1 ?k2 ?k3 ?k4 ?k5 ?kA ?kF ?kK ?k6 ?k7 ?k8 ?k9 ?kB ?_ ?c2 ?c3 ?c4 ?c5; (case kA => exact rfl); (case kF => exact rfl); (case kK => first | assumption | exact rfl); (case k1 => k_asm); (case k2 => k_asm); (case k3 => k_asm); (case k4 => k_asm); (case k5 => k_asm); (case k6 => k_is); (case k7 => k_is); (case k8 => ktr_room); (case k9 => exact BindsTo.of_eq rfl); (case c5 => decide); (case kB => exact locs rfl); (case c2 => exact rfl); (case c3 => exact rfl); (case c4 => exact rfl))
  intro g' L' h' FG' F' N' B' X' T'
  clear F X N T B hk B'
  have F1 : Fr g' L' h' (fun y => List.lookup y [(Str.ofString "QUESTION_MARK", .str (Str.ofString ".") tq), (Str.ofString "STAR", .none), (Str.ofString "pat", .str (Str.ofString "[!b]") t)]) := F'
  clear F'
  simp only [lookup_if, List.lookup_nil] at F1
  generalize s.toks + _ = tk0
  have hR : (Str.ofString "[!b]").length = 4 := by decide +kernel
  refine absC (P := fun A Q E s => ∀ u k l ps' h tk m', TabOk ps' → Fr g' L' h m' → News g' L' h ((l, listOf #[.str (Str.ofString "[^b]") u] k) :: (64, tabObj ps') :: news) → Q (.ret (.ref l)) { s with heap := h, toks := tk }) (fun u k l ps' h2 tk2 m2 hv F2 N2 => leaveK_ F2 N2 fun kF kN => hret u k l ps' _ _ hv kF kN) ?_
  clear hret
  intro dp un fr gd Q E s hE hret
  refine wpAny_execs_cons (wpAny_cut (fun f s' => f = .next ∧ ∃ h tk l m', s' = { s with heap := h, toks := tk } ∧ (∀ p ∈ (64, tabObj ps) :: news, p.1 ≠ l) ∧ m' = (fun y => if y = Str.ofString "res" then some (Value.ref l) else if y = Str.ofString "QUESTION_MARK" then some (Value.str (Str.ofString ".") tq) else if y = Str.ofString "STAR" then some .none else if y = Str.ofString "pat" then some (Value.str (Str.ofString "[!b]") t) else none) ∧ Fr g' L' h m' ∧ News g' L' h ((l, listOf #[] 0) :: (64, tabObj ps) :: news)) ?_ ?_)
  · clear hret
    k_fold
    k_steps
    rename_i lt _ _ _
    exact ⟨rfl, _, _, _, _, rfl, fun p hp => (by rcases List.mem_cons.mp hp with rfl | hp; exact Nat.ne_of_lt lt.1; exact Nat.ne_of_lt (allLt_mem lt.2 p hp)), rfl, by assumption, by assumption⟩
  rintro _ _ ⟨rfl, h1, tk1, l, m1, rfl, hl, rfl, F2, N2⟩
  clear F1 N'
  show wpAny _ _ (execs _ _) _ _ _
  refine wpAny_execs_cons (wpAny_cut (fun f s' => f = .next ∧ ∃ h tk q m', s' = { s with heap := h, toks := tk } ∧ q ≠ l ∧ q ≠ 64 ∧ m' = (fun y => if y = Str.ofString "add" then some (Value.ref q) else if y = Str.ofString "res" then some (Value.ref l) else if y = Str.ofString "QUESTION_MARK" then some (Value.str (Str.ofString ".") tq) else if y = Str.ofString "STAR" then some .none else if y = Str.ofString "pat" then some (Value.str (Str.ofString "[!b]") t) else none) ∧ Fr g' L' h m' ∧ News g' L' h ((q, boundObj "list.append" l) :: (l, listOf #[] 0) :: (64, tabObj ps) :: news)) ?_ ?_)
  · clear hret
    k_fold
    k_steps
    refine get_appendK F2 N2 (.head _) fun q h3 tk3 hq F3 N3 => ?_
    have hql : q ≠ l := (hq _ (.head _)).symm
    have hq64 : q ≠ 64 := (hq _ (.tail _ (.head _))).symm
    k_steps
    exact ⟨rfl, _, _, _, _, rfl, hql, hq64, rfl, by assumption, by assumption⟩
  rintro _ _ ⟨rfl, h2, tk2, q, m2, rfl, hql, hq64, rfl, F3, N3⟩
  clear F2 N2
  show wpAny _ _ (execs _ _) _ _ _
  refine wpAny_execs_cons (wpAny_cut (fun f s' => f = .next ∧ ∃ h tk ti tn m', s' = { s with heap := h, toks := tk } ∧ tr7 0 4 ti tn q l (Str.ofString ".") (Str.ofString "[!b]") tq t .none m' ∧ Fr g' L' h m' ∧ News g' L' h ((q, boundObj "list.append" l) :: (l, listOf #[] 0) :: (64, tabObj ps) :: news)) ?_ ?_)
  · clear hret
    k_fold
    k_steps
    rename_i Fz Nz
    exact ⟨rfl, _, _, _, _, _, rfl, ⟨rfl, rfl, rfl, rfl, rfl, rfl, rfl⟩, Fz, fun p hp => Nz p (.tail _ hp)⟩
  rintro _ _ ⟨rfl, h3, tk3, ti0, tn0, m3, rfl, ht0, F4, N4⟩
  clear F3 N3
  rw [tr7_map ht0] at F4
  clear ht0
  show wpAny _ _ (execs _ _) _ _ _
  refine wpAny_execs_cons (While_inv (fun n m nw => (n = 1 ∧ m = _ ∧ nw = _) ∨ (n = 0 ∧ ∃ ti tn u k ps', tr7 4 4 ti tn q l (Str.ofString ".") (Str.ofString "[!b]") tq t .none m ∧ TabOk ps' ∧ nw = (q, boundObj "list.append" l) :: (l, listOf #[.str (Str.ofString "[^b]") u] k) :: (64, tabObj ps') :: news)) (n₀ := 1) F4 N4 (.inl ⟨rfl, rfl, rfl⟩) ?_ hE)
  clear F4 N4
  rintro n m4 nw h4 tk4 F5 N5 hJ
  rcases hJ with ⟨rfl, rfl, rfl⟩ | ⟨rfl, ti, tn, u, k, ps', ht, hps', rfl⟩
  · refine wpAny_cut (fun b s' => b = true ∧ ∃ tk, s' = { s with heap := h4, toks := tk }) ?_ ?_
    · clear hret
      k_fold
      k_steps
      exact ⟨rfl, _, rfl⟩
    rintro _ _ ⟨rfl, tk5, rfl⟩
    rw [if_pos rfl]
    k_fold
    clear hret
    refine wpAny_execs_cons (wpAny_cut (fun f s' => f = .next ∧ ∃ h tk u, s' = { s with heap := h, toks := tk } ∧ Fr g' L' h (fun z => if z = Str.ofString "c" then some (.str (Str.ofString "[") u) else mTR 0 4 ti0 tn0 q l (Str.ofString ".") (Str.ofString "[!b]") tq t .none m3 z) ∧ News g' L' h ((q, boundObj "list.append" l) :: (l, listOf #[] 0) :: (64, tabObj ps) :: news)) ?_ ?_)
    · k_fold
      k_steps
      exact ⟨rfl, _, _, _, rfl, by assumption, by assumption⟩
    rintro _ _ ⟨rfl, h5, tk6, u, rfl, F6, N6⟩
    clear F5 N5
    show wpAny _ _ (execs _ _) _ _ _
    refine wpAny_execs_cons (wpAny_cut (fun f s' => f = .next ∧ ∃ h tk m2 ti', s' = { s with heap := h, toks := tk } ∧ m2 (Str.ofString "c") = some (.str (Str.ofString "[") u) ∧ tr7 1 4 ti' tn0 q l (Str.ofString ".") (Str.ofString "[!b]") tq t .none m2 ∧ Fr g' L' h m2 ∧ News g' L' h ((q, boundObj "list.append" l) :: (l, listOf #[] 0) :: (64, tabObj ps) :: news)) ?_ ?_)
    · k_fold
      k_steps
      rename_i Fz _
      exact ⟨rfl, _, _, _, _, rfl, rfl, ⟨rfl, rfl, rfl, rfl, rfl, rfl, rfl⟩, Fz, by assumption⟩
    rintro _ _ ⟨rfl, h6, tk7, m2, ti2, rfl, hmc, ht2, F7, N7⟩
    clear F6 N6
    rw [tr7_map ht2, m_one hmc] at F7
    clear ht2 hmc
    show wpAny _ _ (execs _ _) _ _ _
    refine wpAny_execs_cons (wpAny_If (wpAny_cut (fun b s' => b = false ∧ ∃ tk, s' = { s with heap := h6, toks := tk }) ?_ ?_))
    · k_fold
      k_steps
      exact ⟨rfl, _, rfl⟩
    rintro _ _ ⟨rfl, tk8, rfl⟩
    rw [if_neg (by decide)]
    k_fold
    refine wpAny_execs_cons (wpAny_If (wpAny_cut (fun b s' => b = false ∧ ∃ tk, s' = { s with heap := h6, toks := tk }) ?_ ?_))
    · k_fold
      k_steps
      exact ⟨rfl, _, rfl⟩
    rintro _ _ ⟨rfl, tk9, rfl⟩
    rw [if_neg (by decide)]
    k_fold
    refine wpAny_execs_cons (wpAny_If (wpAny_cut (fun b s' => b = true ∧ ∃ tk, s' = { s with heap := h6, toks := tk }) ?_ ?_))
    · k_fold
      k_steps
      exact ⟨rfl, _, rfl⟩
    rintro _ _ ⟨rfl, tk10, rfl⟩
    rw [if_pos rfl]
    k_fold
    refine wpAny_execs_cons (wpAny_cut (fun f s' => f = .next ∧ ∃ h tk mj tj, s' = { s with heap := h, toks := tk } ∧ tr7 1 4 ti2 tn0 q l (Str.ofString ".") (Str.ofString "[!b]") tq t .none mj ∧ mj (Str.ofString "j") = some (.int 1 tj) ∧ Fr g' L' h mj ∧ News g' L' h ((q, boundObj "list.append" l) :: (l, listOf #[] 0) :: (64, tabObj ps) :: news)) ?_ ?_)
    · k_fold
      k_steps
      rename_i Fz _
      exact ⟨rfl, _, _, _, _, rfl, ⟨rfl, rfl, rfl, rfl, rfl, rfl, rfl⟩, rfl, Fz, by assumption⟩
    rintro _ _ ⟨rfl, h8, tk11, mj, tj, rfl, htj, hj, Fj, Nj⟩
    clear F7 N7
    rw [tr7_map htj, m_one hj] at Fj
    clear htj hj
    show wpAny _ _ (execs _ _) _ _ _
    refine wpAny_execs_cons (wpAny_cut (fun f s' => f = .next ∧ ∃ h tk mk tj, s' = { s with heap := h, toks := tk } ∧ tr7 1 4 ti2 tn0 q l (Str.ofString ".") (Str.ofString "[!b]") tq t .none mk ∧ mk (Str.ofString "j") = some (.int 2 tj) ∧ Fr g' L' h mk ∧ News g' L' h ((q, boundObj "list.append" l) :: (l, listOf #[] 0) :: (64, tabObj ps) :: news)) ?_ ?_)
    · k_fold
      k_steps
      rename_i Fz _
      exact ⟨rfl, _, _, _, _, rfl, ⟨rfl, rfl, rfl, rfl, rfl, rfl, rfl⟩, rfl, by assumption, by assumption⟩
    rintro _ _ ⟨rfl, h9, tk12, mk, tk0, rfl, htk, hk, Fk, Nk⟩
    clear Fj Nj
    rw [tr7_map htk, m_one hk] at Fk
    clear htk hk
    show wpAny _ _ (execs _ _) _ _ _
    refine wpAny_execs_cons (wpAny_cut (fun f s' => f = .next ∧ ∃ h tk mk tj, s' = { s with heap := h, toks := tk } ∧ tr7 1 4 ti2 tn0 q l (Str.ofString ".") (Str.ofString "[!b]") tq t .none mk ∧ mk (Str.ofString "j") = some (.int 2 tj) ∧ Fr g' L' h mk ∧ News g' L' h ((q, boundObj "list.append" l) :: (l, listOf #[] 0) :: (64, tabObj ps) :: news)) ?_ ?_)
    · k_fold
      k_steps
      exact ⟨rfl, _, _, _, _, rfl, ⟨rfl, rfl, rfl, rfl, rfl, rfl, rfl⟩, rfl, by assumption, by assumption⟩
    rintro _ _ ⟨rfl, h10, tk13, ml, tl0, rfl, htl, hl0, Fl, Nl⟩
    clear Fk Nk
    show wpAny _ _ (execs _ _) _ _ _
    refine wpAny_execs_cons (While_inv (fun n m nw => nw = _ ∧ ∃ (j : Int) (tj : Tok), (n, j) ∈ [(0, 3), (1, 2), (2, 1)] ∧ tr7 1 4 ti2 tn0 q l (Str.ofString ".") (Str.ofString "[!b]") tq t .none m ∧ m (Str.ofString "j") = some (.int j tj)) (n₀ := 1) Fl Nl ⟨rfl, 2, tl0, by decide, htl, hl0⟩ ?_ hE)
    clear Fl Nl htl hl0
    rintro n5 m5 nw h11 tk14 Fm Nm ⟨rfl, j, tj5, hnj, htm, hjm⟩
    rw [tr7_map htm, m_one hjm] at Fm
    clear htm hjm
    have hcase : (n5 = 0 ∧ j = 3) ∨ ((n5 = 1 ∧ j = 2) ∨ (n5 = 2 ∧ j = 1)) := by simpa using hnj
    clear hnj
    rcases hcase with ⟨rfl, rfl⟩ | hgo
    · refine wpAny_cut (fun b s' => b = false ∧ ∃ tk, s' = { s with heap := h11, toks := tk }) ?_ ?_
      · k_fold
        k_steps
        exact ⟨rfl, _, rfl⟩
      rintro _ _ ⟨rfl, tk15, rfl⟩
      rw [if_neg (by decide)]
      show wpAny _ _ (execs _ _) _ _ _
      refine wpAny_execs_cons (wpAny_If (wpAny_cut (fun b s' => b = false ∧ ∃ tk, s' = { s with heap := h11, toks := tk }) ?_ ?_))
      · k_fold
        k_steps
        exact ⟨rfl, _, rfl⟩
      rintro _ _ ⟨rfl, tk16, rfl⟩
      rw [if_neg (by decide)]
      k_fold
      refine wpAny_execs_cons (wpAny_cut (fun f s' => f = .next ∧ ∃ h tk mk tj u, s' = { s with heap := h, toks := tk } ∧ tr7 1 4 ti2 tn0 q l (Str.ofString ".") (Str.ofString "[!b]") tq t .none mk ∧ mk (Str.ofString "j") = some (.int 3 tj) ∧ mk (Str.ofString "stuff") = some (.str (Str.ofString "!b") u) ∧ Fr g' L' h mk ∧ News g' L' h ((q, boundObj "list.append" l) :: (l, listOf #[] 0) :: (64, tabObj ps) :: news)) ?_ ?_)
      · k_fold
        k_steps
        exact ⟨rfl, _, _, _, _, _, rfl, ⟨rfl, rfl, rfl, rfl, rfl, rfl, rfl⟩, rfl, rfl, by assumption, by assumption⟩
      rintro _ _ ⟨rfl, h12, tk17, mn, tjn, us, rfl, htn, hjn, hsn, Fn, Nn⟩
      clear Fm Nm
      rw [tr7_map htn, m_one hjn, m_one hsn] at Fn
      clear htn hjn hsn
      show wpAny _ _ (execs _ _) _ _ _
      refine wpAny_execs_cons (wpAny_cut (fun f s' => f = .next ∧ ∃ h tk mk tj u, s' = { s with heap := h, toks := tk } ∧ tr7 1 4 ti2 tn0 q l (Str.ofString ".") (Str.ofString "[!b]") tq t .none mk ∧ mk (Str.ofString "j") = some (.int 3 tj) ∧ mk (Str.ofString "stuff") = some (.str (Str.ofString "!b") u) ∧ Fr g' L' h mk ∧ News g' L' h ((q, boundObj "list.append" l) :: (l, listOf #[] 0) :: (64, tabObj ps) :: news)) ?_ ?_)
      · refine wpAny_If (wpAny_cut (fun b s' => b = true ∧ ∃ tk, s' = { s with heap := h12, toks := tk }) ?_ ?_)
        · k_fold
          k_steps
          exact ⟨by decide +kernel, _, rfl⟩
        rintro _ _ ⟨rfl, tk18, rfl⟩
        rw [if_pos rfl]
        k_fold
        k_steps
        refine repl0 (by decide +kernel) ?_
        k_steps
        exact ⟨rfl, _, _, _, _, _, rfl, ⟨rfl, rfl, rfl, rfl, rfl, rfl, rfl⟩, rfl, rfl, by assumption, by assumption⟩
      rintro _ _ ⟨rfl, h13, tk18, mo, tjo, uo, rfl, hto, hjo, hso, Fo, No⟩
      clear Fn Nn
      rw [tr7_map hto, m_one hjo, m_one hso] at Fo
      clear hto hjo hso
      show wpAny _ _ (execs _ _) _ _ _
      refine wpAny_execs_cons (wpAny_cut (fun f s' => f = .next ∧ ∃ h tk mk tj u ps', s' = { s with heap := h, toks := tk } ∧ tr7 1 4 ti2 tn0 q l (Str.ofString ".") (Str.ofString "[!b]") tq t .none mk ∧ mk (Str.ofString "j") = some (.int 3 tj) ∧ mk (Str.ofString "stuff") = some (.str (Str.ofString "!b") u) ∧ TabOk ps' ∧ Fr g' L' h mk ∧ News g' L' h ((q, boundObj "list.append" l) :: (l, listOf #[] 0) :: (64, tabObj ps') :: news)) ?_ ?_)
      · have C' : CodeHd g' 68 64 := codeHd_of_K X' (by rfl)
        rcases hps with rfl | ⟨c', rfl⟩
        · show wpAny _ _ (exec _ _) _ _ _
          k_fold
          repeat' (first | (k_unfold; (try dsimp only)) | ((fail_if_success (with_reducible show wpAny _ _ (getMethod (Value.ref _) _ _) _ _ _)); walk1) | ((fail_if_success (with_reducible show wpAny _ _ (getMethod (Value.ref _) _ _) _ _ _)); dsimp only; walk1))
          refine rx_get (X'.keeps Fo.keep) ?_
          k_steps
          refine kla_eval rfl (kla_nest Fo No T' C' rfl (.tail hq64 (.tail (hl _ (.head _)).symm (.head hn64))) trivial rfl rfl fun f c' oc vs' t' ct' h15 tk20 F15 N15 _ _ _ _ => ?_)
          k_steps
          refine rx_call (X'.keeps F15.keep) (N15 _ (.head _)).1 rfl (by first | exact .inl rfl | exact .inr rfl) fun u9 tk21 h16 hk9 => ?_
          have F16 := F15.keeps hk9
          have N16 := N15.grown hk9
          k_steps
          exact ⟨rfl, _, _, _, _, _, _, rfl, ⟨rfl, rfl, rfl, rfl, rfl, rfl, rfl⟩, rfl, rfl, .inr ⟨_, rfl⟩, by assumption, PyProof.Rows.News.tail' (PyProof.Rows.News.tail' (by assumption))⟩
        · show wpAny _ _ (exec _ _) _ _ _
          k_fold
          repeat' (first | (k_unfold; (try dsimp only)) | ((fail_if_success (with_reducible show wpAny _ _ (getMethod (Value.ref _) _ _) _ _ _)); walk1) | ((fail_if_success (with_reducible show wpAny _ _ (getMethod (Value.ref _) _ _) _ _ _)); dsimp only; walk1))
          refine rx_get (X'.keeps Fo.keep) ?_
          k_steps
          rename_i F15 N15 _
          refine rx_call (X'.keeps F15.keep) (N15 _ (.head _)).1 rfl (by first | exact .inl rfl | exact .inr rfl) fun u9 tk21 h16 hk9 => ?_
          have F16 := F15.keeps hk9
          have N16 := N15.grown hk9
          k_steps
          exact ⟨rfl, _, _, _, _, _, _, rfl, ⟨rfl, rfl, rfl, rfl, rfl, rfl, rfl⟩, rfl, rfl, .inr ⟨_, rfl⟩, by assumption, PyProof.Rows.News.tail' (by assumption)⟩
      rintro _ _ ⟨rfl, h14, tk19, mp, tjp, up, ps', rfl, htp, hjp, hsp, hps', Fp, Np⟩
      clear Fo No
      rw [tr7_map htp, m_one hjp, m_one hsp] at Fp
      clear htp hjp hsp
      show wpAny _ _ (execs _ _) _ _ _
      refine wpAny_execs_cons (wpAny_cut (fun f s' => f = .next ∧ ∃ h tk mk ti u, s' = { s with heap := h, toks := tk } ∧ tr7 4 4 ti tn0 q l (Str.ofString ".") (Str.ofString "[!b]") tq t .none mk ∧ mk (Str.ofString "stuff") = some (.str (Str.ofString "!b") u) ∧ Fr g' L' h mk ∧ News g' L' h ((q, boundObj "list.append" l) :: (l, listOf #[] 0) :: (64, tabObj ps') :: news)) ?_ ?_)
      · k_fold
        k_steps
        exact ⟨rfl, _, _, _, _, _, rfl, ⟨rfl, rfl, rfl, rfl, rfl, rfl, rfl⟩, rfl, by assumption, by assumption⟩
      rintro _ _ ⟨rfl, h17, tk22, mr, tir, ur, rfl, htr, hsr, Fr7, Nr7⟩
      clear Fp Np
      rw [tr7_map htr, m_one hsr] at Fr7
      clear htr hsr
      show wpAny _ _ (execs _ _) _ _ _
      refine wpAny_execs_cons (wpAny_cut (fun f s' => f = .next ∧ ∃ h tk mk ti u k, s' = { s with heap := h, toks := tk } ∧ tr7 4 4 ti tn0 q l (Str.ofString ".") (Str.ofString "[!b]") tq t .none mk ∧ Fr g' L' h mk ∧ News g' L' h ((q, boundObj "list.append" l) :: (l, listOf #[.str (Str.ofString "[^b]") u] k) :: (64, tabObj ps') :: news)) ?_ ?_)
      · k_fold
        repeat' (first | (k_unfold; (try dsimp only)) | ((fail_if_success (with_reducible show wpAny _ _ (callWith _ (Value.ref _) _ _ _) _ _ _)); walk1) | ((fail_if_success (with_reducible show wpAny _ _ (callWith _ (Value.ref _) _ _ _) _ _ _)); dsimp only; walk1))
        rename_i Fz Ny
        refine callWith_bound (l := l) (wpAny_cut (fun v s' => ∃ u h tk m', v = .str (Str.ofString "[^b]") u ∧ s' = { s with heap := h, toks := tk } ∧ tr7 4 4 tir tn0 q l (Str.ofString ".") (Str.ofString "[!b]") tq t .none m' ∧ Fr g' L' h m' ∧ News g' L' h ((q, boundObj "list.append" l) :: (l, listOf #[] 0) :: (64, tabObj ps') :: news)) ?_ ?_)
        · k_steps
          exact ⟨_, _, _, _, congrArg (fun z => Value.str z _) (by decide +kernel), rfl, ⟨rfl, rfl, rfl, rfl, rfl, rfl, rfl⟩, Fz, Ny⟩
        rintro _ _ ⟨u9, h19, tk24, m9, rfl, rfl, ht9, F8, N8⟩
        refine ⟨(N8 _ (.head _)).1, call_addK F8 N8 hql (fun p hp => by rcases List.mem_cons.mp hp with rfl | hp; exact hl (64, tabObj ps) (.head _); exact hl _ (.tail _ hp)) (by decide) fun h20 F9 N9 => ?_⟩
        rw [show (#[] : Array Value).push (.str (Str.ofString "[^b]") u9) = #[.str (Str.ofString "[^b]") u9] from rfl] at N9
        k_steps
        exact ⟨rfl, _, _, _, _, _, _, rfl, ht9, F9, N9⟩
      rintro _ _ ⟨rfl, h18, tk23, mt, tit, ut, kt, rfl, htt, Ft, Nt⟩
      iterate 8 (try (show wpAny _ _ (execs [] _) _ _ _; refine wpAny_execs_nil ?_))
      exact (WhileStep.intro Ft Nt (n' := 0) (by decide) (.inr ⟨rfl, tit, tn0, ut, kt, ps', htt, hps', rfl⟩))
    · rcases hgo with ⟨rfl, rfl⟩ | ⟨rfl, rfl⟩
      all_goals
        refine wpAny_cut (fun b s' => b = true ∧ ∃ tk, s' = { s with heap := h11, toks := tk }) ?_ ?_
        · k_fold
          k_steps
          exact ⟨rfl, _, rfl⟩
        rintro _ _ ⟨rfl, tk15, rfl⟩
        rw [if_pos rfl]
        k_fold
      · refine wpAny_execs_cons (wpAny_cut (fun f s' => f = .next ∧ ∃ h tk mk tj, s' = { s with heap := h, toks := tk } ∧ tr7 1 4 ti2 tn0 q l (Str.ofString ".") (Str.ofString "[!b]") tq t .none mk ∧ mk (Str.ofString "j") = some (.int 3 tj) ∧ Fr g' L' h mk ∧ News g' L' h ((q, boundObj "list.append" l) :: (l, listOf #[] 0) :: (64, tabObj ps) :: news)) ?_ ?_)
        · k_fold
          k_steps
          exact ⟨rfl, _, _, _, _, rfl, ⟨rfl, rfl, rfl, rfl, rfl, rfl, rfl⟩, rfl, by assumption, by assumption⟩
        rintro _ _ ⟨rfl, h12, tk16, mn, tn, rfl, htn, hn, Fn, Nn⟩
        show wpAny _ _ (execs [] _) _ _ _
        exact wpAny_execs_nil (WhileStep.intro Fn Nn (n' := 0) (by decide) ⟨rfl, 3, tn, by decide, htn, hn⟩)
      · refine wpAny_execs_cons (wpAny_cut (fun f s' => f = .next ∧ ∃ h tk mk tj, s' = { s with heap := h, toks := tk } ∧ tr7 1 4 ti2 tn0 q l (Str.ofString ".") (Str.ofString "[!b]") tq t .none mk ∧ mk (Str.ofString "j") = some (.int 2 tj) ∧ Fr g' L' h mk ∧ News g' L' h ((q, boundObj "list.append" l) :: (l, listOf #[] 0) :: (64, tabObj ps) :: news)) ?_ ?_)
        · k_fold
          k_steps
          exact ⟨rfl, _, _, _, _, rfl, ⟨rfl, rfl, rfl, rfl, rfl, rfl, rfl⟩, rfl, by assumption, by assumption⟩
        rintro _ _ ⟨rfl, h12, tk16, mn, tn, rfl, htn, hn, Fn, Nn⟩
        show wpAny _ _ (execs [] _) _ _ _
        exact wpAny_execs_nil (WhileStep.intro Fn Nn (n' := 1) (by decide) ⟨rfl, 2, tn, by decide, htn, hn⟩)
  · rw [tr7_map ht] at F5
    clear ht
    refine wpAny_cut (fun b s' => b = false ∧ ∃ tk, s' = { s with heap := h4, toks := tk }) ?_ ?_
    · clear hret
      k_fold
      k_steps
      exact ⟨rfl, _, rfl⟩
    rintro _ _ ⟨rfl, tk5, rfl⟩
    rw [if_neg (by decide)]
    show wpAny _ _ (execs _ _) _ _ _
    k_steps
    exact hret u k l ps' _ _ _ hps' F5 (PyProof.Rows.News.tail' N5)

end Mine
end

section
open PySem PySem.W PySem.Calls PyProof.Rows PyProof.Rows.LCg
set_option Elab.async false
set_option maxRecDepth 100000
set_option maxHeartbeats 2000000
namespace Mine
abbrev lc2 (elt : Expr) (x y : Str) (px py : Pos) (it1 it2 : Expr) (scope : Scope) (pos : Pos) : Expr := .ListComp elt [⟨.Name x px, it1, [], 0⟩, ⟨.Name y py, it2, [], 0⟩] scope pos
section
variable {prog : Program} {w : World} {A : Around} {R : Result → Shared → Prop} {s : Shared} {elt : Expr} {x y : Str} {px py : Pos} {it1 it2 : Expr} {scope : Scope} {pos : Pos} {it acc : Value} {env : Env}
theorem c2_turn1 : compTurn (lc2 elt x y px py it1 it2 scope pos) 1 it acc env = (standAt it2.pos >>= fun _ => pyNext it >>= fun r => match r with
      | none => pure (.done .next)
      | some v => letOwnedTupleGo (.Name y py) it v >>= fun _ => assign (.Name y py) env v >>= fun _ =>
        (eval elt env >>= fun x => call (.builtin "list.append") [acc, x] >>= fun _ => pure ()) >>= fun _ =>
          again (.compLoop (lc2 elt x y px py it1 it2 scope pos) 1 it acc env)) := by rfl
theorem c2_turn0 : compTurn (lc2 elt x y px py it1 it2 scope pos) 0 it acc env = (standAt it1.pos >>= fun _ => pyNext it >>= fun r => match r with
      | none => pure (.done .next)
      | some v => letOwnedTupleGo (.Name x px) it v >>= fun _ => assign (.Name x px) env v >>= fun _ =>
        eval it2 env >>= fun z => standAt it2.pos >>= fun _ => foldedSetIterable it2 env z >>= fun z => holding [z] (pyIter z) >>= fun i => runOwn (.compStart (lc2 elt x y px py it1 it2 scope pos) 1 i acc env) env >>= fun _ =>
          again (.compLoop (lc2 elt x y px py it1 it2 scope pos) 0 it acc env)) := by rfl
theorem c2_start1 (h0 : codeAny (model prog w) A (.compLoop (lc2 elt x y px py it1 it2 scope pos) 1 it acc env) R s)
    (h : wpAny (model prog w) A (pyIter it) (fun it' s' => codeAny (model prog w) A (.compLoop (lc2 elt x y px py it1 it2 scope pos) 1 it' acc env) R s') (notedBy (model prog w) A env fun x s' => R (.error x) s') s) :
    codeAny (model prog w) A (.compStart (lc2 elt x y px py it1 it2 scope pos) 1 it acc env) R s := by
  refine codeAny_of_tree ?_
  show wpAny _ _ ((compStart (lc2 elt x y px py it1 it2 scope pos) 1 it acc env).onRaise (fun x => do noteFrame x env; standAt theWindowsPlace)) _ _ s
  refine wpAny_notedAt ?_
  unfold compStart
  show wpAny _ _ (ask >>= _) _ _ s
  refine wpAny_bind (wpAny_askSetting (wpAny_ite ?_))
  split
  · first
      | exact wpAny_bind (wpAny_pure (wpAny_pure (And.intro rfl h0)))
      | exact wpAny_pure (And.intro rfl h0)
  · first
      | exact wpAny_bind (wpAny_rule (wpAny_bind (wpAny_standAt (wpAny_bind (wpAny_mono h (fun it' s' h' => wpAny_pure (And.intro rfl h')) fun _ _ x => x)))))
      | (refine wpAny_bind (wpAny_rule ?_); show wpAny _ _ (standAt it2.pos >>= _) _ _ s; exact wpAny_bind (wpAny_standAt (wpAny_bind (wpAny_mono h (fun it' s' h' => wpAny_pure (And.intro rfl h')) fun _ _ x => x))))
theorem c2_loop1 (I : Nat → Shared → Prop)
    (turn : ∀ n s, I n s → wpAny (model prog w) A (pyNext it) (fun r s₁ => match r with
      | none => R (.ok .next) s₁
      | some v => wpAny (model prog w) A (assign (.Name y py) env v) (fun _ s₂ => wpAny (model prog w) A (eval elt env) (fun x s₃ =>
          wpAny (model prog w) A (call (.builtin "list.append") [acc, x]) (fun _ s₄ => ∃ m, m < n ∧ I m s₄) (notedBy (model prog w) A env fun e s' => R (.error e) s') s₃)
          (notedBy (model prog w) A env fun e s' => R (.error e) s') s₂) (notedBy (model prog w) A env fun e s' => R (.error e) s') s₁) (notedBy (model prog w) A env fun e s' => R (.error e) s') s)
    (n : Nat) (h : I n s) : codeAny (model prog w) A (.compLoop (lc2 elt x y px py it1 it2 scope pos) 1 it acc env) R s := by
  refine codeAny_loop rfl I (fun n s hI => ?_) n h
  show wpAny _ A ((compTurn (lc2 elt x y px py it1 it2 scope pos) 1 it acc env).onRaise (fun x => do noteFrame x env; theTreesLotGoes x)) _ _ s
  refine wpAny_noted ?_
  rw [c2_turn1]
  refine wpAny_bind (wpAny_standAt (wpAny_bind (wpAny_mono (turn n s hI) (fun r s₁ h₁ => ?_) fun _ _ h' => h')))
  cases r with
  | none => exact wpAny_pure h₁
  | some v =>
    refine wpAny_bind (wpAny_of_eq (by rfl) ?_)
    refine wpAny_bind (wpAny_mono h₁ (fun _ s₂ h₂ => ?_) fun _ _ h' => h')
    exact wpAny_bind (wpAny_bind (wpAny_mono h₂ (fun x s₄ h₄ => wpAny_bind (wpAny_mono h₄ (fun _ s₅ h₅ => wpAny_pure (wpAny_pure ⟨rfl, h₅⟩)) fun _ _ h' => h')) fun _ _ h' => h'))
theorem c2_loop0 (I : Nat → Shared → Prop)
    (turn : ∀ n s, I n s → wpAny (model prog w) A (pyNext it) (fun r s₁ => match r with
      | none => R (.ok .next) s₁
      | some v => wpAny (model prog w) A (assign (.Name x px) env v) (fun _ s₂ => wpAny (model prog w) A (eval it2 env) (fun z s₃ =>
          wpAny (model prog w) A (pyIter z) (fun i s₄ => codeAny (model prog w) A (.compStart (lc2 elt x y px py it1 it2 scope pos) 1 i acc env) (fun r s₅ => match r with
              | .ok _ => ∃ m, m < n ∧ I m s₅
              | .error e => cameBackBy (model prog w) A env (notedBy (model prog w) A env fun e s' => R (.error e) s') e s₅) s₄) (notedBy (model prog w) A env fun e s' => R (.error e) s') s₃)
          (notedBy (model prog w) A env fun e s' => R (.error e) s') s₂) (notedBy (model prog w) A env fun e s' => R (.error e) s') s₁) (notedBy (model prog w) A env fun e s' => R (.error e) s') s)
    (n : Nat) (h : I n s) (hs : ∀ z, foldedSetIterable it2 env z = pure z := by intro _; rfl) : codeAny (model prog w) A (.compLoop (lc2 elt x y px py it1 it2 scope pos) 0 it acc env) R s := by
  refine codeAny_loop rfl I (fun n s hI => ?_) n h
  show wpAny _ A ((compTurn (lc2 elt x y px py it1 it2 scope pos) 0 it acc env).onRaise (fun x => do noteFrame x env; theTreesLotGoes x)) _ _ s
  refine wpAny_noted ?_
  rw [c2_turn0]
  refine wpAny_bind (wpAny_standAt (wpAny_bind (wpAny_mono (turn n s hI) (fun r s₁ h₁ => ?_) fun _ _ h' => h')))
  cases r with
  | none => exact wpAny_pure h₁
  | some v =>
    refine wpAny_bind (wpAny_of_eq (by rfl) ?_)
    refine wpAny_bind (wpAny_mono h₁ (fun _ s₂ h₂ => ?_) fun _ _ h' => h')
    refine wpAny_bind (wpAny_mono h₂ (fun z s₃ h₃ => ?_) fun _ _ h' => h')
    refine wpAny_bind (wpAny_standAt (wpAny_bind (wpAny_of_eq (hs z) (wpAny_bind (wpAny_holding (wpAny_mono h₃ (fun i s₄ h₄ => ?_) fun _ _ h' => h'))))))
    refine wpAny_bind (wpAny_runOwn (codeAny_mono h₄ fun r s₅ h₅ => ?_))
    cases r with
    | ok f => exact wpAny_pure ⟨rfl, h₅⟩
    | error e => exact h₅
/-- the inner clause over a list: its items go behind the list that is made -/
theorem c2_inner {J C D : Addr} {vs : Array Value} {ys : List Value} {m' : Str → Option Value} {cl : List (Str × Addr)} {env₀ : Env} {pe : Pos} {E : Value → Shared → Prop} (hh : A.handled = none) (hx : scope.names.lookup y = some .local) (hk : scope.kind = .function)
    (hC : s.heap.Ns C m') (hD : s.heap.get? D = some (lst ys)) (hJ : s.heap.IsList J vs) (hCD : C ≠ D) (hJC : J ≠ C) (hJD : J ≠ D) (hsz : ys.length + vs.size ≤ sizeLine) (hdbg : (y == ("__debug__" : Str)) = false)
    (k : ∀ h' tk m'', h'.Ns C m'' → h'.get? D = some (lst (ys ++ vs.toList)) → (∀ b o, b ≠ C → b ≠ D → s.heap.get? b = some o → h'.get? b = some o) → R (.ok .next) { s with heap := h', toks := tk }) :
    wpAny (model prog w) A (pyIter (.ref J)) (fun i s₁ => codeAny (model prog w) A (.compStart (lc2 (.Name y pe) x y px py it1 it2 scope pos) 1 i (.ref D) (compEnvC scope cl C env₀)) R s₁) E s := by
  refine wpAny_pyIter_list hJ ?_
  have hCl : C < s.heap.objs.size := hC.lt
  have hDl : D < s.heap.objs.size := Heap.lt_size hD
  have hJl : J < s.heap.objs.size := by obtain ⟨_, e, _⟩ := hJ; exact Heap.lt_size e
  have up : ∀ b o, s.heap.get? b = some o → (s.heap.push { cls := .type "list_iterator", data := .fields #[.ref J, .int 0 0] }).get? b = some o := fun b o e => Heap.get?_push_of_some _ e
  have hit : (s.heap.push { cls := .type "list_iterator", data := .fields #[.ref J, .int 0 0] }).IsListIter s.heap.objs.size J 0 := ⟨_, Heap.get?_push_size _ rfl, rfl, rfl⟩
  generalize hI : s.heap.objs.size = I at *
  generalize s.heap.push { cls := .type "list_iterator", data := .fields #[.ref J, .int 0 0] } = h1 at *
  have W := Walks.list (prog := prog) (w := w) hh I J (Nat.ne_of_lt hJl) vs
  have loop : codeAny (model prog w) A (.compLoop (lc2 (.Name y pe) x y px py it1 it2 scope pos) 1 (.ref I) (.ref D) (compEnvC scope cl C env₀)) R { s with heap := h1 } := by
    refine c2_loop1 (fun n s' => ∃ h' tk i m'', s' = { s with heap := h', toks := tk } ∧ i ≤ vs.size ∧ n = vs.size - i ∧ (h'.IsListIter I J i ∧ h'.IsList J vs) ∧ h'.Ns C m'' ∧ h'.get? D = some (lst (ys ++ vs.toList.take i)) ∧ (∀ b o, b ≠ C → b ≠ D → s.heap.get? b = some o → h'.get? b = some o)) ?_ vs.size
      ⟨h1, s.toks, 0, m', rfl, Nat.zero_le _, rfl, ⟨hit, hJ.at fun o e => up _ _ e⟩, hC.at' fun o e => up _ _ e, by simpa using up _ _ hD, fun b o _ _ e => up b o e⟩
    rintro n s' ⟨h', tk, i, m'', rfl, hi, rfl, hst, hC', hD', hkeep⟩
    by_cases hlt : i < vs.size
    · refine W.item i _ _ _ hlt hst fun v h₂ tk₂ hPv hst₂ hk₂ => ?_
      have nI : ∀ b, b < I → b ∉ [I] := fun b hb hm => absurd (List.mem_singleton.mp hm) (Nat.ne_of_lt hb)
      refine wpAny_assign_Name (wpAny_storeName_local (lookup_relabel_local hx) (hC'.at' fun o e => hk₂ _ o (nI _ hCl) e) (fun h₃ hn₃ hs₃ => ?_) (by simp [compEnvC, relabel, hk]))
      refine wpAny_Name (wpAny_loadName_local (v := v) (by simp [compEnvC, relabel, hk]) (lookup_relabel_local hx) hn₃ (by simp) ?_) hdbg
      have nC : I ≠ C := Nat.ne_of_gt hCl
      have nD : I ≠ D := Nat.ne_of_gt hDl
      have hD₃ : h₃.get? D = some (lst (ys ++ vs.toList.take i)) := hs₃.extBut _ _ (Ne.symm hCD) (hk₂ _ _ (nI _ hDl) hD')
      have hst₃ : h₃.IsListIter I J (i + 1) ∧ h₃.IsList J vs := ⟨hst₂.1.at fun o e => hs₃.extBut _ _ nC e, hst₂.2.at fun o e => hs₃.extBut _ _ hJC e⟩
      refine append_at (hsz := by show (ys ++ vs.toList.take i).toArray.size ≤ sizeLine; simp only [List.size_toArray, List.length_append, List.length_take, Array.length_toList]; omega) hD₃ fun h₅ hs₅ hD₅ => ?_
      refine ⟨vs.size - (i + 1), by omega, h₅, _, i + 1, _, rfl, hlt, rfl, ⟨hst₃.1.at fun o e => hs₅.extBut _ _ nD e, hst₃.2.at fun o e => hs₅.extBut _ _ hJD e⟩, hn₃.sameBut hs₅ hCD, ?_, fun b o h1 h2 e => hs₅.extBut _ _ h2 (hs₃.extBut _ _ h1 (hk₂ _ _ (nI _ (hI ▸ Heap.lt_size e)) (hkeep b o h1 h2 e)))⟩
      rw [hD₅]
      have hv : vs.toList[i]? = some v := by rw [Array.getElem?_toList]; exact hPv
      exact congrArg some ((lst_snoc _ v).trans (by rw [List.append_assoc, List.take_add_one, hv]; rfl))
    · obtain rfl : i = vs.size := Nat.le_antisymm hi (Nat.not_lt.mp hlt)
      refine W.done _ _ _ hst fun h₂ tk₂ hk₂ => ?_
      have nI : ∀ b, b < I → b ∉ [I] := fun b hb hm => absurd (List.mem_singleton.mp hm) (Nat.ne_of_lt hb)
      have hD2 := hk₂ _ _ (nI _ hDl) hD'
      rw [List.take_of_length_le (by simp)] at hD2
      exact k h₂ tk₂ m'' (hC'.at' fun o e => hk₂ _ o (nI _ hCl) e) hD2 fun b o h1 h2 e => hk₂ _ _ (nI _ (hI ▸ Heap.lt_size e)) (hkeep b o h1 h2 e)
  exact c2_start1 loop (wpAny_pyIter_listiter hit loop)
/-- what the outer clause's turn shows of its inner list -/
def C2Turn (h₀ : Heap) (L : Addr) (m : Str → Option Value) (s₁ : Shared) (led : List (Addr × Obj)) (I C D : Addr) (ys zs : List Value) (z : Value) (s₂ : Shared) : Prop :=
  ∃ J vs h' tk', z = .ref J ∧ s₂ = { s₁ with heap := h', toks := tk' } ∧ Fr h₀ L h' m ∧ News h₀ L h' led ∧ h'.IsList J vs ∧ J ≠ I ∧ J ≠ C ∧ J ≠ D ∧ ys ++ vs.toList = zs
theorem c2_block {t : Nat} {ax : Addr} {its : Array Value} {news : List (Addr × Obj)} {h₀ : Heap} {L : Addr} {m : Str → Option Value} {cl : List (Str × Addr)} {pe : Pos} {E : Value → Shared → Prop} {RR : Value → Addr → Result → Shared → Prop} (Y : Nat → List Value)
    (hh : A.handled = none) (hcell : ∀ y ∈ scope.names, y.2 ≠ .cell) (hkind : scope.kind = .function) (hx : scope.names.lookup x = some .local) (hy : scope.names.lookup y = some .local) (hdbg : (y == ("__debug__" : Str)) = false)
    (F : Fr h₀ L s.heap m) (N : News h₀ L s.heap news) (hS : SrcAt h₀ ax its news) (h0 : Y 0 = []) (hsz : ∀ i, i ≤ its.size → (Y i).length ≤ sizeLine)
    (turn : ∀ i v I oI C oC D m₂ h tk (E' : Value → Shared → Prop), i < its.size → its[i]? = some v → NsObj oC m₂ → m₂ x = some v → Fr h₀ L h m → News h₀ L h ((I, oI) :: (C, oC) :: (D, lst (Y i)) :: news) → Off3 I C D news → ((@Ne Nat I C) ∧ (@Ne Nat I D) ∧ (@Ne Nat C D)) →
      wpAny (model prog w) A (eval it2 (compEnvC scope cl C env)) (C2Turn h₀ L m { s with heap := h, toks := tk } ((I, oI) :: (C, oC) :: (D, lst (Y i)) :: news) I C D (Y i) (Y (i + 1))) E' { s with heap := h, toks := tk })
    (fin : ∀ D C h tk m', Fr h₀ L h m → News h₀ L h ((D, lst (Y its.size)) :: news) → h.Ns C m' → h₀.get? C = none → C ≠ L → D ≠ L → C ≠ D → (∀ p ∈ news, p.1 ≠ C) → (∀ p ∈ news, p.1 ≠ D) → RR (.ref D) C (.ok .next) { s with heap := h, toks := tk })
    (hs : ∀ z, foldedSetIterable it2 (compEnvC scope cl t env) z = pure z := by intro _; rfl) :
    wpAny (model prog w) A (pyIter (.ref ax)) (fun it s₂ => wpAny (model prog w) A (newList []) (fun acc s₃ => wpAny (model prog w) A (newFunctionEnv scope env.globals cl [] env.qual none .none (some env)) (fun cenv s₄ =>
      codeAny (model prog w) A (.compStart (lc2 (.Name y pe) x y px py it1 it2 scope pos) 0 it acc { cenv with scope := relabel scope env }) (RR acc cenv.locals) s₄) E s₃) E s₂) E s := by
  have hl := hS.list F.keep N
  have hlt : ax < s.heap.objs.size := by obtain ⟨_, e, _⟩ := hl; exact Heap.lt_size e
  refine wpAny_pyIter_list hl ?_
  have W := Walks.list (prog := prog) (w := w) hh s.heap.objs.size ax (Nat.ne_of_lt hlt) its
  refine wpAny_newObj_type (wpAny_newFunctionEnv hcell (by intro y hy; simp at hy) (fun h₁ hns₁ hsb₁ => ?_) hkind)
  dsimp only at hns₁ hsb₁ ⊢
  generalize hH1 : s.heap.push { cls := .type "list_iterator", data := .fields #[.ref ax, .int 0 0] } = H1 at hns₁ hsb₁ ⊢
  have hI1 : H1.IsListIter s.heap.objs.size ax 0 := ⟨_, hH1 ▸ Heap.get?_push_size _ rfl, rfl, rfl⟩
  have up1 : ∀ b o, s.heap.get? b = some o → H1.get? b = some o := fun b o e => hH1 ▸ Heap.get?_push_of_some _ e
  have hD : H1.objs.size = s.heap.objs.size + 1 := by rw [← hH1, Heap.size_push]
  generalize hH2 : H1.push { cls := .type "list", dict := none, data := .seq ([] : List Value).toArray } = H2 at hns₁ hsb₁ ⊢
  have hC : H2.objs.size = H1.objs.size + 1 := by rw [← hH2, Heap.size_push]
  have up2 : ∀ b o, H1.get? b = some o → H2.get? b = some o := fun b o e => hH2 ▸ Heap.get?_push_of_some _ e
  have up3 : ∀ b o, H2.get? b = some o → h₁.get? b = some o := fun b o e => hsb₁.extBut b o (Nat.ne_of_lt (Heap.lt_size e)) (Heap.get?_push_of_some _ e)
  have old : ∀ b o, s.heap.get? b = some o → h₁.get? b = some o := fun b o e => up3 _ _ (up2 _ _ (up1 _ _ e))
  have hacc : h₁.get? H1.objs.size = some (lst []) := up3 _ _ (hH2 ▸ Heap.get?_push_size _ rfl)
  have hIt : h₁.IsListIter s.heap.objs.size ax 0 := hI1.at fun o e => up3 _ _ (up2 _ _ e)
  have hLt : h₁.IsList ax its := hl.at fun o e => old _ _ e
  have fresh₀ : ∀ a, s.heap.objs.size ≤ a → h₀.get? a = none := fun a ha => by
    cases e : h₀.get? a with
    | none => rfl
    | some o' => exact absurd (Heap.lt_size (F.keep a o' e)) (Nat.not_lt.mpr ha)
  have hLlt : @LT.lt Nat _ L s.heap.objs.size := F.ns.lt
  have hlt' : @LT.lt Nat _ ax s.heap.objs.size := hlt
  generalize hI : s.heap.objs.size = I at *
  generalize hDg : H1.objs.size = D at *
  generalize hCg : H2.objs.size = C at *
  have nID : @Ne Nat I D := by omega
  have nIC : @Ne Nat I C := by omega
  have nCD : @Ne Nat C D := by omega
  have nCL : @Ne Nat C L := by omega
  have nDL : @Ne Nat D L := by omega
  have nLI : @Ne Nat L I := by omega
  have nDax : @Ne Nat ax D := by omega
  have nCax : @Ne Nat ax C := by omega
  have oldlt : ∀ p ∈ news, @LT.lt Nat _ p.1 I := fun p hp => hI ▸ Heap.lt_size (N p hp).1
  have off : Off3 I C D news := Off3.of fun p hp => ⟨Nat.ne_of_lt (oldlt p hp), (by have := oldlt p hp; omega : @Ne Nat p.1 C), (by have := oldlt p hp; omega : @Ne Nat p.1 D)⟩
  have hI₀ := fresh₀ I (Nat.le_refl _)
  have hC₀ := fresh₀ C (by omega)
  have hD₀ := fresh₀ D (by omega)
  have off3 := off.mem
  have loop : ∀ s₃ : Shared, s₃ = { s with heap := h₁, toks := s.toks + ([] : List (Str × Value)).length } →
      codeAny (model prog w) A (.compLoop (lc2 (.Name y pe) x y px py it1 it2 scope pos) 0 (.ref I) (.ref D) (compEnvC scope cl C env)) (RR (.ref D) C) s₃ := by
    rintro s₃ rfl
    refine c2_loop0 (fun n s' => ∃ h' tk i m'', s' = { s with heap := h', toks := tk } ∧ i ≤ its.size ∧ n = its.size - i ∧ (h'.IsListIter I ax i ∧ h'.IsList ax its) ∧ h'.Ns C m'' ∧ Fr h₀ L h' m ∧ News h₀ L h' ((D, lst (Y i)) :: news)) ?_ its.size
      ⟨h₁, _, 0, _, rfl, Nat.zero_le _, rfl, ⟨hIt, hLt⟩, hns₁, F.keeps old, fun p hp => ?_⟩ hs
    · rintro n s' ⟨h', tk, i, m'', rfl, hi, rfl, hst, hC', F', N'⟩
      have nI : ∀ b, @Ne Nat b I → b ∉ [I] := fun b hb hm => absurd (List.mem_singleton.mp hm) hb
      by_cases hlt : i < its.size
      · refine W.item i _ _ _ hlt hst fun v h₂ tk₂ hPv hst₂ hk₂ => ?_
        refine wpAny_assign_Name (wpAny_storeName_local (lookup_relabel_local hx) (hC'.at' fun o e => hk₂ _ o (nI _ (Ne.symm nIC)) e) (fun h₃ hn₃ hs₃ => ?_) (by simp [compEnvC, relabel, hkind]))
        obtain ⟨oI, heI, hrI⟩ : ∃ o, h₃.get? I = some o ∧ True := by obtain ⟨o, e, _⟩ := hst₂.1; exact ⟨o, hs₃.extBut _ _ nIC e, trivial⟩
        obtain ⟨oC, heC, hoC⟩ := ns_obj hn₃
        have hst₃ : h₃.IsListIter I ax (i + 1) ∧ h₃.IsList ax its := ⟨hst₂.1.at fun o e => hs₃.extBut _ _ nIC e, hst₂.2.at fun o e => hs₃.extBut _ _ nCax e⟩
        have F₃ : Fr h₀ L h₃ m := (fr_but F' hk₂ nLI hI₀).change hs₃ nCL hC₀
        have N₃ : News h₀ L h₃ ((I, oI) :: (C, oC) :: (D, lst (Y i)) :: news) := fun p hp => by
          rcases List.mem_cons.mp hp with rfl | hp
          · exact ⟨heI, Ne.symm nLI, hI₀⟩
          · rcases List.mem_cons.mp hp with rfl | hp
            · exact ⟨heC, nCL, hC₀⟩
            · have z := N' p hp
              have nb : p.1 ∉ [I] ∧ p.1 ≠ C := by
                rcases List.mem_cons.mp hp with rfl | hp
                · exact ⟨nI _ (Ne.symm nID), Ne.symm nCD⟩
                · exact ⟨nI _ (off3 p hp).1, (off3 p hp).2.1⟩
              exact ⟨hs₃.extBut _ _ nb.2 (hk₂ _ _ nb.1 z.1), z.2⟩
        refine wpAny_mono (turn i v I oI C oC D _ h₃ _ _ hlt hPv hoC (by simp) F₃ N₃ off ⟨nIC, nID, nCD⟩) (fun z s₄ h₄ => ?_) fun _ _ e => e
        obtain ⟨J, vs, h₄, tk₄, rfl, rfl, F₄, N₄, hJ, nJI, nJC, nJD, hY⟩ := h₄
        have zI := (N₄ (I, oI) (.head _)).1
        have zC := (N₄ (C, oC) (.tail _ (.head _))).1
        have zD := (N₄ (D, lst (Y i)) (.tail _ (.tail _ (.head _)))).1
        refine c2_inner (ys := Y i) (vs := vs) hh hy hkind (hoC.ns zC) zD hJ nCD nJC nJD ?_ hdbg fun h₅ tk₅ m₅ hC₅ hD₅ hk₅ => ?_
        · have := hsz (i + 1) hlt
          rw [← hY, List.length_append, Array.length_toList] at this
          exact this
        · rw [hY] at hD₅
          have eI : ∀ o, h₃.get? I = some o → h₅.get? I = some o := fun o e => hk₅ _ _ nIC nID (by rw [heI] at e; cases e; exact zI)
          have ax5 : ∀ o, h₃.get? ax = some o → h₅.get? ax = some o := fun o e => by
            rcases hS with ⟨o', e', _⟩ | ⟨o', hm', _⟩
            · have q := F₃.keep _ _ e'
              rw [q] at e; cases e
              exact hk₅ _ _ nCax nDax (F₄.keep _ _ e')
            · have q := (N₃ _ (.tail _ (.tail _ (.tail _ hm')))).1
              rw [q] at e; cases e
              exact hk₅ _ _ nCax nDax (N₄ _ (.tail _ (.tail _ (.tail _ hm')))).1
          refine ⟨its.size - (i + 1), by omega, h₅, tk₅, i + 1, m₅, rfl, hlt, rfl, ⟨hst₃.1.at eI, hst₃.2.at ax5⟩, hC₅, ⟨?_, fun b o e => hk₅ _ _ (fun q => by rw [q, hC₀] at e; cases e) (fun q => by rw [q, hD₀] at e; cases e) (F₄.keep _ _ e), F₄.above⟩, fun p hp => ?_⟩
          · exact F₄.ns.at' fun o e => hk₅ _ _ (Ne.symm nCL) (Ne.symm nDL) e
          · rcases List.mem_cons.mp hp with rfl | hp
            · exact ⟨hD₅, nDL, hD₀⟩
            · have z := N₄ p (.tail _ (.tail _ (.tail _ hp)))
              exact ⟨hk₅ _ _ (off3 p hp).2.1 (off3 p hp).2.2 z.1, z.2⟩
      · obtain rfl : i = its.size := Nat.le_antisymm hi (Nat.not_lt.mp hlt)
        refine W.done _ _ _ hst fun h₂ tk₂ hk₂ => ?_
        refine fin _ _ h₂ tk₂ m'' (fr_but F' hk₂ nLI hI₀) (news_but N' hk₂ fun p hp => ?_) (hC'.at' fun o e => hk₂ _ o (nI _ (Ne.symm nIC)) e) hC₀ nCL nDL nCD (fun p hp => (off3 p hp).2.1) (fun p hp => (off3 p hp).2.2)
        rcases List.mem_cons.mp hp with rfl | hp
        · exact Ne.symm nID
        · exact (off3 p hp).1
    · rcases List.mem_cons.mp hp with rfl | hp
      · exact ⟨by rw [h0]; exact hacc, nDL, hD₀⟩
      · exact ⟨old _ _ (N p hp).1, (N p hp).2⟩
  exact codeAny_compStart_list (loop _ rfl) (wpAny_pyIter_listiter hIt (loop _ rfl))
theorem Assign_c2 {h₀ : Heap} {L : Addr} {m : Str → Option Value} {cl : List (Str × Addr)} {pe pt spos : Pos} {t : Str} {E : Value → Shared → Prop} {Q : Flow → Shared → Prop} (hLe : env.locals = L)
    (hsw : swapsWith (lc2 (.Name y pe) x y px py it1 it2 scope pos) (some (.Name t pt)) spos.line env = pure true)
    (hclos : closureFor scope env = pure cl) (hcell : ∀ z ∈ scope.names, z.2 ≠ .cell) (hkind : scope.kind = .function)
    (hnames : ∀ z ∈ scope.names, z.2 = .local → scope.names.lookup z.1 = some .local) (hx : scope.names.lookup x = some .local) (hy : scope.names.lookup y = some .local) (hdbg : (y == ("__debug__" : Str)) = false)
    (ht : env.kindOf t = some .local) (hp : (env.scope.kind == .class || (env.scope.kind == .module && env.locals != env.globals)) = false)
    (h : wpAny (model prog w) A (eval it1 env) (fun xv s₁ => ∃ (ax : Addr) (its : Array Value) (news : List (Addr × Obj)) (Y : Nat → List Value), xv = .ref ax ∧ A.handled = none ∧ Fr h₀ L s₁.heap m ∧ News h₀ L s₁.heap news ∧ SrcAt h₀ ax its news ∧ Y 0 = [] ∧ (∀ i, i ≤ its.size → (Y i).length ≤ sizeLine) ∧
      (∀ i v I oI C oC D m₂ h tk (E' : Value → Shared → Prop), i < its.size → its[i]? = some v → NsObj oC m₂ → m₂ x = some v → Fr h₀ L h m → News h₀ L h ((I, oI) :: (C, oC) :: (D, lst (Y i)) :: news) → Off3 I C D news → ((@Ne Nat I C) ∧ (@Ne Nat I D) ∧ (@Ne Nat C D)) →
        wpAny (model prog w) A (eval it2 (compEnvC scope cl C env)) (C2Turn h₀ L m { s₁ with heap := h, toks := tk } ((I, oI) :: (C, oC) :: (D, lst (Y i)) :: news) I C D (Y i) (Y (i + 1))) E' { s₁ with heap := h, toks := tk }) ∧
      (∀ D h tk, Fr h₀ L h (fun z => if z = t then some (.ref D) else m z) → News h₀ L h ((D, lst (Y its.size)) :: news) → (∀ p ∈ news, p.1 ≠ D) → Q .next { s₁ with heap := h, toks := tk })) E s)
    (hs1 : ∀ z, foldedSetIterable it1 env z = pure z := by intro _; rfl) (hs2 : ∀ z, foldedSetIterable it2 (compEnvC scope cl 0 env) z = pure z := by intro _; rfl) :
    wpAny (model prog w) A (exec (.Assign [.Name t pt] (lc2 (.Name y pe) x y px py it1 it2 scope pos) spos) env) Q E s := by
  subst hLe
  rw [exec_Assign_Name_used _ _ _ _ hsw]
  refine wpAny_bind (wpAny_standAt (wpAny_bind ?_))
  show wpAny _ A (do let _ ← comprehension (lc2 (.Name y pe) x y px py it1 it2 scope pos) scope env _ (newList []) false (eval it1 env) (some (assign (.Name t pt) env))) _ _ s
  refine wpAny_bind (wpAny_mono (wpAny_comprehension_free (use := some (assign (.Name t pt) env)) (Q := fun _ s' => Q .next s') rfl hs1 hclos hkind hnames
    (wpAny_mono h (fun xv s₁ h₁ => ?_) fun _ _ e => e)) (fun _ s' hq => wpAny_pure (wpAny_pure hq)) fun _ _ e => e)
  obtain ⟨ax, its, news, Y, rfl, hh, F, N, hS, h0, hsz, turn, fin⟩ := h₁
  refine c2_block (t := 0) Y hh hcell hkind hx hy hdbg F N hS h0 hsz turn ?_ hs2
  intro D C h' tk m' F' N' hn hC₀ hCL hDL hCD offC offD
  show wpAny _ A (assign (.Name t pt) env (.ref D)) _ _ _
  refine wpAny_assign_Name (wpAny_storeName_local ht F'.ns (fun h₂ hn₂ hs₂ => ?_) hp)
  have hL₀ : h₀.get? env.locals = none := Heap.get?_none_of_le F'.above
  have F₂ : Fr h₀ env.locals h₂ (fun z => if z = t then some (.ref D) else m z) := ⟨hn₂, fun b o e => hs₂.extBut b o (fun q => by rw [q, hL₀] at e; cases e) (F'.keep b o e), F'.above⟩
  refine ⟨m', hn.sameBut hs₂ hCL, fun h'' hs'' => fin D h'' _ (F₂.change hs'' hCL hC₀) (fun p hp => ?_) offD⟩
  have z : h₂.get? p.1 = some p.2 := hs₂.extBut _ _ (N' p hp).2.1 (N' p hp).1
  refine ⟨hs''.extBut _ _ ?_ z, (N' p hp).2⟩
  rcases List.mem_cons.mp hp with rfl | hp
  · exact Ne.symm hCD
  · exact offC p hp
end
end Mine
end

section
open PySem PySem.W PySem.Calls PyProof.Rows PyProof.Rows.LCg
set_option Elab.async false
set_option maxRecDepth 100000
set_option maxHeartbeats 2000000
namespace Mine
section
variable {prog : Program} {w : World} {A : Around} {s : Shared} {elt iter : Expr} {a b : Str} {pa pb tp : Pos} {kk : Nat} {scope : Scope} {pos : Pos} {env : Env}
theorem zc_block {z TI TO i1 i2 l1 l2 : Addr} {xs ys : Array Value} {news : List (Addr × Obj)} {h₀ : Heap} {L : Addr} {m : Str → Option Value} {cl : List (Str × Addr)} {E : Value → Shared → Prop} {RR : Value → Addr → Result → Shared → Prop} (J : Nat → List Value → Prop)
    (hh : A.handled = none) (hcell : ∀ y ∈ scope.names, y.2 ≠ .cell) (hkind : scope.kind = .function) (ha : scope.names.lookup a = some .local) (hb : scope.names.lookup b = some .local)
    (F : Fr h₀ L s.heap m) (N : News h₀ L s.heap news) (Dz : ZipApart z TI TO i1 i2 l1 l2)
    (Z : IsZip s.heap z TI TO .none ∧ IsPair s.heap TI (.ref i1) (.ref i2) ∧ (∃ a b, IsPair s.heap TO a b) ∧ s.heap.IsListIter i1 l1 0 ∧ s.heap.IsListIter i2 l2 0 ∧ s.heap.IsList l1 xs ∧ s.heap.IsList l2 ys)
    (nw : ∀ c ∈ [z, TI, TO, i1, i2], @Ne Nat c L ∧ h₀.get? c = none ∧ ∀ p ∈ news, p.1 ≠ c) (nl : ∀ c ∈ [l1, l2], @Ne Nat c L)
    (hS1 : SrcAt h₀ l1 xs news) (hS2 : SrcAt h₀ l2 ys news) (hsame : xs.size = ys.size) (hsz : xs.size ≤ sizeLine) (h0 : J 0 []) (hJl : ∀ i l, J i l → l.length = i)
    (turn : ∀ i acc vx vy oz oTI oTO o1 o2 C oC D m₂ h tk (E' : Value → Shared → Prop), i < xs.size → xs[i]? = some vx → ys[i]? = some vy → J i acc → NsObj oC m₂ → m₂ a = some vx → m₂ b = some vy → Fr h₀ L h m →
      News h₀ L h ((C, oC) :: (D, lst acc) :: (z, oz) :: (TI, oTI) :: (TO, oTO) :: (i1, o1) :: (i2, o2) :: news) →
      wpAny (model prog w) A (eval elt (compEnvC scope cl C env)) (fun y s' => Cut (ValEnd h₀ L m { s with heap := h, toks := tk } ((C, oC) :: (D, lst acc) :: (z, oz) :: (TI, oTI) :: (TO, oTO) :: (i1, o1) :: (i2, o2) :: news) (fun y => J (i + 1) (acc ++ [y])) y s')) E' { s with heap := h, toks := tk })
    (fin : ∀ D C h tk m' acc, J xs.size acc → Fr h₀ L h m → News h₀ L h ((D, lst acc) :: news) → h.Ns C m' → h₀.get? C = none → C ≠ L → D ≠ L → C ≠ D → (∀ p ∈ news, p.1 ≠ C) → (∀ p ∈ news, p.1 ≠ D) → RR (.ref D) C (.ok .next) { s with heap := h, toks := tk }) (hab : a ≠ b) :
    wpAny (model prog w) A (pyIter (.ref z)) (fun it s₂ => wpAny (model prog w) A (newList []) (fun acc s₃ => wpAny (model prog w) A (newFunctionEnv scope env.globals cl [] env.qual none .none (some env)) (fun cenv s₄ =>
      codeAny (model prog w) A (.compStart (.ListComp elt [⟨.Tuple [.Name a pa, .Name b pb] kk tp, iter, [], 0⟩] scope pos) 0 it acc { cenv with scope := relabel scope env }) (RR acc cenv.locals) s₄) E s₃) E s₂) E s := by
  obtain ⟨hz, hTI, ⟨ta, tb, hTO⟩, hi1, hi2, hl1, hl2⟩ := Z
  refine wpAny_pyIter_zip hz ?_
  refine wpAny_newObj_type (wpAny_newFunctionEnv hcell (by intro y hy; simp at hy) (fun h₁ hns₁ hsb₁ => ?_) hkind)
  dsimp only at hns₁ hsb₁ ⊢
  generalize hH2 : s.heap.push { cls := .type "list", dict := none, data := .seq ([] : List Value).toArray } = H2 at hns₁ hsb₁ ⊢
  have hC : H2.objs.size = s.heap.objs.size + 1 := by rw [← hH2, Heap.size_push]
  have up2 : ∀ b o, s.heap.get? b = some o → H2.get? b = some o := fun b o e => hH2 ▸ Heap.get?_push_of_some _ e
  have up3 : ∀ b o, H2.get? b = some o → h₁.get? b = some o := fun b o e => hsb₁.extBut b o (Nat.ne_of_lt (Heap.lt_size e)) (Heap.get?_push_of_some _ e)
  have old : ∀ b o, s.heap.get? b = some o → h₁.get? b = some o := fun b o e => up3 _ _ (up2 _ _ e)
  have hacc : h₁.get? s.heap.objs.size = some (lst []) := up3 _ _ (hH2 ▸ Heap.get?_push_size _ rfl)
  have fresh₀ : ∀ a, s.heap.objs.size ≤ a → h₀.get? a = none := fun a ha => by
    cases e : h₀.get? a with
    | none => rfl
    | some o' => exact absurd (Heap.lt_size (F.keep a o' e)) (Nat.not_lt.mpr ha)
  have hLlt : @LT.lt Nat _ L s.heap.objs.size := F.ns.lt
  have zl : @LT.lt Nat _ z s.heap.objs.size := Heap.lt_size hz
  have TIl : @LT.lt Nat _ TI s.heap.objs.size := Heap.lt_size hTI
  have TOl : @LT.lt Nat _ TO s.heap.objs.size := Heap.lt_size hTO
  have i1l : @LT.lt Nat _ i1 s.heap.objs.size := by obtain ⟨_, e, _⟩ := hi1; exact Heap.lt_size e
  have i2l : @LT.lt Nat _ i2 s.heap.objs.size := by obtain ⟨_, e, _⟩ := hi2; exact Heap.lt_size e
  have l1l : @LT.lt Nat _ l1 s.heap.objs.size := by obtain ⟨_, e, _⟩ := hl1; exact Heap.lt_size e
  have l2l : @LT.lt Nat _ l2 s.heap.objs.size := by obtain ⟨_, e, _⟩ := hl2; exact Heap.lt_size e
  have oldlt : ∀ p ∈ news, @LT.lt Nat _ p.1 s.heap.objs.size := fun p hp => Heap.lt_size (N p hp).1
  generalize hDg : s.heap.objs.size = D at *
  generalize hCg : H2.objs.size = C at *
  have nCD : @Ne Nat C D := by omega
  have nCL : @Ne Nat C L := by omega
  have nDL : @Ne Nat D L := by omega
  have hC₀ := fresh₀ C (by omega)
  have hD₀ := fresh₀ D (by omega)
  have nz := nw z (by simp)
  have nTI := nw TI (by simp)
  have nTO := nw TO (by simp)
  have n1 := nw i1 (by simp)
  have n2 := nw i2 (by simp)
  have nl1 := nl l1 (by simp)
  have nl2 := nl l2 (by simp)
  have lC : ∀ c, @LT.lt Nat _ c D → @Ne Nat c C := fun c hc => by omega
  have lD : ∀ c, @LT.lt Nat _ c D → @Ne Nat c D := fun c hc => by omega
  have loop : ∀ s₃ : Shared, s₃ = { s with heap := h₁, toks := s.toks + ([] : List (Str × Value)).length } →
      codeAny (model prog w) A (.compLoop (.ListComp elt [⟨.Tuple [.Name a pa, .Name b pb] kk tp, iter, [], 0⟩] scope pos) 0 (.ref z) (.ref D) (compEnvC scope cl C env)) (RR (.ref D) C) s₃ := by
    rintro s₃ rfl
    refine kcp_loop (fun n s' => ∃ h' tk i m'' acc, s' = { s with heap := h', toks := tk } ∧ i ≤ xs.size ∧ n = xs.size - i ∧ J i acc ∧ (IsZip h' z TI TO .none ∧ IsPair h' TI (.ref i1) (.ref i2) ∧ (∃ a b, IsPair h' TO a b) ∧ h'.IsListIter i1 l1 i ∧ h'.IsListIter i2 l2 i ∧ h'.IsList l1 xs ∧ h'.IsList l2 ys) ∧
      h'.Ns C m'' ∧ Fr h₀ L h' m ∧ News h₀ L h' ((D, lst acc) :: news)) ?_ xs.size
      ⟨h₁, _, 0, _, [], rfl, Nat.zero_le _, rfl, h0, ⟨old _ _ hz, old _ _ hTI, ⟨ta, tb, old _ _ hTO⟩, hi1.at fun o e => old _ _ e, hi2.at fun o e => old _ _ e, hl1.at fun o e => old _ _ e, hl2.at fun o e => old _ _ e⟩, hns₁, F.keeps old, fun p hp => ?_⟩
    · rintro n s' ⟨h', tk, i, m'', acc, rfl, hi, rfl, hJ, ⟨hz', hTI', ⟨ta', tb', hTO'⟩, hi1', hi2', hl1', hl2'⟩, hC', F', N'⟩
      by_cases hlt : i < xs.size
      · have hx : xs[i]? = some xs[i] := by simp [hlt]
        have hy : ys[i]? = some ys[i] := by simp [hsame ▸ hlt]
        generalize xs[i] = vx at hx
        generalize ys[i] = vy at hy
        refine wpAny_pyNext_zip_item Dz hz' hTI' hTO' hi1' hi2' hl1' hl2' hx hy fun h2 z1 z2 z3 z4 z5 _ keep2 => ?_
        refine wpAny_letOwnedTupleGo_zip z1 fun h3 hz3 hs3 => ?_
        have Tz : h'.objs.size ≠ z := Nat.ne_of_gt (Heap.lt_size hz')
        have C2 : ∀ o, h'.get? C = some o → h3.get? C = some o := fun o e => hs3.extBut _ _ (lC _ zl).symm (keep2 _ _ (lC _ zl).symm (lC _ TOl).symm (lC _ i1l).symm (lC _ i2l).symm e)
        refine kcp_assign hh (x := vx) (y := vy) ⟨_, hs3.extBut _ _ Tz z5, rfl, _, rfl⟩ (lookup_relabel_local ha) (lookup_relabel_local hb) (by simp [compEnvC, relabel, hkind]) (hC'.at' C2) fun h4 tk4 hn4 keep4 => ?_
        have hn4' : h4.Ns C (fun z => if z = b then some vy else if z = a then some vx else m'' z) := hn4
        have k4 : ∀ c o, c ≠ C → h3.get? c = some o → h4.get? c = some o := keep4
        have all : ∀ c o, c ≠ z → c ≠ TO → c ≠ i1 → c ≠ i2 → c ≠ C → h'.get? c = some o → h4.get? c = some o := fun c o a1 a2 a3 a4 a5 e => k4 _ _ a5 (hs3.extBut _ _ a1 (keep2 _ _ a1 a2 a3 a4 e))
        have hz4 : IsZip h4 z TI TO .none := k4 _ _ (lC _ zl) hz3
        have hTO4 : IsPair h4 TO vx vy := k4 _ _ (lC _ TOl) (hs3.extBut _ _ Dz.TOz z2)
        have hTI4 : IsPair h4 TI (.ref i1) (.ref i2) := all _ _ Dz.TIz Dz.TITO Dz.TIi1 Dz.TIi2 (lC _ TIl) hTI'
        have hi14 : h4.IsListIter i1 l1 (i + 1) := z3.at fun o e => k4 _ _ (lC _ i1l) (hs3.extBut _ _ Dz.i1z e)
        have hi24 : h4.IsListIter i2 l2 (i + 1) := z4.at fun o e => k4 _ _ (lC _ i2l) (hs3.extBut _ _ Dz.i2z e)
        have hl14 : h4.IsList l1 xs := hl1'.at fun o e => all _ _ Dz.l1z Dz.l1TO Dz.l1i1 Dz.l1i2 (lC _ l1l) e
        have hl24 : h4.IsList l2 ys := hl2'.at fun o e => all _ _ Dz.l2z Dz.l2TO Dz.l2i1 Dz.l2i2 (lC _ l2l) e
        have F4 : Fr h₀ L h4 m := ⟨F'.ns.at' fun o e => all _ _ (Ne.symm nz.1) (Ne.symm nTO.1) (Ne.symm n1.1) (Ne.symm n2.1) (Ne.symm nCL) e,
          fun c o e => all _ _ (fun q => by rw [q, nz.2.1] at e; cases e) (fun q => by rw [q, nTO.2.1] at e; cases e) (fun q => by rw [q, n1.2.1] at e; cases e) (fun q => by rw [q, n2.2.1] at e; cases e) (fun q => by rw [q, hC₀] at e; cases e) (F'.keep _ _ e), F'.above⟩
        obtain ⟨oC, heC, hoC⟩ := ns_obj hn4'
        obtain ⟨o1, he1, r1⟩ := hi14
        obtain ⟨o2, he2, r2⟩ := hi24
        have hDz : D ≠ z ∧ D ≠ TO ∧ D ≠ i1 ∧ D ≠ i2 := ⟨(lD _ zl).symm, (lD _ TOl).symm, (lD _ i1l).symm, (lD _ i2l).symm⟩
        have N4 : News h₀ L h4 ((C, oC) :: (D, lst acc) :: (z, _) :: (TI, _) :: (TO, _) :: (i1, o1) :: (i2, o2) :: news) := fun p hp => by
          rcases List.mem_cons.mp hp with rfl | hp
          · exact ⟨heC, nCL, hC₀⟩
          rcases List.mem_cons.mp hp with rfl | hp
          · exact ⟨all _ _ hDz.1 hDz.2.1 hDz.2.2.1 hDz.2.2.2 (Ne.symm nCD) (N' _ (.head _)).1, nDL, hD₀⟩
          rcases List.mem_cons.mp hp with rfl | hp
          · exact ⟨hz4, nz.1, nz.2.1⟩
          rcases List.mem_cons.mp hp with rfl | hp
          · exact ⟨hTI4, nTI.1, nTI.2.1⟩
          rcases List.mem_cons.mp hp with rfl | hp
          · exact ⟨hTO4, nTO.1, nTO.2.1⟩
          rcases List.mem_cons.mp hp with rfl | hp
          · exact ⟨he1, n1.1, n1.2.1⟩
          rcases List.mem_cons.mp hp with rfl | hp
          · exact ⟨he2, n2.1, n2.2.1⟩
          · have z := N' p (.tail _ hp)
            exact ⟨all _ _ (nz.2.2 p hp) (nTO.2.2 p hp) (n1.2.2 p hp) (n2.2.2 p hp) (lC _ (oldlt p hp)) z.1, z.2⟩
        refine wpAny_mono (turn i acc vx vy _ _ _ o1 o2 C oC D _ h4 _ _ hlt hx hy hJ hoC (by rw [if_neg hab, if_pos rfl]) (by rw [if_pos rfl]) F4 N4) (fun y s₄ h₄ => ?_) fun _ _ e => e
        obtain ⟨h5, tk5, rfl, F5, N5, hJ5⟩ := h₄
        have zC := (N5 _ (.head _)).1
        have zD := (N5 _ (.tail _ (.head _))).1
        have zz := (N5 _ (.tail _ (.tail _ (.head _)))).1
        have zTI := (N5 _ (.tail _ (.tail _ (.tail _ (.head _))))).1
        have zTO := (N5 _ (.tail _ (.tail _ (.tail _ (.tail _ (.head _)))))).1
        have z1' := (N5 _ (.tail _ (.tail _ (.tail _ (.tail _ (.tail _ (.head _))))))).1
        have z2' := (N5 _ (.tail _ (.tail _ (.tail _ (.tail _ (.tail _ (.tail _ (.head _)))))))).1
        have N5' : ∀ p ∈ news, h5.get? p.1 = some p.2 := fun p hp => (N5 p (.tail _ (.tail _ (.tail _ (.tail _ (.tail _ (.tail _ (.tail _ hp)))))))).1
        have hlen : acc.length = i := hJl _ _ hJ
        refine append_at (hsz := by show acc.toArray.size ≤ sizeLine; rw [List.size_toArray, hlen]; omega) zD fun h6 hs6 hD6 => ?_
        have e6 : ∀ c o, c ≠ D → h5.get? c = some o → h6.get? c = some o := fun c o hc e => hs6.extBut _ _ hc e
        have N5n : News h₀ L h5 news := fun p hp => N5 p (.tail _ (.tail _ (.tail _ (.tail _ (.tail _ (.tail _ (.tail _ hp)))))))
        have hl15 := hS1.list F5.keep N5n
        have hl25 := hS2.list F5.keep N5n
        refine ⟨xs.size - (i + 1), by omega, h6, tk5, i + 1, _, acc ++ [y], rfl, hlt, rfl, hJ5, ⟨e6 _ _ hDz.1.symm zz, e6 _ _ (lD _ TIl) zTI, ⟨_, _, e6 _ _ hDz.2.1.symm zTO⟩, ⟨o1, e6 _ _ hDz.2.2.1.symm z1', r1⟩, ⟨o2, e6 _ _ hDz.2.2.2.symm z2', r2⟩, hl15.at fun o e => e6 _ _ (lD _ l1l) e, hl25.at fun o e => e6 _ _ (lD _ l2l) e⟩,
          (hoC.ns zC).sameBut hs6 nCD, F5.change hs6 nDL hD₀, fun p hp => ?_⟩
        rcases List.mem_cons.mp hp with rfl | hp
        · exact ⟨hD6.trans (congrArg some (by rw [← hlen] at *; exact lst_snoc acc y)), nDL, hD₀⟩
        · exact ⟨e6 _ _ (lD _ (oldlt p hp)) (N5' p hp), (N' p (.tail _ hp)).2⟩
      · obtain rfl : i = xs.size := Nat.le_antisymm hi (Nat.not_lt.mp hlt)
        refine wpAny_pyNext_zip_end hh Dz hz' hTI' hTO' hi1' hi2' hl1' hl2' (.inl (by simp)) fun h2 keep2 => ?_
        refine fin D C h2 _ m'' acc hJ ⟨F'.ns.at' fun o e => keep2 _ _ (Ne.symm nz.1) (Ne.symm nTO.1) (Ne.symm n1.1) (Ne.symm n2.1) e, fun c o e => keep2 _ _ (fun q => by rw [q, nz.2.1] at e; cases e) (fun q => by rw [q, nTO.2.1] at e; cases e) (fun q => by rw [q, n1.2.1] at e; cases e) (fun q => by rw [q, n2.2.1] at e; cases e) (F'.keep _ _ e), F'.above⟩ (fun p hp => ?_)
          (hC'.at' fun o e => keep2 _ _ (lC _ zl).symm (lC _ TOl).symm (lC _ i1l).symm (lC _ i2l).symm e) hC₀ nCL nDL nCD (fun p hp => lC _ (oldlt p hp)) (fun p hp => lD _ (oldlt p hp))
        rcases List.mem_cons.mp hp with rfl | hp
        · exact ⟨keep2 _ _ (lD _ zl).symm (lD _ TOl).symm (lD _ i1l).symm (lD _ i2l).symm (N' _ (.head _)).1, nDL, hD₀⟩
        · have z := N' p (.tail _ hp)
          exact ⟨keep2 _ _ (nz.2.2 p hp) (nTO.2.2 p hp) (n1.2.2 p hp) (n2.2.2 p hp) z.1, z.2⟩
    · rcases List.mem_cons.mp hp with rfl | hp
      · exact ⟨hacc, nDL, hD₀⟩
      · exact ⟨old _ _ (N p hp).1, (N p hp).2⟩
  exact codeAny_compStart_list (loop _ rfl) (wpAny_pyIter_zip (old _ _ hz) (loop _ rfl))
theorem Assign_zc {h₀ : Heap} {L : Addr} {m : Str → Option Value} {cl : List (Str × Addr)} {pt spos : Pos} {t : Str} {E : Value → Shared → Prop} {Q : Flow → Shared → Prop} (hLe : env.locals = L)
    (hsw : swapsWith (.ListComp elt [⟨.Tuple [.Name a pa, .Name b pb] kk tp, iter, [], 0⟩] scope pos) (some (.Name t pt)) spos.line env = pure true)
    (hclos : closureFor scope env = pure cl) (hcell : ∀ z ∈ scope.names, z.2 ≠ .cell) (hkind : scope.kind = .function)
    (hnames : ∀ z ∈ scope.names, z.2 = .local → scope.names.lookup z.1 = some .local) (ha : scope.names.lookup a = some .local) (hb : scope.names.lookup b = some .local) (hab : a ≠ b)
    (ht : env.kindOf t = some .local) (hp : (env.scope.kind == .class || (env.scope.kind == .module && env.locals != env.globals)) = false)
    (h : wpAny (model prog w) A (eval iter env) (fun xv s₁ => ∃ (z TI TO i1 i2 l1 l2 : Addr) (xs ys : Array Value) (news : List (Addr × Obj)) (J : Nat → List Value → Prop), xv = .ref z ∧ A.handled = none ∧ Fr h₀ L s₁.heap m ∧ News h₀ L s₁.heap news ∧ ZipApart z TI TO i1 i2 l1 l2 ∧
      (IsZip s₁.heap z TI TO .none ∧ IsPair s₁.heap TI (.ref i1) (.ref i2) ∧ (∃ a b, IsPair s₁.heap TO a b) ∧ s₁.heap.IsListIter i1 l1 0 ∧ s₁.heap.IsListIter i2 l2 0 ∧ s₁.heap.IsList l1 xs ∧ s₁.heap.IsList l2 ys) ∧
      (∀ c ∈ [z, TI, TO, i1, i2], @Ne Nat c L ∧ h₀.get? c = none ∧ ∀ p ∈ news, p.1 ≠ c) ∧ (∀ c ∈ [l1, l2], @Ne Nat c L) ∧ SrcAt h₀ l1 xs news ∧ SrcAt h₀ l2 ys news ∧ xs.size = ys.size ∧ xs.size ≤ sizeLine ∧ J 0 [] ∧ (∀ i l, J i l → l.length = i) ∧
      (∀ i acc vx vy oz oTI oTO o1 o2 C oC D m₂ h tk (E' : Value → Shared → Prop), i < xs.size → xs[i]? = some vx → ys[i]? = some vy → J i acc → NsObj oC m₂ → m₂ a = some vx → m₂ b = some vy → Fr h₀ L h m →
        News h₀ L h ((C, oC) :: (D, lst acc) :: (z, oz) :: (TI, oTI) :: (TO, oTO) :: (i1, o1) :: (i2, o2) :: news) →
        wpAny (model prog w) A (eval elt (compEnvC scope cl C env)) (fun y s' => Cut (ValEnd h₀ L m { s₁ with heap := h, toks := tk } ((C, oC) :: (D, lst acc) :: (z, oz) :: (TI, oTI) :: (TO, oTO) :: (i1, o1) :: (i2, o2) :: news) (fun y => J (i + 1) (acc ++ [y])) y s')) E' { s₁ with heap := h, toks := tk }) ∧
      (∀ D h tk acc, J xs.size acc → Fr h₀ L h (fun z => if z = t then some (.ref D) else m z) → News h₀ L h ((D, lst acc) :: news) → (∀ p ∈ news, p.1 ≠ D) → Q .next { s₁ with heap := h, toks := tk })) E s)
    (hs1 : ∀ z, foldedSetIterable iter env z = pure z := by intro _; rfl) :
    wpAny (model prog w) A (exec (.Assign [.Name t pt] (.ListComp elt [⟨.Tuple [.Name a pa, .Name b pb] kk tp, iter, [], 0⟩] scope pos) spos) env) Q E s := by
  subst hLe
  rw [exec_Assign_Name_used _ _ _ _ hsw]
  refine wpAny_bind (wpAny_standAt (wpAny_bind ?_))
  show wpAny _ A (do let _ ← comprehension (.ListComp elt [⟨.Tuple [.Name a pa, .Name b pb] kk tp, iter, [], 0⟩] scope pos) scope env _ (newList []) false (eval iter env) (some (assign (.Name t pt) env))) _ _ s
  refine wpAny_bind (wpAny_mono (wpAny_comprehension_free (use := some (assign (.Name t pt) env)) (Q := fun _ s' => Q .next s') rfl hs1 hclos hkind hnames
    (wpAny_mono h (fun xv s₁ h₁ => ?_) fun _ _ e => e)) (fun _ s' hq => wpAny_pure (wpAny_pure hq)) fun _ _ e => e)
  obtain ⟨z, TI, TO, i1, i2, l1, l2, xs, ys, news, J, rfl, hh, F, N, Dz, Z, nw, nl, hS1, hS2, hsame, hsz, h0, hJl, turn, fin⟩ := h₁
  refine zc_block J hh hcell hkind ha hb F N Dz Z nw nl hS1 hS2 hsame hsz h0 hJl turn ?_ hab
  intro D C h' tk m' acc hJ F' N' hn hC₀ hCL hDL hCD offC offD
  show wpAny _ A (assign (.Name t pt) env (.ref D)) _ _ _
  refine wpAny_assign_Name (wpAny_storeName_local ht F'.ns (fun h₂ hn₂ hs₂ => ?_) hp)
  have hL₀ : h₀.get? env.locals = none := Heap.get?_none_of_le F'.above
  have F₂ : Fr h₀ env.locals h₂ (fun z => if z = t then some (.ref D) else m z) := ⟨hn₂, fun b o e => hs₂.extBut b o (fun q => by rw [q, hL₀] at e; cases e) (F'.keep b o e), F'.above⟩
  refine ⟨m', hn.sameBut hs₂ hCL, fun h'' hs'' => fin D h'' _ acc hJ (F₂.change hs'' hCL hC₀) (fun p hp => ?_) offD⟩
  have z : h₂.get? p.1 = some p.2 := hs₂.extBut _ _ (N' p hp).2.1 (N' p hp).1
  refine ⟨hs''.extBut _ _ ?_ z, (N' p hp).2⟩
  rcases List.mem_cons.mp hp with rfl | hp
  · exact Ne.symm hCD
  · exact offC p hp
end
end Mine
end

section
open PySem PySem.W PySem.Calls PyProof.Rows
set_option Elab.async false
set_option maxRecDepth 100000
set_option maxHeartbeats 2000000
namespace Mine
section
variable {prog : Program} {w : World} {A : Around} {E : Value → Shared → Prop} {s : Shared} {env : Env}
theorem cIsOr {x : Expr} {rest : List Expr} {pos : Pos} {whole : Sem Value} {Q : Bool → Shared → Prop}
    (h : wpC (model prog w) A (isTrue x env (eval x env)) (fun c s' => if c then Q true s' else wpC (model prog w) A (isTrue (.BoolOp .Or rest pos) env whole) Q E s') E s) :
    wpC (model prog w) A (isTrue (.BoolOp .Or (x :: rest) pos) env whole) Q E s := by
  show wpC _ A (isTrue x env (eval x env) >>= fun c => match BoolOp.Or, c with
    | .And, false => pure false
    | .Or, true => pure true
    | _, _ => allTrue .Or rest env) Q E s
  refine cBind (cMono h (fun c s' h' => ?_) fun _ _ x => x)
  cases c with
  | true => exact cPure h'
  | false => exact h'
theorem cIsOrNil {pos : Pos} {whole : Sem Value} {Q : Bool → Shared → Prop} (h : Q false s) : wpC (model prog w) A (isTrue (.BoolOp .Or [] pos) env whole) Q E s := cPure (a := false) h
theorem cIsCmp {l r : Expr} {op : CmpOp} {pos : Pos} {whole : Sem Value} {Q : Bool → Shared → Prop}
    (h : wpC (model prog w) A (eval l env) (fun a s₁ => wpC (model prog w) A (eval r env) (fun b s₂ => wpAny (model prog w) A (compareOp op a b) (fun c s₃ => wpAny (model prog w) A (truthy c) Q E s₃) E s₂) E s₁) E s)
    (hm : behindInMarks op r = false := by with_unfolding_all rfl) : wpC (model prog w) A (isTrue (.Compare l [op] [r] pos) env whole) Q E s := by
  rw [isTrue_Compare1, markedBehindIn_of_false hm]
  refine cBind (cMono h (fun a s₁ h₁ => ?_) fun _ _ x => x)
  refine cBind (cHolding (cMono h₁ (fun b s₂ h₂ => ?_) fun _ _ x => x))
  refine cBind (cStandAt (cBind (cOf ?_)))
  refine wpAny_operate' (wpAny_mono h₂ (fun c s₃ h₃ => cHolding (cOf h₃)) fun _ _ x => x)
theorem cEvalAnd2 {e₁ e₂ : Expr} {pos : Pos} {Q : Value → Shared → Prop}
    (h : wpC (model prog w) A (eval e₁ env) (fun v s₁ => v = .bool true ∧ wpC (model prog w) A (eval e₂ env) Q E s₁) E s) :
    wpC (model prog w) A (eval (.BoolOp .And [e₁, e₂] pos) env) Q E s := by
  show wpC (model prog w) A (do
    let v ← eval e₁ env
    standAt pos
    let c ← holding [v] (truthy v)
    match BoolOp.And, c with
    | .And, false | .Or, true => pure v
    | _, _ => boolOp pos .And (eval e₂ env :: evalEach [] env)) Q E s
  refine cBind (cMono h (fun v s₁ h₁ => ?_) fun _ _ x => x)
  obtain ⟨rfl, h₁⟩ := h₁
  refine cBind (cStandAt (cBind (cHolding (cOf (wpAny_truthy_bool ?_)))))
  exact h₁
theorem cEvalList {elts : List Expr} {pos : Pos} {Q : Value → Shared → Prop}
    (h : wpC (model prog w) A (spliced (backTo pos (starEach elts env))) (fun vs s₁ => vs.length ≤ sizeLine ∧ Q (.ref s₁.heap.objs.size) { s₁ with heap := s₁.heap.push { cls := .type "list", data := .seq vs.toArray } }) E s) :
    wpC (model prog w) A (eval (.List elts pos) env) Q E s := by
  rw [arm_eval_List]
  exact cBind (cStandAt (cBind (cMono h (fun vs s₁ h₁ => cOf (wpAny_newObj_type h₁.2 (by show vs.toArray.size ≤ sizeLine; rw [List.size_toArray]; exact h₁.1))) fun _ _ x => x)))
end
end Mine
end

section
open PySem PySem.W PyProof.Rows
set_option Elab.async false
set_option maxRecDepth 100000
set_option maxHeartbeats 2000000
namespace Mine
inductive Cls (vs : List Value) (wd : Nat) : Nat → List Value → List (Addr × Obj) → Prop
  | nil : Cls vs wd 0 [] []
  | snoc {i : Nat} {ys : List Value} {nw : List (Addr × Obj)} (a : Addr) (k : Nat) (h : Cls vs wd i ys nw) : Cls vs wd (i + 1) (ys ++ [.ref a]) ((a, listOf ((vs.drop (i * wd)).take wd).toArray k) :: nw)
theorem pick_run {vs : List Value} {i wd : Nat} (h : i * wd + wd ≤ vs.length) : kms_pick vs.toArray.toList (some (0 + (i : Int) * wd)) (some (0 + (i : Int) * wd + wd)) = (vs.drop (i * wd)).take wd := by
  have e1 : (0 + (i : Int) * wd) = ((i * wd : Nat) : Int) := by push_cast; omega
  have e2 : (0 + (i : Int) * wd + wd) = ((i * wd + wd : Nat) : Int) := by push_cast; omega
  unfold kms_pick kms_lo kms_hi
  rw [e2, e1]
  have h1 : ¬ ((i * wd : Nat) : Int) < 0 := by omega
  have h2 : ¬ ((i * wd + wd : Nat) : Int) < 0 := by omega
  simp only [h1, h2, if_false, Int.toNat_natCast]
  rw [Nat.min_eq_left h, Nat.min_eq_left (Nat.le_trans (Nat.le_add_right _ _) h), Nat.add_sub_cancel_left]
theorem lcl (w : World) (r : Addr) (k0 : Nat) (vs : List Value) (hx : vs.length ≤ 100) (wd q : Nat) (h0 : 0 < wd) (hw : wd ≤ 100) (hq : q * wd = vs.length) (hq0 : 0 < vs.length) (tw : Tok) (news : List (Addr × Obj)) (hm : (r, listOf vs.toArray k0) ∈ news) : theLaw = theLaw → ConA w 93 2 news [.ref r, .int wd tw] fun _ _ h₀ L m Q _ s =>
    ∀ (ys : List Value) (nw : List (Addr × Obj)) (D : Addr) (h' : Heap) (tk' : Nat), Cls vs wd q ys nw → Fr h₀ L h' m → News h₀ L h' ((D, LCg.lst ys) :: (nw ++ news)) → Q (.ref D) { s with heap := h', toks := tk' } := by
  unfold ConA
  k_fill
  intro _
  intro loose mean mg mb dp un gd cn cs a ccd cl outer A₀ base h₀ L m s Q E B F X N T hk hd' hu hret
  refine wpAny_call ?_
  refine' code_defC ?k1 ?k2 ?k3 ?k4 ?k5 ?kA ?kF ?kK ?k6 ?k7 ?k8 ?k9 ?kB ?kD ?_ ?c2 ?c3 ?c4; (case kA => exact rfl); (case kF => exact rfl); (case kK => first | assumption | exact rfl); (case k1 => k_asm); (case k2 => k_asm); (case k3 => k_asm); (case k4 => k_asm); (case k5 => k_asm); (case k6 => k_is); (case k7 => k_is); (case k8 => ktr_room); (case k9 => exact BindsTo.of_eq rfl); (case kB => exact rfl); (case kD => decide +kernel); (case c2 => exact rfl); (case c3 => exact rfl); (case c4 => exact rfl)
  intro g' L' h' tk' cells' FG' F' N' Y' B' X' T' l1
  (try k_lt l1)
  k_cells Y'
  (try simp only [List.cons_append, List.nil_append] at N')
  rename_i oA oB dA dB
  have F0 : Fr g' L' h' (fun _ => none) := F'
  have dA' : oA.data = .cell (some (.int wd tw)) := dA
  have dB' : oB.data = .cell (some (.ref r)) := dB
  clear F' dA dB
  have hn1 : vs.toArray.size ≤ 1000 := by simp; omega
  have hsz := range_q h0 (n := vs.toArray.size) (by simp; exact hq.symm) (Nat.pos_of_ne_zero fun z => by subst z; omega)
  have hqn : q ≤ 1000 := Nat.le_trans (Nat.le_trans (Nat.le_mul_of_pos_right q h0) (Nat.le_of_eq hq)) (by simpa using hn1)
  have hsm := range_small hn1 h0 hw hsz hqn
  show wpAny _ _ (execs _ _) _ _ _
  refine wpAny_execs_cons (wpAny_Return_some ?_)
  refine ListComp_X (_F₀ := F0) (by with_unfolding_all rfl) (by decide) (by rfl) (by decide) (by rfl) ?_
  refine wpAny_cut (fun v s' => ∃ r h tk t u v', v = .ref r ∧ s' = { s with heap := h, toks := tk } ∧ IsRange h r 0 vs.toArray.size wd t u v' ∧ Fr g' L' h (fun _ => none) ∧ News g' L' h ((L' + 1 + 1, oA) :: (L' + 1, oB) :: news)) ?_ ?_
  · k_fold
    k_steps
    refine len_list (News.isList (by assumption : News g' L' _ ((L' + 1 + 1, oA) :: (L' + 1, oB) :: news)) (.tail _ (.tail _ hm))) (by omega) ?_
    k_steps
    exact ⟨_, _, _, _, _, _, rfl, rfl, by assumption, by assumption, by assumption⟩
  rintro _ _ ⟨r1, h1, tk1, t1, u1, v1, rfl, rfl, R1, F1, N1⟩
  refine CompSrcX.range rfl F1 N1 R1 hsm hsz (by rw [sizeLine_eq]; exact Nat.le_trans hqn (by decide)) fun g => ?_
  refine compRest_inv (fun i ys nw => ∃ nw', Cls vs wd i ys nw' ∧ nw = nw' ++ ((L' + 1 + 1, oA) :: (L' + 1, oB) :: news)) ⟨[], .nil, rfl⟩ ?_ ?_
  · rintro ys nw ⟨nw', hc, rfl⟩ D h2 tk2 F2 N2 o1
    show LeaveK _ _ _ _ _ _ _
    exact leaveK_ F2 N2 fun kF kN => hret _ _ _ _ _ hc kF fun p hp => by
      rcases List.mem_cons.mp hp with rfl | hp
      · exact kN _ (.head _)
      · rcases List.mem_append.mp hp with hp | hp
        · exact kN _ (.tail _ (List.mem_append_left _ hp))
        · exact kN _ (.tail _ (List.mem_append_right _ (.tail _ (.tail _ hp))))
  · clear hret F1 N1 R1 hsm hsz
    rintro i ys nw v I oI C oC D m₂ h2 tk2 E' hi ⟨nw', hc, rfl⟩ ⟨t3, rfl⟩ hC hx' F2 N2 off ne
    have N3 : News g' L' h2 ((I, oI) :: (C, oC) :: (D, LCg.lst ys) :: (L' + 1 + 1, oA) :: (L' + 1, oB) :: (nw' ++ news)) := fun p hp => N2 p (by
      simp only [List.mem_cons, List.mem_append] at hp ⊢
      rcases hp with h | h | h | h | h | h | h <;> simp [h])
    show wpAny _ _ (eval _ _) _ _ _
    k_fold
    repeat' (first | (k_unfold; (try dsimp only)) | ((fail_if_success (with_reducible show wpAny _ _ (subscriptTail _ _ (Value.ref _) _) _ _ _)); walk1) | ((fail_if_success (with_reducible show wpAny _ _ (subscriptTail _ _ (Value.ref _) _) _ _ _)); dsimp only; walk1))
    have hin : i * wd + wd ≤ vs.length := by
      have := Nat.mul_le_mul_right wd (Nat.succ_le_of_lt hi)
      rw [Nat.succ_mul, hq] at this; exact this
    with_unfolding_all refine' kms_slice_lit (zs := (vs.drop (i * wd)).take wd) F2 N3 (News.isList N3 (.tail _ (.tail _ (.tail _ (.tail _ (.tail _ (List.mem_append_right _ hm))))))) ?jp ?jq ?je ?_ ?js ?jt ?jz
    case jp => kmk_part
    case jq => kmk_part
    case je => exact pick_run hin
    case js => with_unfolding_all rfl
    case jt => kmk_pure
    case jz => rw [sizeLine_eq]; omega
    intro D9 h9 F9 N9 l9
    k_steps
    refine LCg.CompEnd.intro F9 N9 ((D9, listOf ((vs.drop (i * wd)).take wd).toArray 0) :: (nw' ++ ((L' + 1 + 1, oA) :: (L' + 1, oB) :: news))) (fun p hp => ?_) ?_ trivial ⟨_, .snoc D9 0 hc, rfl⟩
    · simp only [List.mem_cons, List.mem_append] at hp ⊢
      rcases hp with h | h | h | h | h | h | h | h <;> simp [h]
    · exact ⟨⟨Ne.symm (Nat.ne_of_lt (l9 (I, oI) (.head _))), Ne.symm (Nat.ne_of_lt (l9 (C, oC) (.tail _ (.head _)))), Ne.symm (Nat.ne_of_lt (l9 (D, LCg.lst ys) (.tail _ (.tail _ (.head _)))))⟩, off⟩

end Mine
end

section
open PySem PySem.W PyProof.Rows
set_option Elab.async false
set_option maxRecDepth 100000
namespace Mine
/- The law's body and scope, read off the row. -/
noncomputable def lawDef : Stmt := PySem.Challenge.pw_rx0034_01.main.body.getLastD (.Pass default)
noncomputable def bodyOf : Stmt → List Stmt
  | .FunctionDef _ _ b _ _ _ _ _ _ _ => b
  | _ => []
noncomputable def scopeOf : Stmt → Scope
  | .FunctionDef _ _ _ _ _ _ s _ _ _ => s
  | _ => default
noncomputable def lawScope : Scope := by
  refine' (?f : (K : Scope) → scopeOf lawDef = K → Scope) _ ?h
  case f => exact fun K _ => K
  case h => conv => lhs; whnf
noncomputable def lawB : List Stmt := by
  refine' (?f : (K : List Stmt) → bodyOf lawDef = K → List Stmt) _ ?h
  case f => exact fun K _ => K
  case h => conv => lhs; whnf
end Mine
end

section
open PySem PySem.W PyProof.Rows
set_option Elab.async false
set_option maxRecDepth 100000
set_option maxHeartbeats 2000000
namespace Mine
noncomputable abbrev lawEnv (L a : Addr) (ccd : Value) : Env := envX (Str.ofString "law") lawScope L a ccd []
theorem lw1 (w : World) (news : List (Addr × Obj)) (sc : Addr) (items : Array Value) (ns : List Int) : theLaw = theLaw →
  ∀ (loose : List Str) (mean : ExcName → Option Value) (mg mb : Str → Option Value) (dp un : Nat) (gd : Option (List Code)) (a : Addr) (ccd : Value) (g : Heap) (L : Addr) (s : Shared) (E : Value → Shared → Prop),
    Fr g L s.heap (fun y => if y = Str.ofString "script" then some (.ref sc) else none) → (hd0.heap_1 w.params).In g → News g L s.heap news → Top topProg loose mean mg mb g → g.IsList sc items → IntsAre items.toList ns → ns.length ≤ 63 →
    wpAny (model PySem.Challenge.rw_rx0034_01.row.prog w) (ktrTop dp un gd (Str.ofString "law") lawScope L a ccd [] []) (exec (lawB.getD 0 default) (lawEnv L a ccd)) (fun f s' => Cut (f = .next ∧ ∃ h tk D vs ds k, s' = { s with heap := h, toks := tk } ∧ List.length ds = 12 ∧ IntsAre vs ds ∧ Fr g L h (fun y => if y = Str.ofString "drawn" then some (.ref D) else if y = Str.ofString "script" then some (.ref sc) else none) ∧ News g L h ((D, listOf vs.toArray k) :: news))) E s := by
  k_fill
  intro _
  intro loose mean mg mb dp un gd a ccd g L s E F X N T hl hi hlen
  show wpAny _ _ (exec (Stmt.Assign _ _ _) _) _ _ _
  unfold lawEnv lawScope
  k_fold
  k_steps
  refine ⟨rfl, _, _, _, _, _, 0, rfl, ?_, by assumption, by assumption, fun p hp => ?_⟩
  · simp
    omega
  · have N9 := (by assumption : News g L _ (_ :: _ :: _ :: _ :: _ :: news))
    rcases List.mem_cons.mp hp with rfl | hp
    · exact N9 _ (.head _)
    · exact N9 p (.tail _ (.tail _ (.tail _ (.tail _ (.tail _ hp)))))
theorem len_succ {α : Type} {l : List α} {n : Nat} (h : l.length = n + 1) : ∃ a r, l = a :: r ∧ r.length = n := by
  cases l with
  | nil => cases h
  | cons a r => exact ⟨a, r, rfl, by simpa using h⟩
theorem ints4 {vs : List Value} {ls : List Int} {n : Nat} (h : IntsAre vs ls) (hl : ls.length = n + 4) : ∃ a b c d ta tb tc td l r, ls = a :: b :: c :: d :: l ∧ vs = .int a ta :: .int b tb :: .int c tc :: .int d td :: r ∧ l.length = n ∧ IntsAre r l := by
  obtain ⟨d0, l0, rfl, hl0⟩ := len_succ hl
  obtain ⟨t0, r0, rfl, h0⟩ := PyProof.Rows.IntsAre.cons_inv h
  obtain ⟨d1, l1, rfl, hl1⟩ := len_succ hl0
  obtain ⟨t1, r1, rfl, h1⟩ := PyProof.Rows.IntsAre.cons_inv h0
  obtain ⟨d2, l2, rfl, hl2⟩ := len_succ hl1
  obtain ⟨t2, r2, rfl, h2⟩ := PyProof.Rows.IntsAre.cons_inv h1
  obtain ⟨d3, l3, rfl, hl3⟩ := len_succ hl2
  obtain ⟨t3, r3, rfl, h3⟩ := PyProof.Rows.IntsAre.cons_inv h2
  exact ⟨_, _, _, _, _, _, _, _, _, _, rfl, rfl, hl3, h3⟩
theorem ints12 {vs : List Value} {ls : List Int} (h : IntsAre vs ls) (hl : ls.length = 12) : ∃ (d0 d1 d2 d3 d4 d5 d6 d7 d8 d9 d10 d11 : Int) (t0 t1 t2 t3 t4 t5 t6 t7 t8 t9 t10 t11 : Tok), ls = [d0, d1, d2, d3, d4, d5, d6, d7, d8, d9, d10, d11] ∧ vs = [.int d0 t0, .int d1 t1, .int d2 t2, .int d3 t3, .int d4 t4, .int d5 t5, .int d6 t6, .int d7 t7, .int d8 t8, .int d9 t9, .int d10 t10, .int d11 t11] := by
  obtain ⟨d0, d1, d2, d3, t0, t1, t2, t3, l, r, rfl, rfl, hl, h⟩ := ints4 (n := 8) h hl
  obtain ⟨d4, d5, d6, d7, t4, t5, t6, t7, l, r, rfl, rfl, hl, h⟩ := ints4 (n := 4) h hl
  obtain ⟨d8, d9, d10, d11, t8, t9, t10, t11, l, r, rfl, rfl, hl, h⟩ := ints4 (n := 0) h hl
  obtain rfl := List.eq_nil_of_length_eq_zero hl
  obtain rfl := PyProof.Rows.IntsAre.nil_inv h
  exact ⟨_, _, _, _, _, _, _, _, _, _, _, _, _, _, _, _, _, _, _, _, _, _, _, _, rfl, rfl⟩
theorem newIn {g h : Heap} {L : Addr} {m : Str → Option Value} {news : List (Addr × Obj)} (F : Fr g L h m) (N : News g L h news) {c : Addr} (hc : h.objs.size ≤ c) : @Ne Nat c L ∧ g.get? c = none ∧ ∀ p ∈ news, p.1 ≠ c := by
  refine ⟨Nat.ne_of_gt (Nat.lt_of_lt_of_le F.ns.lt hc), ?_, fun p hp => Nat.ne_of_lt (Nat.lt_of_lt_of_le (Heap.lt_size (N p hp).1) hc)⟩
  cases e : g.get? c with
  | none => rfl
  | some o => exact absurd (Heap.lt_size (F.keep _ _ e)) (Nat.not_lt.mpr hc)
theorem ints_get {vs : List Value} {ds : List Int} (h : IntsAre vs ds) {i : Nat} {v : Value} (hv : vs.toArray[i]? = some v) : ∃ d t, v = .int d t := by
  have hv' : vs[i]? = some v := by simpa using hv
  clear hv
  induction h generalizing i with
  | nil => simp at hv'
  | cons n t h ih =>
    cases i with
    | zero => simp at hv'; exact ⟨_, _, hv'.symm⟩
    | succ i => exact ih (by simpa using hv')
theorem ints_snoc {vs : List Value} {ds : List Int} (h : IntsAre vs ds) {d : Int} {t : Tok} : IntsAre (vs ++ [.int d t]) (ds ++ [d]) := by
  induction h with
  | nil => exact .cons d t .nil
  | cons n u h ih => exact .cons n u ih
theorem lw2 (w : World) (news : List (Addr × Obj)) (sc D : Addr) (vs : List Value) (ds : List Int) (k0 : Nat) (hv : IntsAre vs ds) (hlen : List.length ds = 12) (hm : (D, listOf vs.toArray k0) ∈ news) : theLaw = theLaw →
  ∀ (loose : List Str) (mean : ExcName → Option Value) (mg mb : Str → Option Value) (dp un : Nat) (gd : Option (List Code)) (a : Addr) (ccd : Value) (g : Heap) (L : Addr) (s : Shared) (E : Value → Shared → Prop),
    Fr g L s.heap (fun y => if y = Str.ofString "drawn" then some (.ref D) else if y = Str.ofString "script" then some (.ref sc) else none) → (hd0.heap_1 w.params).In g → News g L s.heap news → Top topProg loose mean mg mb g →
    wpAny (model PySem.Challenge.rw_rx0034_01.row.prog w) (ktrTop dp un gd (Str.ofString "law") lawScope L a ccd [] []) (exec (lawB.getD 1 default) (lawEnv L a ccd)) (fun f s' => Cut (f = .next ∧ ∃ h tk K vs ks k, s' = { s with heap := h, toks := tk } ∧ List.length ks = 12 ∧ (∀ k ∈ ks, k < 5) ∧ IntsAre vs (ks.map fun (k : Nat) => (k : Int)) ∧ Fr g L h (fun y => if y = Str.ofString "kinds" then some (.ref K) else if y = Str.ofString "drawn" then some (.ref D) else if y = Str.ofString "script" then some (.ref sc) else none) ∧ News g L h ((K, listOf vs.toArray k) :: news))) E s := by
  k_fill
  intro _
  intro loose mean mg mb dp un gd a ccd g L s E F X N T
  show wpAny _ _ (exec (Stmt.Assign _ _ _) _) _ _ _
  unfold lawEnv lawScope
  refine Assign_zc (h₀ := g) (L := L) (m := (fun y => if y = Str.ofString "drawn" then some (.ref D) else if y = Str.ofString "script" then some (.ref sc) else none)) rfl (by rfl) (by with_unfolding_all rfl) (by decide) rfl (by decide) rfl rfl (by decide) rfl rfl ?_
  refine wpAny_cut (fun v s' => ∃ (z TI TO i1 i2 l1 : Addr) (xs : List Value) (h : Heap) (tk : Nat), v = .ref z ∧ s' = { s with heap := h, toks := tk } ∧ ZipApart z TI TO i1 i2 l1 D ∧
    (IsZip h z TI TO .none ∧ IsPair h TI (.ref i1) (.ref i2) ∧ (∃ a b, IsPair h TO a b) ∧ h.IsListIter i1 l1 0 ∧ h.IsListIter i2 D 0 ∧ h.IsList l1 xs.toArray ∧ h.IsList D vs.toArray) ∧
    (∀ c ∈ [z, TI, TO, i1, i2], @Ne Nat c L ∧ g.get? c = none ∧ ∀ p ∈ (l1, listOf xs.toArray 0) :: news, p.1 ≠ c) ∧ @Ne Nat l1 L ∧ IntsAre xs [0, 2, 1, 3, 2, 4, 0, 3, 1, 2, 0, 4] ∧ Fr g L h (fun y => if y = Str.ofString "drawn" then some (.ref D) else if y = Str.ofString "script" then some (.ref sc) else none) ∧ News g L h ((l1, listOf xs.toArray 0) :: news)) ?_ ?_
  · k_fold
    k_steps
    have N9 := (by assumption : News g L _ ((_, listOf _ 0) :: news))
    have F9 := (by assumption : Fr g L _ (fun y => if y = Str.ofString "drawn" then some (.ref D) else if y = Str.ofString "script" then some (.ref sc) else none))
    refine call_zip_2 (News.isList N9 (.head _)) (News.isList N9 (.tail _ hm)) fun h' q1 q2 q3 q4 q5 q6 q7 => ?_
    k_steps
    refine ⟨_, _, _, _, _, _, [_, _, _, _, _, _, _, _, _, _, _, _], h', _, rfl, rfl, zipApart_new (Heap.lt_size (N9 _ (.head _)).1) (Heap.lt_size (N9 _ (.tail _ hm)).1), ⟨q1, q2, ⟨_, _, q3⟩, q4, q5, (News.isList N9 (.head _)).at fun o e => q7 _ _ e, (News.isList N9 (.tail _ hm)).at fun o e => q7 _ _ e⟩, fun c hc => newIn F9 N9 ?_, (N9 _ (.head _)).2.1, by repeat constructor, F9.keeps q7, N9.grown q7⟩
    simp only [List.mem_cons, List.not_mem_nil, or_false] at hc
    show _ ≤ _
    rcases hc with rfl | rfl | rfl | rfl | rfl
    · exact Nat.le_add_right _ 4
    · exact Nat.le_add_right _ 2
    · exact Nat.le_add_right _ 3
    · exact Nat.le_refl _
    · exact Nat.le_add_right _ 1
  rintro _ _ ⟨z, TI, TO, i1, i2, l1, xs, h1, tk1, rfl, rfl, Dz, Z, nw, nl1, hx, F1, N1⟩
  refine ⟨z, TI, TO, i1, i2, l1, D, _, _, _, (fun i l => ∃ ks : List Nat, ks.length = i ∧ (∀ k ∈ ks, k < 5) ∧ IntsAre l (ks.map fun (k : Nat) => (k : Int))), rfl, rfl, F1, N1, Dz, Z, nw, ?_, .inr ⟨_, .head _, rfl, _, rfl⟩, .inr ⟨_, .tail _ hm, rfl, _, rfl⟩, ?_, ?_, ⟨[], rfl, by simp, .nil⟩, ?_, ?_, ?_⟩
  · intro c hc
    simp only [List.mem_cons, List.not_mem_nil, or_false] at hc
    rcases hc with rfl | rfl
    · exact nl1
    · exact (N1 _ (.tail _ hm)).2.1
  · rw [List.size_toArray, List.size_toArray, hx.length, hv.length, hlen]; rfl
  · rw [List.size_toArray, hx.length]; decide
  · rintro i l ⟨ks, hk, _, hi⟩
    rw [hi.length, List.length_map, hk]
  · rintro i acc vx vy oz oTI oTO o1 o2 C oC D2 m₂ h2 tk2 E' hlt hvx hvy ⟨ks, hk, hk5, hi⟩ hC ha hb F2 N2
    obtain ⟨p, t1, rfl⟩ := ints_get hx hvx
    obtain ⟨q, t2, rfl⟩ := ints_get hv hvy
    show wpAny _ _ (eval _ _) _ _ _
    k_fold
    k_steps
    have e5 : (p + q).fmod 5 = (p + q) % 5 := Int.fmod_eq_emod_of_nonneg _ (by decide)
    have l5 := Int.emod_nonneg (p + q) (b := 5) (by decide)
    have u5 := Int.emod_lt_of_pos (p + q) (b := 5) (by decide)
    refine ⟨_, _, rfl, F2, N2, ks ++ [((p + q).fmod 5).toNat], by simp [hk], ?_, ?_⟩
    · intro k hk9
      rcases List.mem_append.mp hk9 with h | h
      · exact hk5 k h
      · rw [List.mem_singleton.mp h, e5]; omega
    · rw [List.map_append]
      have := ints_snoc hi (d := (((p + q).fmod 5).toNat : Int)) (t := tk2 + 1 + 1)
      rw [Int.toNat_of_nonneg (by rw [e5]; exact l5)] at this
      simpa [Int.toNat_of_nonneg (by rw [e5]; exact l5 : (0 : Int) ≤ (p + q).fmod 5)] using this
  · rintro K h2 tk2 acc ⟨ks, hk, hk5, hi⟩ F2 N2 _
    exact ⟨rfl, _, _, _, _, ks, _, rfl, by rw [hk, List.size_toArray, hx.length]; rfl, hk5, hi, F2, fun p hp => by
      rcases List.mem_cons.mp hp with rfl | hp
      · exact N2 _ (.head _)
      · exact N2 p (.tail _ (.tail _ hp))⟩

end Mine
end

section
open PySem PySem.W PyProof.Rows
set_option Elab.async false
set_option maxRecDepth 100000
set_option maxHeartbeats 2000000
namespace Mine
section
open PySem.Calls PyProof.Rows.LCg
variable {prog : Program} {w : World} {A : Around} {s : Shared} {h₀ : Heap} {L : Addr} {m : Str → Option Value} {env : Env}
theorem compRest_valS {S : List (Addr × Obj) → Prop} {elt : Expr} {x : Str} {scope : Scope} {cl : List (Str × Addr)} {P : Nat → Value → Prop} {Fin : List Value → List (Addr × Obj) → Prop} {n : Nat} {news : List (Addr × Obj)} (hS : S news) (J : Nat → List Value → Prop)
    (h0 : J 0 []) (fin : ∀ ys, J n ys → Fin ys news)
    (turn : ∀ i ys v I oI C oC D m₂ h tk (E' : Value → Shared → Prop), i < n → J i ys → P i v → NsObj oC m₂ → m₂ x = some v → Fr h₀ L h m → News h₀ L h ((I, oI) :: (C, oC) :: (D, lst ys) :: news) → Off3 I C D news → ((@Ne Nat I C) ∧ (@Ne Nat I D) ∧ (@Ne Nat C D)) →
      wpAny (model prog w) A (eval elt (compEnvC scope cl C env)) (fun y s' => Cut (ValEnd h₀ L m { s with heap := h, toks := tk } ((I, oI) :: (C, oC) :: (D, lst ys) :: news) (fun y => J (i + 1) (ys ++ [y])) y s')) E' { s with heap := h, toks := tk }) :
    CompRest prog w A h₀ L m env elt x scope cl s S P Fin n 0 [] news := by
  refine compRest_inv (fun i ys nw => nw = news ∧ J i ys) ⟨rfl, h0⟩ (fun ys nw ⟨e, hj⟩ => e ▸ fin ys hj) ?_
  rintro i ys nw v I oI C oC D m₂ h tk E' hi ⟨rfl, hj⟩ hP hC hx F N off ne
  refine wpAny_mono (turn i ys v I oI C oC D m₂ h tk E' hi hj hP hC hx F N off ne) (fun y s₂ hq => ?_) fun _ _ e => e
  obtain ⟨h', tk', rfl, F', N', hJ⟩ := hq
  exact CompEnd.intro F' N' _ (fun _ hp => hp) off hS ⟨rfl, hJ⟩
end
def Stop (P : Prop) : Prop := P
theorem stop_of {P : Prop} (h : Stop P) : P := h
local macro_rules | `(tactic| walk_at "eval ListComp") => `(tactic| refine stop_of ?_)
def sgn (k : Nat) : Nat := [97, 98, 63, 46, 45].getD k 0
theorem ints_at {vs : List Value} {ds : List Int} (h : IntsAre vs ds) {i : Nat} {v : Value} {d : Int} (hv : vs.toArray[i]? = some v) (hd : ds[i]? = some d) : ∃ t, v = .int d t := by
  have hv' : vs[i]? = some v := by simpa using hv
  clear hv
  induction h generalizing i with
  | nil => simp at hv'
  | cons n t h ih =>
    cases i with
    | zero => simp at hv' hd; exact ⟨_, by rw [← hv', hd]⟩
    | succ i => exact ih (by simpa using hd) (by simpa using hv')
theorem item_sgn {k : Nat} (h : k < 5) : Txt.item (Str.ofString "ab?.-") (k : Int) = ⟨#[sgn k]⟩ := by
  match k, h with
  | 0, _ => decide +kernel
  | 1, _ => decide +kernel
  | 2, _ => decide +kernel
  | 3, _ => decide +kernel
  | 4, _ => decide +kernel
theorem sum_ones (ks : List Nat) : (ks.map ((fun x : PySem.Str => x.length) ∘ fun k => ⟨#[sgn k]⟩)).sum + 0 = ks.length := by
  induction ks with
  | nil => rfl
  | cons k r ih => simp only [List.map_cons, List.sum_cons, List.length_cons, Function.comp] at ih ⊢; show 1 + _ + 0 = _; omega
theorem joinL_sgn (ks : List Nat) : joinL (ks.map fun k => ⟨#[sgn k]⟩) = ⟨(ks.map sgn).toArray⟩ := by
  unfold joinL
  congr 2
  induction ks with
  | nil => rfl
  | cons k r ih => simp only [List.map_cons, List.flatten_cons] at ih ⊢; rw [ih]; rfl
theorem newsTl {h₀ h : Heap} {L : Addr} {a : Addr × Obj} {r : List (Addr × Obj)} (N : News h₀ L h (a :: r)) : News h₀ L h r := fun p hp => N p (.tail _ hp)
theorem lw3 (w : World) (news : List (Addr × Obj)) (sc D K : Addr) (vs : List Value) (ks : List Nat) (k0 : Nat) (hv : IntsAre vs (ks.map fun (k : Nat) => (k : Int))) (hlen : List.length ks = 12) (h5 : ∀ k ∈ ks, k < 5) (hm : (K, listOf vs.toArray k0) ∈ news) : theLaw = theLaw →
  ∀ (loose : List Str) (mean : ExcName → Option Value) (mg mb : Str → Option Value) (dp un : Nat) (gd : Option (List Code)) (a : Addr) (ccd : Value) (g : Heap) (L : Addr) (s : Shared) (E : Value → Shared → Prop),
    Fr g L s.heap (fun y => if y = Str.ofString "kinds" then some (.ref K) else if y = Str.ofString "drawn" then some (.ref D) else if y = Str.ofString "script" then some (.ref sc) else none) → (hd0.heap_1 w.params).In g → News g L s.heap news → Top topProg loose mean mg mb g →
    wpAny (model PySem.Challenge.rw_rx0034_01.row.prog w) (ktrTop dp un gd (Str.ofString "law") lawScope L a ccd [] []) (exec (lawB.getD 2 default) (lawEnv L a ccd)) (fun f s' => Cut (f = .next ∧ ∃ h tk t, s' = { s with heap := h, toks := tk } ∧ Fr g L h (fun y => if y = Str.ofString "text" then some (.str ⟨(ks.map sgn).toArray⟩ t) else if y = Str.ofString "kinds" then some (.ref K) else if y = Str.ofString "drawn" then some (.ref D) else if y = Str.ofString "script" then some (.ref sc) else none) ∧ News g L h news)) E s := by
  k_fill
  intro _
  intro loose mean mg mb dp un gd a ccd g L s E F X N T
  show wpAny _ _ (exec (Stmt.Assign _ _ _) _) _ _ _
  unfold lawEnv lawScope
  k_fold
  k_steps
  show wpAny _ _ (eval _ _) _ _ _
  refine wpAny_cut (fun v s' => ∃ R h tk ys, v = .ref R ∧ s' = { s with heap := h, toks := tk } ∧ StrsAre ys (ks.map fun k => ⟨#[sgn k]⟩) ∧ Fr g L h (fun y => if y = Str.ofString "kinds" then some (.ref K) else if y = Str.ofString "drawn" then some (.ref D) else if y = Str.ofString "script" then some (.ref sc) else none) ∧ News g L h ((R, LCg.lst ys) :: news)) ?_ ?_
  · refine LCg.ListComp_U F (by with_unfolding_all rfl) (by decide) (by rfl) (by decide) (by rfl) ?_
    refine wpAny_cut (fun v s' => v = .ref K ∧ ∃ tk, s' = { s with toks := tk }) ?_ ?_
    · k_steps
      exact ⟨rfl, _, rfl⟩
    rintro _ _ ⟨rfl, tk1, rfl⟩
    refine LCg.CompSrc.ledger rfl F N hm (by rw [List.size_toArray, hv.length, List.length_map, hlen]; decide) fun h1 => ?_
    refine compRest_valS (.inr ⟨_, hm, rfl, _, rfl⟩) (fun i ys => StrsAre ys ((ks.take i).map fun k => ⟨#[sgn k]⟩)) .nil ?_ ?_
    · intro ys hys D2 h2 tk2 F2 N2 _
      rw [List.take_of_length_le (by rw [List.size_toArray, hv.length, List.length_map]; exact Nat.le_refl _)] at hys
      exact ⟨D2, h2, tk2, ys, rfl, rfl, hys, F2, N2⟩
    · rintro i ys v I oI C oC D2 m₂ h2 tk2 E' hi hys hvi hC hx' F2 N2 off ne
      have hik : i < ks.length := by rw [List.size_toArray, hv.length, List.length_map] at hi; exact hi
      obtain ⟨t0, rfl⟩ : ∃ t, v = .int ((ks[i] : Nat) : Int) t := ints_at (d := ((ks[i] : Nat) : Int)) hv hvi (by simp [hik])
      have hk5 := h5 ks[i] (List.getElem_mem hik)
      rw [List.take_add_one, List.getElem?_eq_getElem hik, List.map_append]
      generalize ks[i] = k at hk5 hx' ⊢
      show wpAny _ _ (eval _ _) _ _ _
      k_fold
      k_steps
      refine ⟨_, _, rfl, F2, N2, ?_⟩
      rw [item_sgn hk5]
      exact kct_snoc hys
  rintro _ _ ⟨R, h2, tk2, ys, rfl, rfl, hys, F2, N2⟩
  k_steps
  refine join_list (News.isList N2 (.head _)) (by simpa using hys) (by rw [show (Str.ofString "").length = 0 from by decide +kernel, List.map_map, List.length_map, hlen]; exact Nat.le_trans (Nat.le_of_eq (sum_ones ks)) (by rw [hlen]; decide)) fun tj kj => ?_
  rw [join_e, joinL_sgn]
  k_steps
  exact ⟨rfl, _, _, _, rfl, by assumption, newsTl (by assumption)⟩
def pieceK (k : Nat) : PySem.Str := [Str.ofString "a", Str.ofString "b", Str.ofString ".", Str.ofString "\\.", Str.ofString "\\-"].getD k PySem.Str.empty
theorem lw4 (w : World) (news : List (Addr × Obj)) (sc D K : Addr) (x : PySem.Str) (tx : Tok) (vs : List Value) (ks : List Nat) (k0 : Nat) (hv : IntsAre vs (ks.map fun (k : Nat) => (k : Int))) (hlen : List.length ks = 12) (h5 : ∀ k ∈ ks, k < 5) (hm : (K, listOf vs.toArray k0) ∈ news) : theLaw = theLaw →
  ∀ (loose : List Str) (mean : ExcName → Option Value) (mg mb : Str → Option Value) (dp un : Nat) (gd : Option (List Code)) (a : Addr) (ccd : Value) (g : Heap) (L : Addr) (s : Shared) (E : Value → Shared → Prop),
    Fr g L s.heap (fun y => if y = Str.ofString "text" then some (.str x tx) else if y = Str.ofString "kinds" then some (.ref K) else if y = Str.ofString "drawn" then some (.ref D) else if y = Str.ofString "script" then some (.ref sc) else none) → (hd0.heap_1 w.params).In g → News g L s.heap news → Top topProg loose mean mg mb g →
    wpAny (model PySem.Challenge.rw_rx0034_01.row.prog w) (ktrTop dp un gd (Str.ofString "law") lawScope L a ccd [] []) (exec (lawB.getD 3 default) (lawEnv L a ccd)) (fun f s' => Cut (f = .next ∧ ∃ h tk R ys, s' = { s with heap := h, toks := tk } ∧ StrsAre ys (ks.map pieceK) ∧ Fr g L h (fun y => if y = Str.ofString "pieces" then some (.ref R) else if y = Str.ofString "text" then some (.str x tx) else if y = Str.ofString "kinds" then some (.ref K) else if y = Str.ofString "drawn" then some (.ref D) else if y = Str.ofString "script" then some (.ref sc) else none) ∧ News g L h ((R, LCg.lst ys) :: news))) E s := by
  k_fill
  intro _
  intro loose mean mg mb dp un gd a ccd g L s E F X N T
  show wpAny _ _ (exec (Stmt.Assign _ _ _) _) _ _ _
  unfold lawEnv lawScope
  refine LCg.Assign_ListComp_U (L := L) F rfl (by rfl) (by with_unfolding_all rfl) (by decide) rfl (by decide) rfl rfl rfl ?_
  refine wpAny_cut (fun v s' => v = .ref K ∧ ∃ tk, s' = { s with toks := tk }) ?_ ?_
  · k_fold
    k_steps
    exact ⟨rfl, _, rfl⟩
  rintro _ _ ⟨rfl, tk1, rfl⟩
  refine LCg.CompSrc.ledger rfl F N hm (by rw [List.size_toArray, hv.length, List.length_map, hlen]; decide) fun h1 => ?_
  refine compRest_valS (.inr ⟨_, hm, rfl, _, rfl⟩) (fun i ys => StrsAre ys ((ks.take i).map pieceK)) .nil ?_ ?_
  · intro ys hys D2 h2 tk2 F2 N2 _
    rw [List.take_of_length_le (by rw [List.size_toArray, hv.length, List.length_map]; exact Nat.le_refl _)] at hys
    exact ⟨rfl, h2, tk2, D2, ys, rfl, hys, F2, N2⟩
  · rintro i ys v I oI C oC D2 m₂ h2 tk2 E' hi hys hvi hC hx' F2 N2 off ne
    have hik : i < ks.length := by rw [List.size_toArray, hv.length, List.length_map] at hi; exact hi
    obtain ⟨t0, rfl⟩ : ∃ t, v = .int ((ks[i] : Nat) : Int) t := ints_at (d := ((ks[i] : Nat) : Int)) hv hvi (by simp [hik])
    have hk5 := h5 ks[i] (List.getElem_mem hik)
    rw [List.take_add_one, List.getElem?_eq_getElem hik, List.map_append]
    generalize ks[i] = k at hk5 hx' ⊢
    show wpAny _ _ (eval _ _) _ _ _
    k_fold
    repeat' (first | (k_unfold; (try dsimp only)) | ((fail_if_success (with_reducible show wpAny _ _ (subscriptTail _ _ (Value.ref _) _) _ _ _)); walk1) | ((fail_if_success (with_reducible show wpAny _ _ (subscriptTail _ _ (Value.ref _) _) _ _ _)); dsimp only; walk1))
    have N7 := (by assumption : News g L _ ((_, listOf _ 0) :: (I, oI) :: (C, oC) :: (D2, LCg.lst ys) :: news))
    refine KTb.item_list (ws := [Str.ofString "a", Str.ofString "b", Str.ofString ".", Str.ofString "\\.", Str.ofString "\\-"]) (News.isList N7 (.head _)) (by repeat constructor) (Int.natCast_nonneg k) (by show (k : Int) < 5; omega) (by omega) fun t9 _ => ?_
    k_steps
    refine ⟨_, _, rfl, by assumption, newsTl N7, ?_⟩
    exact kct_snoc hys

end Mine
end

section
open PySem PySem.W PyProof.Rows
set_option Elab.async false
set_option maxRecDepth 100000
set_option maxHeartbeats 2000000
namespace Mine
noncomputable def fBody : List Stmt := match lawB.getD 4 default with
  | .For _ _ b _ _ => b
  | _ => []
theorem m_1 {x : Str} {u : Option Value} {m : Str → Option Value} (h : m x = u) : m = fun z => if z = x then u else m z := m_one h
theorem lfA (w : World) (news : List (Addr × Obj)) (x : PySem.Str) (tx tw : Tok) (wd q : Nat) (hx : x.cps.size ≤ 100) (h0 : 0 < wd) (hw : wd ≤ 100) (hq : q * wd = x.cps.size) (hq0 : 0 < x.cps.size) : theLaw = theLaw →
  ∀ (loose : List Str) (mean : ExcName → Option Value) (mg mb : Str → Option Value) (dp un : Nat) (gd : Option (List Code)) (a : Addr) (ccd : Value) (A₀ : Around) (base g : Heap) (L : Addr) (m : Str → Option Value) (s : Shared) (E : Value → Shared → Prop),
    Below A₀ base [] g → Fr g L s.heap m → (hd0.heap_1 w.params).In g → News g L s.heap news → Top topProg loose mean mg mb g → dp + 10 < recursionLimit → un + 100 < cLine → m (Str.ofString "text") = some (.str x tx) → m (Str.ofString "width") = some (.int wd tw) →
    wpAny (model PySem.Challenge.rw_rx0034_01.row.prog w) (ktrTop dp un gd (Str.ofString "law") lawScope L a ccd [] []) (exec (fBody.getD 0 default) (lawEnv L a ccd)) (fun f s' => f = .next ∧ ∃ h tk C cv, s' = { s with heap := h, toks := tk } ∧ StrsAre cv ((List.range q).map (cellS x wd)) ∧ Fr g L h (fun y => if y = Str.ofString "cells" then some (.ref C) else m y) ∧ News g L h ((C, LCg.lst cv) :: news)) E s := by
  k_fill
  intro _
  intro loose mean mg mb dp un gd a ccd A₀ base g L m s E B F X N T hd' hu hmt hmw
  show wpAny _ _ (exec (Stmt.Assign _ _ _) _) _ _ _
  have hM := (m_1 hmt).trans (congrArg (fun f => fun z => if z = Str.ofString "text" then some (Value.str x tx) else f z) (m_1 hmw))
  rw [hM] at F
  refine wpAny_cut (fun f s' => f = .next ∧ ∃ h tk C cv, s' = { s with heap := h, toks := tk } ∧ StrsAre cv ((List.range q).map (cellS x wd)) ∧ Fr g L h (fun y => if y = Str.ofString "cells" then some (.ref C) else m y) ∧ News g L h ((C, LCg.lst cv) :: news)) ?_ fun _ _ p => p
  unfold lawEnv lawScope
  have hcon : ∀ m2 nw (Q' E' : Value → Shared → Prop) s2, Fr g L s2.heap m2 → News g L s2.heap nw → (∀ (vs : List Value) (D : Addr) (h' : Heap) (tk' : Nat), StrsAre vs ((List.range q).map (cellS x wd)) → Fr g L h' m2 → News g L h' ((D, LCg.lst vs) :: nw) → Q' (.ref D) { s2 with heap := h', toks := tk' }) → wpAny (model PySem.Challenge.rw_rx0034_01.row.prog w) (ktrTop dp un gd (Str.ofString "law") lawScope L a ccd [] []) (call (.ref 93) [.str x tx, .int wd tw]) Q' E' s2 := by
    intro m2 nw Q' E' s2 F2 N2 hQ
    refine' lc w x hx wd q h0 hw hq hq0 tx tw nw rfl _ _ _ _ _ _ _ _ _ _ _ _ _ _ _ _ _ _ _ _ _ ?k1 ?k2 ?k3 ?k4 ?k5 ?_ ?_ ?_ ?_
    case k1 => exact B
    case k2 => exact F2
    case k3 => exact X
    case k4 => exact N2
    case k5 => exact T
    · exact rfl
    · exact Nat.lt_of_le_of_lt (Nat.add_le_add_left (by decide) dp) hd'
    · exact Nat.lt_of_le_of_lt (Nat.add_le_add_left (by decide) un) hu
    exact hQ
  clear B
  show wpAny _ _ (exec _ _) _ _ _
  k_fold
  k_steps
  refine hcon _ _ _ _ _ (by assumption) (by assumption) fun cv C h2 tk2 hcv F2 N2 => ?_
  k_steps
  refine ⟨rfl, _, _, C, cv, rfl, hcv, ?_, by assumption⟩
  rw [hM]
  assumption

end Mine
end

section
open PySem PySem.W PyProof.Rows
set_option Elab.async false
set_option maxRecDepth 100000
set_option maxHeartbeats 2000000
namespace Mine
theorem lfB (w : World) (news : List (Addr × Obj)) (x : PySem.Str) (tx tw : Tok) (wd q : Nat) (hx : x.cps.size ≤ 100) (hx2 : 2 ≤ x.cps.size) (hc : ∀ c ∈ x.cps.toList, c < 128) (h0 : 0 < wd) (hw : wd ≤ 100) (hq : q * wd = x.cps.size) (hB : ∀ c ∈ swapB x wd q, c.toNat < 128) : theLaw = theLaw →
  ∀ (loose : List Str) (mean : ExcName → Option Value) (mg mb : Str → Option Value) (dp un : Nat) (gd : Option (List Code)) (a : Addr) (ccd : Value) (A₀ : Around) (base g : Heap) (L : Addr) (m : Str → Option Value) (s : Shared) (E : Value → Shared → Prop),
    Below A₀ base [] g → Fr g L s.heap m → (hd0.heap_1 w.params).In g → News g L s.heap news → Top topProg loose mean mg mb g → dp + 10 < recursionLimit → un + 100 < cLine → m (Str.ofString "text") = some (.str x tx) → m (Str.ofString "width") = some (.int wd tw) →
    wpC (model PySem.Challenge.rw_rx0034_01.row.prog w) (ktrTop dp un gd (Str.ofString "law") lawScope L a ccd [] []) (exec (fBody.getD 1 default) (lawEnv L a ccd)) (fun f s' => f = .next ∧ ∃ h tk t, s' = { s with heap := h, toks := tk } ∧ Fr g L h (fun y => if y = Str.ofString "turned" then some (.str (swapS x wd q) t) else m y) ∧ News g L h news) E s := by
  k_fill
  intro _
  intro loose mean mg mb dp un gd a ccd A₀ base g L m s E B F X N T hd' hu hmt hmw
  show wpC _ _ (exec (Stmt.Assign _ _ _) _) _ _ _
  have hM := (m_1 hmt).trans (congrArg (fun f => fun z => if z = Str.ofString "text" then some (Value.str x tx) else f z) (m_1 hmw))
  rw [hM] at F
  unfold lawEnv lawScope
  refine cAssign rfl (cEvalCall (wpC_cut (fun v s' => v = .ref 83 ∧ ∃ tk, s' = { s with toks := tk }) ?_ ?_))
  · clear B
    k_fold
    k_steps
    exact ⟨rfl, _, rfl⟩
  rintro _ _ ⟨rfl, tk, rfl⟩
  refine cCallF (K := hd0.heap_1 w.params) rfl rfl rfl (cSplicedB rfl (wpC_cut (fun v s' => v = .str x tx ∧ ∃ tk, s' = { s with toks := tk }) ?_ ?_))
  · clear B
    k_fold
    k_steps
    exact ⟨rfl, _, rfl⟩
  rintro _ _ ⟨rfl, tk1, rfl⟩
  refine cSplicedB rfl (wpC_cut (fun v s' => v = .int wd tw ∧ ∃ tk, s' = { s with toks := tk }) ?_ ?_)
  · clear B
    k_fold
    k_steps
    exact ⟨rfl, _, rfl⟩
  rintro _ _ ⟨rfl, tk2, rfl⟩
  refine cSplicedNil ⟨X.keeps F.keep, ?_⟩
  refine' ls w x hx hx2 hc wd q h0 hw hq hB tx tw news rfl _ _ _ _ _ _ _ _ _ _ _ _ _ _ _ _ _ _ _ _ _ ?k1 ?k2 ?k3 ?k4 ?k5 ?_ ?_ ?_ ?_
  case k1 => exact B
  case k2 => exact F
  case k3 => exact X
  case k4 => exact N
  case k5 => exact T
  · exact rfl
  · exact Nat.lt_of_le_of_lt (Nat.add_le_add_left (by decide) dp) hd'
  · exact Nat.lt_of_le_of_lt (Nat.add_le_add_left (by decide) un) hu
  intro t3 h3 tk3 F3 N3
  refine wpAny_cut (fun _ s' => ∃ h tk, s' = { s with heap := h, toks := tk } ∧ Fr g L h (fun y => if y = Str.ofString "turned" then some (.str (swapS x wd q) t3) else m y) ∧ News g L h news) ?_ ?_
  · clear B
    k_fold
    k_steps
    refine ⟨_, _, rfl, ?_, by assumption⟩
    rw [hM]
    assumption
  rintro _ _ ⟨h4, tk4, rfl, F4, N4⟩
  exact ⟨rfl, _, _, t3, rfl, F4, N4⟩

end Mine
end

section
open PySem PySem.W PyProof.Rows
set_option Elab.async false
set_option maxRecDepth 100000
set_option maxHeartbeats 2000000
namespace Mine
def otherL (x : PySem.Str) : List UInt8 := x.cps.toList.map fun c => ((255 : Int) - (c : Nat)).toNat.toUInt8
def revS (x : PySem.Str) : PySem.Str := ⟨((List.range x.length).map fun k => x.cps.getD (x.length - 1 - k) 0).toArray⟩
theorem rev_eq (x : PySem.Str) (u : Tok) : Txt.sliceBy x none none (-1, u) = revS x := Str.ext' (Array.ext' (step_rev_list x u))
theorem revS_len (x : PySem.Str) : (revS x).length = x.length := by show (List.toArray _).size = _; simp
theorem revs_len (cs : List PySem.Str) : ((cs.map revS).map (·.length)).sum = (cs.map (·.length)).sum := by
  rw [List.map_map]; congr 1; exact List.map_congr_left fun x _ => revS_len x
theorem lm4 {m : Str → Option Value} {a b c d : Option Value} (h1 : m (Str.ofString "text") = a) (h2 : m (Str.ofString "width") = b) (h3 : m (Str.ofString "turned") = c) (h4 : m (Str.ofString "cells") = d) :
    m = fun z => if z = Str.ofString "text" then a else if z = Str.ofString "width" then b else if z = Str.ofString "turned" then c else if z = Str.ofString "cells" then d else m z := by
  funext z
  split
  · rename_i e; rw [e, h1]
  · split
    · rename_i e; rw [e, h2]
    · split
      · rename_i e; rw [e, h3]
      · split
        · rename_i e; rw [e, h4]
        · rfl
theorem len_le_sum {l : List PySem.Str} {i : Nat} (h : i < l.length) : l[i].length ≤ (l.map (·.length)).sum := by
  induction l generalizing i with
  | nil => cases h
  | cons a r ih =>
    rw [List.map_cons, List.sum_cons]
    cases i with
    | zero => exact Nat.le_add_right _ _
    | succ i => exact Nat.le_trans (ih (by simpa using h)) (Nat.le_add_left _ _)
local macro_rules | `(tactic| walk_at "eval ListComp") => `(tactic| refine stop_of ?_)
theorem lfC (w : World) (news : List (Addr × Obj)) (x y : PySem.Str) (tx tw ty : Tok) (wd q : Nat) (C : Addr) (cv : List Value) (cs : List PySem.Str) (hx : x.cps.size ≤ 100) (hy : y.cps.size = x.cps.size) (hx0 : 0 < x.cps.size) (hc : ∀ c ∈ x.cps.toList, c < 128) (hcy : ∀ c ∈ y.cps.toList, c < 128) (h0 : 0 < wd) (hw : wd ≤ 100) (hq : q * wd = x.cps.size)
    (hC : (C, LCg.lst cv) ∈ news) (hcv : StrsAre cv cs) (hcs : (cs.map (·.length)).sum ≤ 1000) (hcl : cs.length ≤ 100) (P1 : y = joinL (cs.map revS))
    (P2 : outerL (otherL y) wd (List.replicate (otherL y).length 0) q = otherL x) : theLaw = theLaw →
  ∀ (loose : List Str) (mean : ExcName → Option Value) (mg mb : Str → Option Value) (dp un : Nat) (gd : Option (List Code)) (a : Addr) (ccd : Value) (A₀ : Around) (base g : Heap) (L : Addr) (m : Str → Option Value) (s : Shared) (E : Value → Shared → Prop),
    Below A₀ base [] g → Fr g L s.heap m → (hd0.heap_1 w.params).In g → News g L s.heap news → Top topProg loose mean mg mb g → dp + 10 < recursionLimit → un + 100 < cLine → m (Str.ofString "text") = some (.str x tx) → m (Str.ofString "width") = some (.int wd tw) → m (Str.ofString "turned") = some (.str y ty) → m (Str.ofString "cells") = some (.ref C) →
    wpC (model PySem.Challenge.rw_rx0034_01.row.prog w) (ktrTop dp un gd (Str.ofString "law") lawScope L a ccd [] []) (exec (fBody.getD 2 default) (lawEnv L a ccd)) (fun f s' => f = .next ∧ ∃ h tk, s' = { s with heap := h, toks := tk } ∧ Fr g L h m ∧ News g L h news) E s := by
  k_fill
  intro _
  intro loose mean mg mb dp un gd a ccd A₀ base g L m s E B F X N T hd' hu hmt hmw hmy hmc
  show wpC _ _ (exec (Stmt.If _ _ _ _) _) _ _ _
  have hM := lm4 hmt hmw hmy hmc
  unfold lawEnv lawScope
  refine cIf (cIsOr (cIsCmp (wpC_cut (fun v s' => v = .str y ty ∧ ∃ tk, s' = { s with toks := tk }) ?_ ?_)))
  · clear B
    rw [hM] at F
    k_fold
    k_steps
    exact ⟨rfl, _, rfl⟩
  rintro _ _ ⟨rfl, tk, rfl⟩
  refine wpC_cut (fun v s' => ∃ t h tk, v = .str (joinL (cs.map revS)) t ∧ s' = { s with heap := h, toks := tk } ∧ Fr g L h m ∧ News g L h news) ?_ ?_
  · clear B
    have F9 := F
    rw [hM] at F9
    show wpAny _ _ (eval _ _) _ _ _
    k_fold
    k_steps
    show wpAny _ _ (eval _ _) _ _ _
    refine wpAny_cut (fun v s' => ∃ R h tk ys, v = .ref R ∧ s' = { s with heap := h, toks := tk } ∧ StrsAre ys (cs.map revS) ∧ Fr g L h m ∧ News g L h ((R, LCg.lst ys) :: news)) ?_ ?_
    · refine LCg.ListComp_U F (by with_unfolding_all rfl) (by decide) (by rfl) (by decide) (by rfl) ?_
      refine wpAny_cut (fun v s' => v = .ref C ∧ ∃ tk, s' = { s with toks := tk }) ?_ ?_
      · k_steps
        exact ⟨rfl, _, rfl⟩
      rintro _ _ ⟨rfl, tk1, rfl⟩
      refine LCg.CompSrc.ledger rfl F N hC (by rw [List.size_toArray, hcv.length, sizeLine_eq]; omega) fun h1 => ?_
      refine compRest_valS (.inr ⟨_, hC, rfl, _, rfl⟩) (fun i ys => StrsAre ys ((cs.take i).map revS)) .nil ?_ ?_
      · intro ys hys D2 h2 tk2 F2 N2 _
        rw [List.take_of_length_le (by rw [List.size_toArray, hcv.length]; exact Nat.le_refl _)] at hys
        exact ⟨D2, h2, tk2, ys, rfl, rfl, hys, F2, N2⟩
      · rintro i ys v I oI C2 oC D2 m₂ h2 tk2 E' hi hys hvi hC9 hx' F2 N2 off ne
        have hik : i < cs.length := by rw [List.size_toArray, hcv.length] at hi; exact hi
        obtain ⟨t0, ht0⟩ := hcv.get i cs[i] (List.getElem?_eq_getElem hik)
        have hv9 : cv[i]? = some v := by simpa using hvi
        obtain rfl := Option.some.inj (hv9.symm.trans ht0)
        rw [List.take_add_one, List.getElem?_eq_getElem hik, List.map_append]
        have hlen9 : cs[i].length ≤ 1000 := Nat.le_trans (len_le_sum hik) hcs
        generalize cs[i] = k at hx' hlen9 ⊢
        show wpAny _ _ (eval _ _) _ _ _
        k_fold
        k_steps
        refine ⟨_, _, rfl, by assumption, by assumption, ?_⟩
        rw [rev_eq]
        exact kct_snoc hys
    rintro _ _ ⟨R, h2, tk2, ys, rfl, rfl, hys, F2, N2⟩
    k_steps
    refine join_list (News.isList N2 (.head _)) (by simpa using hys) (by rw [show (Str.ofString "").length = 0 from by decide +kernel, revs_len]; omega) fun tj kj => ?_
    rw [join_e]
    k_steps
    exact ⟨_, _, _, rfl, rfl, F2, newsTl N2⟩
  rintro _ _ ⟨t2, h2, tk2, rfl, rfl, F2, N2⟩
  rw [← P1]
  refine wpAny_cut (fun v s' => v = .bool false ∧ ∃ tk, s' = { s with heap := h2, toks := tk }) ?_ ?_
  · clear B F N
    k_fold
    k_steps
    exact ⟨by simp, _, rfl⟩
  rintro _ _ ⟨rfl, tk3, rfl⟩
  refine wpAny_truthy_bool ?_
  rw [if_neg (by decide)]
  have hcon : ∀ (z : PySem.Str) (tz : Tok), z.cps.size ≤ 100 → (∀ c ∈ z.cps.toList, c < 128) → ∀ m2 nw (Q' E' : Value → Shared → Prop) s2, Fr g L s2.heap m2 → News g L s2.heap nw → (∀ (t : Tok) (h' : Heap) (tk' : Nat), Fr g L h' m2 → News g L h' nw → Q' (.bytes (otherL z).toArray t) { s2 with heap := h', toks := tk' }) → wpAny (model PySem.Challenge.rw_rx0034_01.row.prog w) (ktrTop dp un gd (Str.ofString "law") lawScope L a ccd [] []) (call (.ref 88) [.str z tz]) Q' E' s2 := by
    intro z tz hz1 hz2 m2 nw Q' E' s2 F2 N2 hQ
    refine' lo w z hz1 hz2 tz nw rfl _ _ _ _ _ _ _ _ _ _ _ _ _ _ _ _ _ _ _ _ _ ?k1 ?k2 ?k3 ?k4 ?k5 ?_ ?_ ?_ ?_
    case k1 => exact B
    case k2 => exact F2
    case k3 => exact X
    case k4 => exact N2
    case k5 => exact T
    · exact rfl
    · exact Nat.lt_of_le_of_lt (Nat.add_le_add_left (by decide) dp) hd'
    · exact Nat.lt_of_le_of_lt (Nat.add_le_add_left (by decide) un) hu
    exact hQ
  unfold lawScope at hcon
  refine cIsOr (cIsCmp (cEvalCall (wpC_cut (fun v s' => v = .ref 38 ∧ ∃ tk, s' = { s with heap := h2, toks := tk }) ?_ ?_)))
  · clear B F N
    have F9 := F2
    rw [hM] at F9
    show wpAny _ _ (eval _ _) _ _ _
    k_fold
    k_steps
    exact ⟨rfl, _, rfl⟩
  rintro _ _ ⟨rfl, tk4, rfl⟩
  refine cCallF (K := hd0.heap_1 w.params) rfl rfl rfl (cSplicedB rfl (wpC_cut (fun v s' => ∃ t h tk, v = .bytes (otherL y).toArray t ∧ s' = { s with heap := h, toks := tk } ∧ Fr g L h m ∧ News g L h news) ?_ ?_))
  · clear B F N
    have F9 := F2
    rw [hM] at F9
    show wpAny _ _ (eval _ _) _ _ _
    k_fold
    k_steps
    refine hcon y ty (hy ▸ hx) hcy _ _ _ _ _ F2 N2 fun t3 h3 tk3 F3 N3 => ?_
    k_steps
    exact ⟨_, _, _, rfl, rfl, F3, N3⟩
  rintro _ _ ⟨t3, h3, tk5, rfl, rfl, F3, N3⟩
  refine cSplicedB rfl (wpC_cut (fun v s' => v = .int wd tw ∧ ∃ tk, s' = { s with heap := h3, toks := tk }) ?_ ?_)
  · clear B F N F2 N2
    have F9 := F3
    rw [hM] at F9
    show wpAny _ _ (eval _ _) _ _ _
    k_fold
    k_steps
    exact ⟨rfl, _, rfl⟩
  rintro _ _ ⟨rfl, tk6, rfl⟩
  refine cSplicedNil ⟨X.keeps F3.keep, ?_⟩
  have hol : (otherL y).length = x.cps.size := by unfold otherL; rw [List.length_map, Array.length_toList, hy]
  refine' bs w (otherL y) (hol ▸ hx) wd q h0 hw (hol ▸ hx0) (hol ▸ Nat.le_of_eq hq) (hol ▸ hq ▸ Nat.lt_add_of_pos_right h0) t3 tw news rfl _ _ _ _ _ _ _ _ _ _ _ _ _ _ _ _ _ _ _ _ _ ?k1 ?k2 ?k3 ?k4 ?k5 ?_ ?_ ?_ ?_
  case k1 => exact B
  case k2 => exact F3
  case k3 => exact X
  case k4 => exact N3
  case k5 => exact T
  · exact rfl
  · exact Nat.lt_of_le_of_lt (Nat.add_le_add_left (by decide) dp) hd'
  · exact Nat.lt_of_le_of_lt (Nat.add_le_add_left (by decide) un) hu
  refine ⟨fun t4 h4 tk7 _ F4 N4 => ?_, fun e _ _ _ hlt => absurd hlt (hol ▸ hq ▸ Nat.lt_irrefl _)⟩
  rw [P2]
  refine wpC_cut (fun v s' => ∃ t h tk, v = .bytes (otherL x).toArray t ∧ s' = { s with heap := h, toks := tk } ∧ Fr g L h m ∧ News g L h news) ?_ ?_
  · clear B F N F2 N2 F3 N3
    have F9 := F4
    rw [hM] at F9
    show wpAny _ _ (eval _ _) _ _ _
    k_fold
    k_steps
    refine hcon x tx hx hc _ _ _ _ _ F4 N4 fun t5 h5 tk8 F5 N5 => ?_
    k_steps
    exact ⟨_, _, _, rfl, rfl, F5, N5⟩
  rintro _ _ ⟨t5, h5, tk8, rfl, rfl, F5, N5⟩
  refine wpAny_cut (fun v s' => v = .bool false ∧ ∃ tk, s' = { s with heap := h5, toks := tk }) ?_ ?_
  · clear B F N F2 N2 F3 N3 F4 N4
    k_fold
    k_steps
    exact ⟨by simp, _, rfl⟩
  rintro _ _ ⟨rfl, tk9, rfl⟩
  refine wpAny_truthy_bool ?_
  rw [if_neg (by decide)]
  refine cIsOrNil ?_
  rw [if_neg (by decide)]
  exact cExecsNil ⟨rfl, _, _, rfl, F5, N5⟩

end Mine
end

section
open PySem PySem.W PyProof.Rows
set_option Elab.async false
set_option maxRecDepth 100000
set_option maxHeartbeats 2000000
namespace Mine
local macro_rules | `(tactic| walk_at "subscriptTail Name Slice ref ref") => `(tactic| refine stop_of ?_)
theorem strs_rev {vs : List Value} {ys : List PySem.Str} (h : StrsAre vs ys) : StrsAre vs.reverse ys.reverse := by
  induction h with
  | nil => exact .nil
  | cons y t h ih => rw [List.reverse_cons, List.reverse_cons]; exact kct_snoc ih
theorem lm2 {m : Str → Option Value} {c d : Option Value} (h3 : m (Str.ofString "turned") = c) (h4 : m (Str.ofString "cells") = d) :
    m = fun z => if z = Str.ofString "turned" then c else if z = Str.ofString "cells" then d else m z := by
  funext z
  split
  · rename_i e; rw [e, h3]
  · split
    · rename_i e; rw [e, h4]
    · rfl
theorem lfD (w : World) (news : List (Addr × Obj)) (y : PySem.Str) (ty : Tok) (C : Addr) (cv : List Value) (cs : List PySem.Str) (hy : y.cps.size = 12) (hcy : ∀ c ∈ y.cps.toList, c < 128) (hB : ∀ c ∈ swapB y 12 1, c.toNat < 128)
    (hC : (C, LCg.lst cv) ∈ news) (hcv : StrsAre cv cs) (hcs : (cs.map (·.length)).sum ≤ 1000) (hcl : cs.length ≤ 100) (P3 : swapS y 12 1 = joinL cs.reverse) : theLaw = theLaw →
  ∀ (loose : List Str) (mean : ExcName → Option Value) (mg mb : Str → Option Value) (dp un : Nat) (gd : Option (List Code)) (a : Addr) (ccd : Value) (A₀ : Around) (base g : Heap) (L : Addr) (m : Str → Option Value) (s : Shared) (E : Value → Shared → Prop),
    Below A₀ base [] g → Fr g L s.heap m → (hd0.heap_1 w.params).In g → News g L s.heap news → Top topProg loose mean mg mb g → dp + 10 < recursionLimit → un + 100 < cLine → m (Str.ofString "turned") = some (.str y ty) → m (Str.ofString "cells") = some (.ref C) →
    wpC (model PySem.Challenge.rw_rx0034_01.row.prog w) (ktrTop dp un gd (Str.ofString "law") lawScope L a ccd [] []) (exec (fBody.getD 3 default) (lawEnv L a ccd)) (fun f s' => f = .next ∧ ∃ h tk, s' = { s with heap := h, toks := tk } ∧ Fr g L h m ∧ News g L h news) E s := by
  k_fill
  intro _
  intro loose mean mg mb dp un gd a ccd A₀ base g L m s E B F X N T hd' hu hmy hmc
  show wpC _ _ (exec (Stmt.If _ _ _ _) _) _ _ _
  have hM := lm2 hmy hmc
  unfold lawEnv lawScope
  refine cIf (cIsCmp (cEvalCall (wpC_cut (fun v s' => v = .ref 83 ∧ ∃ tk, s' = { s with toks := tk }) ?_ ?_)))
  · clear B
    rw [hM] at F
    k_fold
    k_steps
    exact ⟨rfl, _, rfl⟩
  rintro _ _ ⟨rfl, tk, rfl⟩
  refine cCallF (K := hd0.heap_1 w.params) rfl rfl rfl (cSplicedB rfl (wpC_cut (fun v s' => v = .str y ty ∧ ∃ tk, s' = { s with toks := tk }) ?_ ?_))
  · clear B
    rw [hM] at F
    k_fold
    k_steps
    exact ⟨rfl, _, rfl⟩
  rintro _ _ ⟨rfl, tk1, rfl⟩
  refine cSplicedB rfl (wpC_cut (fun v s' => ∃ t tk, v = .int ((12 : Nat) : Int) t ∧ s' = { s with toks := tk }) ?_ ?_)
  · clear B
    rw [hM] at F
    k_fold
    k_steps
    exact ⟨_, _, rfl, rfl⟩
  rintro _ _ ⟨tw, tk2, rfl, rfl⟩
  refine cSplicedNil ⟨X.keeps F.keep, ?_⟩
  refine' ls w y (by omega) (by omega) hcy 12 1 (by decide) (by decide) (by omega) hB ty tw news rfl _ _ _ _ _ _ _ _ _ _ _ _ _ _ _ _ _ _ _ _ _ ?k1 ?k2 ?k3 ?k4 ?k5 ?_ ?_ ?_ ?_
  case k1 => exact B
  case k2 => exact F
  case k3 => exact X
  case k4 => exact N
  case k5 => exact T
  · exact rfl
  · exact Nat.lt_of_le_of_lt (Nat.add_le_add_left (by decide) dp) hd'
  · exact Nat.lt_of_le_of_lt (Nat.add_le_add_left (by decide) un) hu
  intro t3 h3 tk3 F3 N3
  rw [P3]
  refine wpC_cut (fun v s' => ∃ t h tk, v = .str (joinL cs.reverse) t ∧ s' = { s with heap := h, toks := tk } ∧ Fr g L h m ∧ News g L h news) ?_ ?_
  · clear B F N
    have F9 := F3
    rw [hM] at F9
    show wpAny _ _ (eval _ _) _ _ _
    k_fold
    k_steps
    show wpAny _ _ (subscriptTail _ _ _ _) _ _ _
    with_unfolding_all refine' krv_lit (zs := cv.reverse) F3 N3 (News.isList N3 hC) ?jk ?je ?_ ?js ?jt ?jz
    case jk => kmk_part
    case je => rfl
    case js => with_unfolding_all rfl
    case jt => kmk_pure
    case jz => rw [List.size_toArray, hcv.length, sizeLine_eq]; omega
    intro D9 h9 F9 N9 l9
    k_steps
    refine join_list (News.isList N9 (.head _)) (by simpa using strs_rev hcv) (by rw [show (Str.ofString "").length = 0 from by decide +kernel, List.map_reverse, List.sum_reverse]; omega) fun tj kj => ?_
    rw [join_e]
    k_steps
    exact ⟨_, _, _, rfl, rfl, by assumption, newsTl (by assumption)⟩
  rintro _ _ ⟨t5, h5, tk8, rfl, rfl, F5, N5⟩
  refine wpAny_cut (fun v s' => v = .bool false ∧ ∃ tk, s' = { s with heap := h5, toks := tk }) ?_ ?_
  · clear B F N F3 N3
    k_fold
    k_steps
    exact ⟨by simp, _, rfl⟩
  rintro _ _ ⟨rfl, tk9, rfl⟩
  refine wpAny_truthy_bool ?_
  rw [if_neg (by decide)]
  exact cExecsNil ⟨rfl, _, _, rfl, F5, N5⟩

end Mine
end

section
open PySem PySem.W PyProof.Rows
set_option Elab.async false
set_option maxRecDepth 100000
set_option maxHeartbeats 2000000
namespace Mine
local macro_rules | `(tactic| walk_at "subscriptTail Name Slice ref ref") => `(tactic| refine stop_of ?_)
def dueL {α : Type} (l : List α) (wd : Nat) (k : Nat) : List α := ((List.range k).map fun i => ((l.drop (i * wd)).take wd).reverse).flatten
theorem dueL_succ {α : Type} (l : List α) (wd i : Nat) : dueL l wd (i + 1) = dueL l wd i ++ ((l.drop (i * wd)).take wd).reverse := by
  unfold dueL
  rw [List.range_succ, List.map_append, List.flatten_append]; simp
theorem dueL_len {α : Type} {l : List α} {wd q i : Nat} (hi : i ≤ q) (h0 : 0 < wd) (hq : q * wd = l.length) : (dueL l wd i).length ≤ l.length := by
  have key : ∀ i, i ≤ q → (dueL l wd i).length ≤ i * wd := by
    intro i
    induction i with
    | zero => intro _; exact Nat.zero_le _
    | succ i ih =>
      intro h
      rw [dueL_succ, List.length_append, List.length_reverse, List.length_take, Nat.succ_mul]
      exact Nat.add_le_add (ih (Nat.le_of_succ_le h)) (Nat.min_le_left _ _)
  exact Nat.le_trans (key i hi) (hq ▸ Nat.mul_le_mul_right wd hi)
theorem Cls.len {vs : List Value} {wd i : Nat} {ys : List Value} {nw : List (Addr × Obj)} (h : Cls vs wd i ys nw) : ys.length = i := by
  induction h with
  | nil => rfl
  | snoc a k _ ih => rw [List.length_append, ih]; rfl
theorem Cls.get {vs : List Value} {wd n : Nat} {ys : List Value} {nw : List (Addr × Obj)} (h : Cls vs wd n ys nw) {i : Nat} {v : Value} (hv : ys[i]? = some v) : ∃ c k, v = .ref c ∧ (c, listOf ((vs.drop (i * wd)).take wd).toArray k) ∈ nw := by
  induction h with
  | nil => simp at hv
  | @snoc j ys nw a k h ih =>
    have hl := h.len
    by_cases hj : i < j
    · rw [List.getElem?_append_left (by omega)] at hv
      obtain ⟨c, k', e, hm⟩ := ih hv
      exact ⟨c, k', e, .tail _ hm⟩
    · rw [List.getElem?_append_right (by omega)] at hv
      have e : i = j := by
        cases hz : i - ys.length with
        | zero => omega
        | succ z => rw [hz] at hv; simp at hv
      subst e
      rw [hl, Nat.sub_self] at hv
      simp at hv
      exact ⟨a, k, hv.symm, .head _⟩
theorem lmP {m : Str → Option Value} {c d : Option Value} (h3 : m (Str.ofString "pieces") = c) (h4 : m (Str.ofString "width") = d) :
    m = fun z => if z = Str.ofString "pieces" then c else if z = Str.ofString "width" then d else m z := by
  funext z
  split
  · rename_i e; rw [e, h3]
  · split
    · rename_i e; rw [e, h4]
    · rfl
theorem lfE (w : World) (news : List (Addr × Obj)) (pv : List Value) (Pc : Addr) (kp : Nat) (tw : Tok) (wd q : Nat) (hx : pv.length ≤ 100) (h0 : 0 < wd) (hw : wd ≤ 100) (hq : q * wd = pv.length) (hq0 : 0 < pv.length) (hP : (Pc, listOf pv.toArray kp) ∈ news) : theLaw = theLaw →
  ∀ (loose : List Str) (mean : ExcName → Option Value) (mg mb : Str → Option Value) (dp un : Nat) (gd : Option (List Code)) (a : Addr) (ccd : Value) (A₀ : Around) (base g : Heap) (L : Addr) (m : Str → Option Value) (s : Shared) (E : Value → Shared → Prop),
    Below A₀ base [] g → Fr g L s.heap m → (hd0.heap_1 w.params).In g → News g L s.heap news → Top topProg loose mean mg mb g → dp + 10 < recursionLimit → un + 100 < cLine → m (Str.ofString "pieces") = some (.ref Pc) → m (Str.ofString "width") = some (.int wd tw) →
    wpAny (model PySem.Challenge.rw_rx0034_01.row.prog w) (ktrTop dp un gd (Str.ofString "law") lawScope L a ccd [] []) (exec (fBody.getD 4 default) (lawEnv L a ccd)) (fun f s' => f = .next ∧ ∃ h tk D, s' = { s with heap := h, toks := tk } ∧ Fr g L h (fun y => if y = Str.ofString "due" then some (.ref D) else m y) ∧ News g L h ((D, LCg.lst (dueL pv wd q)) :: news)) E s := by
  k_fill
  intro _
  intro loose mean mg mb dp un gd a ccd A₀ base g L m s E B F X N T hd' hu hmp hmw
  show wpAny _ _ (exec (Stmt.Assign _ _ _) _) _ _ _
  have hM := lmP hmp hmw
  have hcon : ∀ m2 nw (Q' E' : Value → Shared → Prop) s2, (Pc, listOf pv.toArray kp) ∈ nw → Fr g L s2.heap m2 → News g L s2.heap nw → (∀ (ys : List Value) (nw' : List (Addr × Obj)) (D : Addr) (h' : Heap) (tk' : Nat), Cls pv wd q ys nw' → Fr g L h' m2 → News g L h' ((D, LCg.lst ys) :: (nw' ++ nw)) → Q' (.ref D) { s2 with heap := h', toks := tk' }) → wpAny (model PySem.Challenge.rw_rx0034_01.row.prog w) (ktrTop dp un gd (Str.ofString "law") lawScope L a ccd [] []) (call (.ref 93) [.ref Pc, .int wd tw]) Q' E' s2 := by
    intro m2 nw Q' E' s2 hm9 F2 N2 hQ
    refine' lcl w Pc kp pv hx wd q h0 hw hq hq0 tw nw hm9 rfl _ _ _ _ _ _ _ _ _ _ _ _ _ _ _ _ _ _ _ _ _ ?k1 ?k2 ?k3 ?k4 ?k5 ?_ ?_ ?_ ?_
    case k1 => exact B
    case k2 => exact F2
    case k3 => exact X
    case k4 => exact N2
    case k5 => exact T
    · exact rfl
    · exact Nat.lt_of_le_of_lt (Nat.add_le_add_left (by decide) dp) hd'
    · exact Nat.lt_of_le_of_lt (Nat.add_le_add_left (by decide) un) hu
    exact hQ
  unfold lawEnv lawScope at *
  refine Assign_c2 (h₀ := g) (L := L) (m := m) rfl (by rfl) (by with_unfolding_all rfl) (by decide) rfl (by decide) rfl rfl (by decide) rfl rfl ?_
  refine wpAny_cut (fun v s' => ∃ ys nw D h tk, v = .ref D ∧ s' = { s with heap := h, toks := tk } ∧ Cls pv wd q ys nw ∧ Fr g L h m ∧ News g L h ((D, LCg.lst ys) :: (nw ++ news))) ?_ ?_
  · clear B
    have F9 := F
    rw [hM] at F9
    show wpAny _ _ (eval _ _) _ _ _
    k_fold
    k_steps
    refine hcon m _ _ _ _ hP F (by assumption) fun ys nw D h2 tk2 hc F2 N2 => ?_
    k_steps
    exact ⟨ys, nw, D, _, _, rfl, rfl, hc, F2, N2⟩
  rintro _ _ ⟨ys, nw, D0, h1, tk1, rfl, rfl, hc, F1, N1⟩
  have hyl := hc.len
  refine ⟨D0, ys.toArray, _, dueL pv wd, rfl, rfl, F1, N1, .inr ⟨_, .head _, rfl, _, rfl⟩, rfl, ?_, ?_, ?_⟩
  · intro i hi
    rw [List.size_toArray, hyl] at hi
    exact Nat.le_trans (dueL_len hi h0 hq) (by rw [sizeLine_eq]; omega)
  · rintro i v I oI C oC D2 m₂ h2 tk2 E' hi hvi hC hx' F2 N2 off ⟨nIC, nID, nCD⟩
    obtain ⟨c, kc, rfl, hcm⟩ := hc.get (by simpa using hvi)
    show wpAny _ _ (eval _ _) _ _ _
    refine wpAny_cut (fun v s' => ∃ J h' tk', v = .ref J ∧ s' = { s with heap := h', toks := tk' } ∧ Fr g L h' m ∧ News g L h' ((I, oI) :: (C, oC) :: (D2, LCg.lst (dueL pv wd i)) :: (D0, LCg.lst ys) :: (nw ++ news)) ∧ h'.IsList J ((pv.drop (i * wd)).take wd).reverse.toArray ∧ J ≠ I ∧ J ≠ C ∧ J ≠ D2) ?_ ?_
    · k_fold
      k_steps
      show wpAny _ _ (subscriptTail _ _ _ _) _ _ _
      with_unfolding_all refine' krv_lit (zs := ((pv.drop (i * wd)).take wd).reverse) F2 N2 (News.isList N2 (.tail _ (.tail _ (.tail _ (.tail _ (List.mem_append_left _ hcm)))))) ?jk ?je ?_ ?js ?jt ?jz
      case jk => kmk_part
      case je => rfl
      case js => with_unfolding_all rfl
      case jt => kmk_pure
      case jz => rw [List.size_toArray, List.length_take, List.length_drop, sizeLine_eq]; omega
      intro D9 h9 F9 N9 l9
      k_steps
      exact ⟨D9, _, _, rfl, rfl, F9, newsTl N9, News.isList N9 (.head _), (Nat.ne_of_lt (l9 (I, oI) (.head _))).symm, (Nat.ne_of_lt (l9 (C, oC) (.tail _ (.head _)))).symm, (Nat.ne_of_lt (l9 (D2, LCg.lst (dueL pv wd i)) (.tail _ (.tail _ (.head _))))).symm⟩
    rintro _ _ ⟨J, h3, tk3, rfl, rfl, F3, N3, hJ, n1, n2, n3⟩
    exact ⟨J, _, h3, tk3, rfl, rfl, F3, N3, hJ, n1, n2, n3, (dueL_succ pv wd i).symm⟩
  · intro D h2 tk2 F2 N2 _
    rw [List.size_toArray, hyl] at N2
    exact ⟨rfl, h2, tk2, D, rfl, F2, fun p hp => by
      rcases List.mem_cons.mp hp with rfl | hp
      · exact N2 _ (.head _)
      · exact N2 p (.tail _ (.tail _ (List.mem_append_right _ hp)))⟩

end Mine
end

section
open PySem PySem.W PyProof.Rows
set_option Elab.async false
set_option maxRecDepth 100000
set_option maxHeartbeats 2000000
namespace Mine
def qm9 (p : PySem.Str) : PySem.Str := if p = Str.ofString "." then Str.ofString "[^/]" else p
theorem strs_dat {n : List (Addr × Obj)} {vs : List Value} {xs : List PySem.Str} (h : StrsAre vs xs) : DatAll n vs (xs.map Dat.str) := by
  induction h with
  | nil => exact .nil
  | cons y t h ih => exact .cons (.str y t) ih
theorem dat_ok {ds : List PySem.Str} (h : ∀ p ∈ ds, PyData.strOk p = true) : ∀ d ∈ (ds.map qm9).map Dat.str, kqdOk 8 d = true := by
  intro d hd
  obtain ⟨p, hp, rfl⟩ := List.mem_map.mp hd
  obtain ⟨r, hr, rfl⟩ := List.mem_map.mp hp
  show PyData.strOk (qm9 r) = true
  unfold qm9
  split
  · decide +kernel
  · exact h r hr
theorem lmD {m : Str → Option Value} {c d : Option Value} (h3 : m (Str.ofString "turned") = c) (h4 : m (Str.ofString "due") = d) :
    m = fun z => if z = Str.ofString "turned" then c else if z = Str.ofString "due" then d else m z := by
  funext z
  split
  · rename_i e; rw [e, h3]
  · split
    · rename_i e; rw [e, h4]
    · rfl
theorem sign5 : ∀ c ∈ [97, 98, 46, 45, 63], c ∈ [97, 98, 46, 45, 93, 33, 42, 63, 91] := by decide
theorem lfF (w : World) (news : List (Addr × Obj)) (y : PySem.Str) (ty : Tok) (D : Addr) (dv : List Value) (ds : List PySem.Str) (hy : y.cps.size ≤ 100) (hcy : ∀ c ∈ y.cps.toList, c ∈ [97, 98, 46, 45, 63])
    (hD : (D, LCg.lst dv) ∈ news) (hdv : StrsAre dv ds) (hds : (ds.map (·.length)).sum ≤ 1000) (hdl : ds.length ≤ 100) (hok : ∀ p ∈ ds, PyData.strOk p = true)
    (P4 : trL (Str.ofString "[^/]") y.cps.toList [] = (ds.map qm9).map some) (P5 : trL (Str.ofString ".") y.cps.toList [] = ds.map some) : theLaw = theLaw →
  ∀ (loose : List Str) (mean : ExcName → Option Value) (mg mb : Str → Option Value) (dp un : Nat) (gd : Option (List Code)) (a : Addr) (ccd : Value) (A₀ : Around) (base g : Heap) (L : Addr) (m : Str → Option Value) (s : Shared) (E : Value → Shared → Prop),
    Below A₀ base [] g → Fr g L s.heap m → (hd0.heap_1 w.params).In g → News g L s.heap news → Top topProg loose mean mg mb g → dp + 10 < recursionLimit → un + 100 < cLine → m (Str.ofString "turned") = some (.str y ty) → m (Str.ofString "due") = some (.ref D) →
    wpAny (model PySem.Challenge.rw_rx0034_01.row.prog w) (ktrTop dp un gd (Str.ofString "law") lawScope L a ccd [] []) (exec (fBody.getD 5 default) (lawEnv L a ccd)) (fun f s' => f = .next ∧ ∃ h tk, s' = { s with heap := h, toks := tk } ∧ Fr g L h m ∧ News g L h news) E s := by
  k_fill
  intro _
  intro loose mean mg mb dp un gd a ccd A₀ base g L m s E B F X N T hd' hu hmy hmd
  show wpAny _ _ (exec (Stmt.If _ _ _ _) _) _ _ _
  have hM := lmD hmy hmd
  have hc1 : ∀ c ∈ y.cps.toList, c ∈ [97, 98, 46, 45, 93, 33, 42, 63, 91] := fun c h => sign5 c (hcy c h)
  have hb1 : ∀ i, y.cps[i]? = some 91 → i + 1 = y.cps.size := fun i h => by
    have := hcy 91 (by simpa using Array.mem_of_getElem? h)
    simp at this
  have hs1 : ∀ c ∈ y.cps.toList, c ≠ 42 := fun c h e => by
    have := hcy c h
    rw [e] at this; simp at this
  have hcon : ∀ tq m2 nw (Q' E' : Value → Shared → Prop) s2, Fr g L s2.heap m2 → News g L s2.heap nw → (∀ (vs : List Value) (k : Nat) (l : Addr) (h' : Heap) (tk' : Nat), StrsAre vs (ds.map qm9) → Fr g L h' m2 → News g L h' ((l, listOf vs.toArray k) :: nw) → Q' (.ref l) { s2 with heap := h', toks := tk' }) → wpAny (model PySem.Challenge.rw_rx0034_01.row.prog w) (ktrTop dp un gd (Str.ofString "law") lawScope L a ccd [] []) (call (.ref 69) [.str y ty, .none, .str (Str.ofString "[^/]") tq]) Q' E' s2 := by
    intro tq m2 nw Q' E' s2 F2 N2 hQ
    refine' tr w y hy hc1 hb1 ty tq .none (.inl rfl) (Str.ofString "[^/]") nw rfl _ _ _ _ _ _ _ _ _ _ _ _ _ _ _ _ _ _ _ _ _ ?k1 ?k2 ?k3 ?k4 ?k5 ?_ ?_ ?_ ?_
    case k1 => exact B
    case k2 => exact F2
    case k3 => exact X
    case k4 => exact N2
    case k5 => exact T
    · exact rfl
    · exact Nat.lt_of_le_of_lt (Nat.add_le_add_left (by decide) dp) hd'
    · exact Nat.lt_of_le_of_lt (Nat.add_le_add_left (by decide) un) hu
    exact fun vs k l h' tk' hv => hQ vs k l h' tk' (pcs_strs hv _ P4)
  have hcon2 : ∀ m2 nw (Q' E' : Value → Shared → Prop) s2, Fr g L s2.heap m2 → News g L s2.heap nw → (∀ (t : Tok) (h' : Heap) (tk' : Nat), Fr g L h' m2 → News g L h' nw → Q' (.str (wrapS (joinL ds)) t) { s2 with heap := h', toks := tk' }) → wpAny (model PySem.Challenge.rw_rx0034_01.row.prog w) (ktrTop dp un gd (Str.ofString "law") lawScope L a ccd [] []) (call (.ref 50) [.str y ty]) Q' E' s2 := by
    intro m2 nw Q' E' s2 F2 N2 hQ
    refine' tl w y ds hy hc1 hb1 hs1 P5 hdl hds ty nw rfl _ _ _ _ _ _ _ _ _ _ _ _ _ _ _ _ _ _ _ _ _ ?k1 ?k2 ?k3 ?k4 ?k5 ?_ ?_ ?_ ?_
    case k1 => exact B
    case k2 => exact F2
    case k3 => exact X
    case k4 => exact N2
    case k5 => exact T
    · exact rfl
    · exact Nat.lt_of_le_of_lt (Nat.add_le_add_left (by decide) dp) hd'
    · exact Nat.lt_of_le_of_lt (Nat.add_le_add_left (by decide) un) hu
    exact hQ
  unfold lawEnv lawScope at *
  refine wpAny_If (isTrue_or (wpAny_isTrue_Compare1 (wpAny_cut (fun v s' => ∃ R rv k h tk, v = .ref R ∧ s' = { s with heap := h, toks := tk } ∧ StrsAre rv (ds.map qm9) ∧ Fr g L h m ∧ News g L h ((R, listOf rv.toArray k) :: news)) ?_ ?_)))
  · clear B
    have F9 := F
    rw [hM] at F9
    show wpAny _ _ (eval _ _) _ _ _
    k_fold
    k_steps
    refine hcon _ m _ _ _ _ F (by assumption) fun rv k R h2 tk2 hv F2 N2 => ?_
    k_steps
    exact ⟨R, rv, k, _, _, rfl, rfl, hv, F2, N2⟩
  rintro _ _ ⟨R, rv, k1, h1, tk1, rfl, rfl, hrv, F1, N1⟩
  refine wpAny_cut (fun v s' => ∃ R2 rw h tk, v = .ref R2 ∧ s' = { s with heap := h, toks := tk } ∧ StrsAre rw (ds.map qm9) ∧ Fr g L h m ∧ News g L h ((R2, LCg.lst rw) :: (R, listOf rv.toArray k1) :: news)) ?_ ?_
  · refine LCg.ListComp_U F1 (by with_unfolding_all rfl) (by decide) (by rfl) (by decide) (by rfl) ?_
    refine wpAny_cut (fun v s' => v = .ref D ∧ ∃ tk, s' = { s with heap := h1, toks := tk }) ?_ ?_
    · clear B F N
      have F9 := F1
      rw [hM] at F9
      show wpAny _ _ (eval _ _) _ _ _
      k_fold
      k_steps
      exact ⟨rfl, _, rfl⟩
    rintro _ _ ⟨rfl, tk2, rfl⟩
    refine LCg.CompSrc.ledger rfl F1 N1 (.tail _ hD) (by rw [List.size_toArray, hdv.length, sizeLine_eq]; omega) fun g1 => ?_
    refine compRest_valS (.inr ⟨_, .tail _ hD, rfl, _, rfl⟩) (fun i ys => StrsAre ys ((ds.take i).map qm9)) .nil ?_ ?_
    · intro ys hys D2 h2 tk3 F2 N2 _
      rw [List.take_of_length_le (by rw [List.size_toArray, hdv.length]; exact Nat.le_refl _)] at hys
      exact ⟨D2, ys, h2, tk3, rfl, rfl, hys, F2, N2⟩
    · rintro i ys v I oI C2 oC D2 m₂ h2 tk3 E' hi hys hvi hC9 hx' F2 N2 off ne
      have hik : i < ds.length := by rw [List.size_toArray, hdv.length] at hi; exact hi
      obtain ⟨t0, ht0⟩ := hdv.get i ds[i] (List.getElem?_eq_getElem hik)
      have hv9 : dv[i]? = some v := by simpa using hvi
      obtain rfl := Option.some.inj (hv9.symm.trans ht0)
      rw [List.take_add_one, List.getElem?_eq_getElem hik, List.map_append]
      generalize ds[i] = p at hx' ⊢
      clear B F N
      by_cases hp : p = Str.ofString "."
      · subst hp
        show wpAny _ _ (eval _ _) _ _ _
        k_fold
        k_steps
        refine ⟨_, _, rfl, F2, N2, ?_⟩
        show StrsAre (ys ++ [_]) (_ ++ [qm9 (Str.ofString ".")])
        rw [show qm9 (Str.ofString ".") = Str.ofString "[^/]" from if_pos rfl]
        exact kct_snoc hys
      · show wpAny _ _ (eval _ _) _ _ _
        k_fold
        k_steps
        · refine ⟨_, _, rfl, F2, N2, ?_⟩
          show StrsAre (ys ++ [_]) (_ ++ [qm9 p])
          rw [show qm9 p = p from if_neg hp]
          exact kct_snoc hys
        · rename_i hbad
          exact absurd (by simpa using hbad) hp
  rintro _ _ ⟨R2, rw2, h2, tk2, rfl, rfl, hrw, F2, N2⟩
  refine kqd_ne N2 (.tail _ (.head _)) rfl rfl (strs_dat (n := []) hrv) (fun _ h => nomatch h) (.head _) rfl rfl (strs_dat (n := []) hrw) (fun _ h => nomatch h) (dat_ok hok) (dat_ok hok) ?_ ?_
  · show un + 64 < cLine; omega
  rw [@decide_eq_true _ (_) rfl]
  refine wpAny_truthy_bool ?_
  rw [if_neg (by decide)]
  refine isTrue_or (wpAny_isTrue_Compare1 ?_)
  have N3 := newsTl (newsTl N2)
  clear N2 N1 F1
  refine wpAny_cut (fun v s' => ∃ t h tk, v = .str (wrapS (joinL ds)) t ∧ s' = { s with heap := h, toks := tk } ∧ Fr g L h m ∧ News g L h news) ?_ ?_
  · clear B F N
    have F9 := F2
    rw [hM] at F9
    show wpAny _ _ (eval _ _) _ _ _
    k_fold
    k_steps
    refine hcon2 m _ _ _ _ F2 N3 fun t h3 tk3 F3 N4 => ?_
    k_steps
    exact ⟨t, _, _, rfl, rfl, F3, N4⟩
  rintro _ _ ⟨t3, h3, tk3, rfl, rfl, F3, N4⟩
  refine wpAny_cut (fun v s' => ∃ t h tk, v = .str (Str.ofString "(?s:" ++ joinL ds ++ Str.ofString ")\\Z") t ∧ s' = { s with heap := h, toks := tk } ∧ Fr g L h m ∧ News g L h news) ?_ ?_
  · clear B F N F2 N3
    have F9 := F3
    rw [hM] at F9
    show wpAny _ _ (eval _ _) _ _ _
    k_fold
    k_steps
    refine join_list (News.isList N4 hD) (by simpa using hdv) (by rw [show (Str.ofString "").length = 0 from by decide +kernel]; omega) fun tj kj => ?_
    rw [join_e]
    have hJ : (joinL ds).length ≤ 1000 := (joinL_len ds) ▸ hds
    k_steps
    exact ⟨_, _, _, rfl, rfl, by assumption, by assumption⟩
  rintro _ _ ⟨t4, h4, tk4, rfl, rfl, F4, N5⟩
  refine wpAny_cut (fun v s' => v = .bool false ∧ ∃ tk, s' = { s with heap := h4, toks := tk }) ?_ ?_
  · clear B F N F2 N3 F3 N4
    rw [show wrapS (joinL ds) = Str.ofString "(?s:" ++ joinL ds ++ Str.ofString ")\\Z" from by unfold wrapS; rw [Str.empty_append]]
    show wpAny _ _ (compareOp _ _ _) _ _ _
    k_fold
    k_steps
    exact ⟨by simp, _, rfl⟩
  rintro _ _ ⟨rfl, tk5, rfl⟩
  refine wpAny_truthy_bool ?_
  rw [if_neg (by decide)]
  refine isTrue_or_nil ?_
  rw [if_neg (by decide)]
  exact wpAny_execs_nil ⟨rfl, _, _, rfl, F4, N5⟩

end Mine
end

section
open PySem PySem.W PyProof.Rows
set_option Elab.async false
set_option maxRecDepth 100000
set_option maxHeartbeats 2000000
namespace Mine
theorem strs_of (l : List (PySem.Str × Tok)) : StrsAre (l.map fun p => Value.str p.1 p.2) (l.map (·.1)) := by
  induction l with
  | nil => exact .nil
  | cons p r ih => exact .cons p.1 p.2 ih
/-- what the plain law says of one width -/
structure WF (x : PySem.Str) (ps : List PySem.Str) (wd q : Nat) : Prop where
  h0 : 0 < wd
  hw : wd ≤ 100
  hq : q * wd = 12
  b1 : ∀ c ∈ swapB x wd q, c.toNat < 128
  hy : (swapS x wd q).cps.size = 12
  hcy : ∀ c ∈ (swapS x wd q).cps.toList, c ∈ [97, 98, 46, 45, 63]
  b3 : ∀ c ∈ swapB (swapS x wd q) 12 1, c.toNat < 128
  s1 : (((List.range q).map (cellS x wd)).map (·.length)).sum ≤ 1000
  p1 : swapS x wd q = joinL (((List.range q).map (cellS x wd)).map revS)
  p2 : outerL (otherL (swapS x wd q)) wd (List.replicate (otherL (swapS x wd q)).length 0) q = otherL x
  p3 : swapS (swapS x wd q) 12 1 = joinL ((List.range q).map (cellS x wd)).reverse
  s2 : ((dueL ps wd q).map (·.length)).sum ≤ 1000
  l2 : (dueL ps wd q).length ≤ 100
  ok : ∀ p ∈ dueL ps wd q, PyData.strOk p = true
  p4 : trL (Str.ofString "[^/]") (swapS x wd q).cps.toList [] = ((dueL ps wd q).map qm9).map some
  p5 : trL (Str.ofString ".") (swapS x wd q).cps.toList [] = (dueL ps wd q).map some
theorem small_sign {c : Nat} (h : c ∈ [97, 98, 46, 45, 63]) : c < 128 := by
  simp only [List.mem_cons, List.not_mem_nil, or_false] at h
  omega
theorem strs_due {vs : List Value} {ys : List PySem.Str} (h : StrsAre vs ys) (wd q : Nat) : StrsAre (dueL vs wd q) (dueL ys wd q) := by
  obtain ⟨l, rfl, rfl⟩ := strsAre_values h
  have key : ∀ {α β : Type} (f : α → β) (l : List α), dueL (l.map f) wd q = (dueL l wd q).map f := by
    intro α β f l
    unfold dueL
    rw [List.map_flatten, List.map_map]
    congr 1
    refine List.map_congr_left fun i _ => ?_
    simp
  unfold strValues
  rw [key, key]
  exact strs_of _
theorem lfG (w : World) (news : List (Addr × Obj)) (x : PySem.Str) (ps : List PySem.Str) (pv : List Value) (Pc : Addr) (kp : Nat) (tx tw : Tok) (wd q : Nat) (H : WF x ps wd q) (hx : x.cps.size = 12) (hc : ∀ c ∈ x.cps.toList, c ∈ [97, 98, 46, 45, 63]) (hP : (Pc, listOf pv.toArray kp) ∈ news) (hpv : StrsAre pv ps) (hpl : pv.length = 12) : theLaw = theLaw →
  ∀ (loose : List Str) (mean : ExcName → Option Value) (mg mb : Str → Option Value) (dp un : Nat) (gd : Option (List Code)) (a : Addr) (ccd : Value) (A₀ : Around) (base g : Heap) (L : Addr) (m : Str → Option Value) (s : Shared) (E : Value → Shared → Prop),
    Below A₀ base [] g → Fr g L s.heap m → (hd0.heap_1 w.params).In g → News g L s.heap news → Top topProg loose mean mg mb g → dp + 10 < recursionLimit → un + 100 < cLine → ∀ Q : Flow → Shared → Prop, m (Str.ofString "text") = some (.str x tx) → m (Str.ofString "pieces") = some (.ref Pc) → m (Str.ofString "width") = some (.int wd tw) →
    (∀ h' tk' m', m' (Str.ofString "text") = some (.str x tx) → m' (Str.ofString "pieces") = some (.ref Pc) → Fr g L h' m' → News g L h' news → Q .next { s with heap := h', toks := tk' }) →
    wpC (model PySem.Challenge.rw_rx0034_01.row.prog w) (ktrTop dp un gd (Str.ofString "law") lawScope L a ccd [] []) (execs fBody (lawEnv L a ccd)) Q E s := by
  k_fill
  intro _
  intro loose mean mg mb dp un gd a ccd A₀ base g L m s E B F X N T hd' hu Q hmt hmp hmw hret
  have hx1 : x.cps.size ≤ 100 := by omega
  have hqx : q * wd = x.cps.size := hx ▸ H.hq
  have hqp : q * wd = pv.length := hpl ▸ H.hq
  refine cExecsCons (cMono (cOf (lfA w news x tx tw wd q hx1 H.h0 H.hw hqx (by omega) rfl _ _ _ _ _ _ _ _ _ _ _ _ _ _ _ _ B F X N T hd' hu hmt hmw)) (fun f s' h => ?_) fun _ _ e => e)
  obtain ⟨rfl, h1, tk1, C, cv, rfl, hcv, F1, N1⟩ := h
  refine cExecsCons (cMono (lfB w _ x tx tw wd q hx1 (by omega) (fun c h => small_sign (hc c h)) H.h0 H.hw hqx H.b1 rfl _ _ _ _ _ _ _ _ _ _ _ _ _ _ _ _ B F1 X N1 T hd' hu ((if_neg (by decide)).trans hmt) ((if_neg (by decide)).trans hmw)) (fun f s' h => ?_) fun _ _ e => e)
  obtain ⟨rfl, h2, tk2, ty, rfl, F2, N2⟩ := h
  refine cExecsCons (cMono (lfC w _ x (swapS x wd q) tx tw ty wd q C cv _ hx1 (H.hy.trans hx.symm) (by omega) (fun c h => small_sign (hc c h)) (fun c h => small_sign (H.hcy c h)) H.h0 H.hw hqx (.head _) hcv H.s1 ?_ H.p1 H.p2 rfl _ _ _ _ _ _ _ _ _ _ _ _ _ _ _ _ B F2 X N2 T hd' hu ((if_neg (by decide)).trans ((if_neg (by decide)).trans hmt)) ((if_neg (by decide)).trans ((if_neg (by decide)).trans hmw)) (if_pos rfl) ((if_neg (by decide)).trans (if_pos rfl))) (fun f s' h => ?_) fun _ _ e => e)
  · rw [List.length_map, List.length_range]; exact Nat.le_trans (Nat.le_trans (Nat.le_mul_of_pos_right q H.h0) (Nat.le_of_eq H.hq)) (by decide)
  obtain ⟨rfl, h3, tk3, rfl, F3, N3⟩ := h
  refine cExecsCons (cMono (lfD w _ (swapS x wd q) ty C cv _ H.hy (fun c h => small_sign (H.hcy c h)) H.b3 (.head _) hcv H.s1 ?_ H.p3 rfl _ _ _ _ _ _ _ _ _ _ _ _ _ _ _ _ B F3 X N3 T hd' hu (if_pos rfl) ((if_neg (by decide)).trans (if_pos rfl))) (fun f s' h => ?_) fun _ _ e => e)
  · rw [List.length_map, List.length_range]; exact Nat.le_trans (Nat.le_trans (Nat.le_mul_of_pos_right q H.h0) (Nat.le_of_eq H.hq)) (by decide)
  obtain ⟨rfl, h4, tk4, rfl, F4, N4⟩ := h
  refine cExecsCons (cMono (cOf (lfE w _ pv Pc kp tw wd q (by omega) H.h0 H.hw hqp (by omega) (.tail _ hP) rfl _ _ _ _ _ _ _ _ _ _ _ _ _ _ _ _ B F4 X N4 T hd' hu ((if_neg (by decide)).trans ((if_neg (by decide)).trans hmp)) ((if_neg (by decide)).trans ((if_neg (by decide)).trans hmw)))) (fun f s' h => ?_) fun _ _ e => e)
  obtain ⟨rfl, h5, tk5, D, rfl, F5, N5⟩ := h
  refine cExecsCons (cMono (cOf (lfF w _ (swapS x wd q) ty D _ (dueL ps wd q) (Nat.le_trans (Nat.le_of_eq H.hy) (by decide)) H.hcy (.head _) (strs_due hpv wd q) H.s2 H.l2 H.ok H.p4 H.p5 rfl _ _ _ _ _ _ _ _ _ _ _ _ _ _ _ _ B F5 X N5 T hd' hu ((if_neg (by decide)).trans (if_pos rfl)) (if_pos rfl))) (fun f s' h => ?_) fun _ _ e => e)
  obtain ⟨rfl, h6, tk6, rfl, F6, N6⟩ := h
  refine cExecsNil ?_
  exact hret h6 tk6 _ ((if_neg (by decide)).trans ((if_neg (by decide)).trans ((if_neg (by decide)).trans hmt))) ((if_neg (by decide)).trans ((if_neg (by decide)).trans ((if_neg (by decide)).trans hmp))) F6 (newsTl (newsTl N6))

end Mine
end

section
open PySem PySem.W PyProof.Rows
set_option Elab.async false
set_option maxRecDepth 100000
set_option maxHeartbeats 2000000
namespace Mine
noncomputable def fTarget : Expr := match lawB.getD 4 default with
  | .For t _ _ _ _ => t
  | _ => default
theorem frSet {g h h2 : Heap} {L : Addr} {m : Str → Option Value} {x : Str} {v : Value} (F : Fr g L h m) (hn : h2.Ns L (fun z => if z = x then some v else m z)) (hs : Heap.SameBut L h h2) : Fr g L h2 (fun z => if z = x then some v else m z) := by
  have hL₀ : g.get? L = none := Heap.get?_none_of_le F.above
  exact ⟨hn, fun b o e => hs.extBut b o (fun q => by rw [q, hL₀] at e; cases e) (F.keep b o e), F.above⟩
theorem lw5 (w : World) (news : List (Addr × Obj)) (x : PySem.Str) (ps : List PySem.Str) (pv its : List Value) (Pc I l : Addr) (kp kl : Nat) (tx : Tok) (hx : x.cps.size = 12) (hc : ∀ c ∈ x.cps.toList, c ∈ [97, 98, 46, 45, 63]) (hP : (Pc, listOf pv.toArray kp) ∈ news) (hpv : StrsAre pv ps) (hpl : pv.length = 12)
    (hW : ∀ v ∈ its, ∃ (wd q : Nat) (t : Tok), v = .int wd t ∧ WF x ps wd q) (hIl : l ≠ I) : theLaw = theLaw →
  ∀ (loose : List Str) (mean : ExcName → Option Value) (mg mb : Str → Option Value) (dp un : Nat) (gd : Option (List Code)) (a : Addr) (ccd : Value) (A₀ : Around) (base g : Heap) (L : Addr) (m : Str → Option Value) (s : Shared) (E : Value → Shared → Prop),
    Below A₀ base [] g → Fr g L s.heap m → (hd0.heap_1 w.params).In g → News g L s.heap news → Top topProg loose mean mg mb g → dp + 10 < recursionLimit → un + 100 < cLine → ∀ (i : Nat) (R : Result → Shared → Prop), i ≤ its.length → s.heap.IsListIter I l i → (l, listOf its.toArray kl) ∈ news → @Ne Nat L I → g.get? I = none → (∀ p ∈ news, p.1 ≠ I) → m (Str.ofString "text") = some (.str x tx) → m (Str.ofString "pieces") = some (.ref Pc) →
    (∀ h' tk' m', m' (Str.ofString "text") = some (.str x tx) → m' (Str.ofString "pieces") = some (.ref Pc) → Fr g L h' m' → News g L h' news → R (.ok .next) { s with heap := h', toks := tk' }) →
    codeC (model PySem.Challenge.rw_rx0034_01.row.prog w) (ktrTop dp un gd (Str.ofString "law") lawScope L a ccd [] []) (.forLoop fTarget (.ref I) fBody [] (lawEnv L a ccd)) R s := by
  intro _
  intro loose mean mg mb dp un gd a ccd A₀ base g L m s E B F X N T hd' hu i R hi hit hl hLI hI₀ offI hmt hmp hret
  have key : ∀ k i m s, i + k = its.length → Fr g L s.heap m → News g L s.heap news → s.heap.IsListIter I l i → m (Str.ofString "text") = some (.str x tx) → m (Str.ofString "pieces") = some (.ref Pc) →
      (∀ h' tk' m', m' (Str.ofString "text") = some (.str x tx) → m' (Str.ofString "pieces") = some (.ref Pc) → Fr g L h' m' → News g L h' news → R (.ok .next) { s with heap := h', toks := tk' }) →
      codeC (model PySem.Challenge.rw_rx0034_01.row.prog w) (ktrTop dp un gd (Str.ofString "law") lawScope L a ccd [] []) (.forLoop fTarget (.ref I) fBody [] (lawEnv L a ccd)) R s := by
    intro k
    have W := Walks.list (prog := PySem.Challenge.rw_rx0034_01.row.prog) (w := w) (A := (ktrTop dp un gd (Str.ofString "law") lawScope L a ccd [] [])) rfl I l hIl its.toArray
    have nI : ∀ b, @Ne Nat b I → b ∉ [I] := fun b hb hm => absurd (List.mem_singleton.mp hm) hb
    induction k with
    | zero =>
      intro i m s hik F N hit hmt hmp hret
      obtain rfl : i = its.length := by omega
      refine cForTurn (W.done _ _ _ ⟨by simpa using hit, News.isList N hl⟩ fun h2 tk2 hk2 => ?_)
      refine cBlockNil (hret h2 tk2 m hmt hmp (LCg.fr_but F hk2 hLI hI₀) (LCg.news_but N hk2 offI))
    | succ k ih =>
      intro i m s hik F N hit hmt hmp hret
      have hlt : i < its.toArray.size := by simp; omega
      refine cForTurn (W.item i _ _ _ hlt ⟨hit, News.isList N hl⟩ fun v h2 tk2 hv hst2 hk2 => ?_)
      have F2 := LCg.fr_but F hk2 hLI hI₀
      have N2 := LCg.news_but N hk2 offI
      obtain ⟨wd, q, tw, rfl, HW⟩ := hW v (by simpa using Array.mem_of_getElem? hv)
      refine wpAny_of_eq (a := ()) rfl ?_
      show wpAny _ _ (assign (.Name _ _) _ _) _ _ _
      refine wpAny_assign_Name (wpAny_storeName_local (by rfl) F2.ns (fun h3 hn3 hs3 => ?_) (by rfl))
      have F3 := frSet F2 hn3 hs3
      obtain ⟨oI, heI, r1, r2⟩ := hst2.1
      have heI3 : h3.get? I = some oI := hs3.extBut _ _ (Ne.symm hLI) heI
      have N3 : News g L h3 ((I, oI) :: news) := fun p hp => by
        rcases List.mem_cons.mp hp with rfl | hp
        · exact ⟨heI3, Ne.symm hLI, hI₀⟩
        · exact ⟨hs3.extBut _ _ (N2 p hp).2.1 (N2 p hp).1, (N2 p hp).2⟩
      refine lfG w ((I, oI) :: news) x ps pv Pc kp tx tw wd q HW hx hc (.tail _ hP) hpv hpl rfl loose mean mg mb dp un gd a ccd A₀ base g L _ _ _ B F3 X N3 T hd' hu _ ((if_neg (by decide)).trans hmt) ((if_neg (by decide)).trans hmp) (if_pos rfl) fun h4 tk4 m4 hmt4 hmp4 F4 N4 => ?_
      refine ih (i + 1) m4 _ (by omega) F4 (newsTl N4) ⟨oI, (N4 _ (.head _)).1, r1, r2⟩ hmt4 hmp4 fun h' tk' m' a1 a2 a3 a4 => hret h' tk' m' a1 a2 a3 a4
  exact key (its.length - i) i m s (by omega) F N hit hmt hmp hret

end Mine
end

section
open PySem PySem.W PySem.Calls PyProof.Rows
set_option Elab.async false
set_option maxRecDepth 100000
set_option maxHeartbeats 2000000
namespace Mine
section
variable {prog : Program} {w : World} {A : Around} {E : Value → Shared → Prop} {env : Env} {g : Heap} {L : Addr} {m : Str → Option Value}
/-- an expression whose value is a datum, whatever the ledger -/
def EvD (prog : Program) (w : World) (A : Around) (E : Value → Shared → Prop) (env : Env) (g : Heap) (L : Addr) (m : Str → Option Value) (e : Expr) (d : Dat) : Prop :=
  ∀ (s : Shared) (nw : List (Addr × Obj)), Fr g L s.heap m → News g L s.heap nw → wpAny (model prog w) A (eval e env) (fun v s' => ∃ h tk nw', s' = { s with heap := h, toks := tk } ∧ Fr g L h m ∧ News g L h (nw' ++ nw) ∧ DatIn nw' v d) E s
theorem EvD.run {e : Expr} {d : Dat} (H : EvD prog w A E env g L m e d) {s : Shared} {nw : List (Addr × Obj)} {Q : Value → Shared → Prop} (F : Fr g L s.heap m) (N : News g L s.heap nw) (h : ∀ v h tk nw', Fr g L h m → News g L h (nw' ++ nw) → DatIn nw' v d → Q v { s with heap := h, toks := tk }) : wpAny (model prog w) A (eval e env) Q E s :=
  wpAny_mono (H s nw F N) (fun v s' ⟨h1, tk, nw', e, F1, N1, hd⟩ => e ▸ h v h1 tk nw' F1 N1 hd) fun _ _ e => e
inductive EvDs (prog : Program) (w : World) (A : Around) (E : Value → Shared → Prop) (env : Env) (g : Heap) (L : Addr) (m : Str → Option Value) : List Expr → List Dat → Prop
  | nil : EvDs prog w A E env g L m [] []
  | cons {e : Expr} {d : Dat} {es : List Expr} {ds : List Dat} (h : EvD prog w A E env g L m e d) (hs : ∀ rest, starEach (e :: rest) env = (false, eval e env) :: starEach rest env) (t : EvDs prog w A E env g L m es ds) : EvDs prog w A E env g L m (e :: es) (d :: ds)
theorem evd_str {x : PySem.Str} {k : Nat} {p : Pos} : EvD prog w A E env g L m (.Constant (.str x) k p) (.str x) := fun s nw F N =>
  wpAny_Constant_str ⟨s.heap, _, [], rfl, F, N, .str x _⟩
theorem evd_none {k : Nat} {p : Pos} : EvD prog w A E env g L m (.Constant .none k p) .none := fun s nw F N =>
  wpAny_Constant_none ⟨s.heap, _, [], rfl, F, N, .none⟩
theorem evds_spliced {es : List Expr} {ds : List Dat} (H : EvDs prog w A E env g L m es ds) {pos : Pos} : ∀ (s : Shared) (nw : List (Addr × Obj)), Fr g L s.heap m → News g L s.heap nw →
    wpAny (model prog w) A (spliced (backTo pos (starEach es env))) (fun vs s' => ∃ h tk nw', s' = { s with heap := h, toks := tk } ∧ Fr g L h m ∧ News g L h (nw' ++ nw) ∧ DatAll nw' vs ds ∧ vs.length = es.length) E s := by
  induction H with
  | nil => exact fun s nw F N => spliced_nil ⟨s.heap, s.toks, [], rfl, F, N, .nil, rfl⟩
  | @cons e d es ds h hs t ih =>
    intro s nw F N
    rw [backTo_cons (hs es)]
    refine spliced_cons (wpAny_mono (h s nw F N) (fun v s₁ h₁ => ?_) fun _ _ e => e)
    obtain ⟨h1, tk1, nw1, rfl, F1, N1, hd⟩ := h₁
    refine wpAny_mono (ih _ (nw1 ++ nw) F1 N1) (fun vs s₂ h₂ => ?_) fun _ _ e => e
    obtain ⟨h2, tk2, nw2, rfl, F2, N2, ha, hl⟩ := h₂
    exact ⟨h2, tk2, nw2 ++ nw1, rfl, F2, by rw [List.append_assoc]; exact N2, .cons (DatIn.mono (fun p hp => List.mem_append_right _ hp) hd) (DatAll.mono (fun p hp => List.mem_append_left _ hp) ha), by rw [List.length_cons, hl]; rfl⟩
theorem evd_list {es : List Expr} {ds : List Dat} {p : Pos} (H : EvDs prog w A E env g L m es ds) (hz : es.length ≤ 1000) : EvD prog w A E env g L m (.List es p) (.list ds) := fun s nw F N => by
  refine wpAny_List (wpAny_mono (evds_spliced H s nw F N) (fun vs s₁ h₁ => ?_) fun _ _ e => e)
  obtain ⟨h1, tk1, nw1, rfl, F1, N1, ha, hl⟩ := h₁
  refine ⟨by rw [hl, sizeLine_eq]; omega, h1.push { cls := .type "list", data := .seq vs.toArray }, tk1, (h1.objs.size, listOf vs.toArray 0) :: nw1, rfl, F1.push _, fun q hq => ?_, .list (.head _) (DatAll.mono (fun q hq => .tail _ hq) ha)⟩
  rcases List.mem_cons.mp hq with rfl | hq
  · exact ⟨Heap.get?_push_size _ rfl, Nat.ne_of_gt F1.ns.lt, next_is_new F1⟩
  · exact ⟨Heap.get?_push_of_some _ (N1 q hq).1, (N1 q hq).2⟩
theorem st_c (c : Const) (k : Nat) (p : Pos) (env : Env) (rest : List Expr) : starEach (.Constant c k p :: rest) env = (false, eval (.Constant c k p) env) :: starEach rest env := rfl
theorem st_l (es : List Expr) (p : Pos) (env : Env) (rest : List Expr) : starEach (.List es p :: rest) env = (false, eval (.List es p) env) :: starEach rest env := rfl
end
end Mine
end

section
open PySem PySem.W PyProof.Rows
set_option Elab.async false
set_option maxRecDepth 100000
set_option maxHeartbeats 2000000
namespace Mine
section
variable {M : Model} {A : Around} {E : Value → Shared → Prop} {s : Shared} {env : Env}
theorem aAssign {x : Str} {pos' pos : Pos} {value : Expr} {Q : Flow → Shared → Prop}
    (hs : swapsWith value (some (.Name x pos')) pos.line env = pure false)
    (h : wpAny M A (eval value env) (fun v s₁ => wpAny M A (storeName env x v) (fun _ s₂ => Q .next s₂) E s₁) E s) : wpAny M A (exec (.Assign [.Name x pos'] value pos) env) Q E s := by
  rw [exec_Assign_Name env x pos' value pos hs]
  refine wpAny_bind (wpAny_standAt (wpAny_bind (wpAny_mono h (fun v s₁ h₁ => ?_) fun _ _ x => x)))
  refine wpAny_bind (wpAny_standAt (wpAny_bind ?_))
  exact wpAny_bindName (wpAny_mono h₁ (fun _ _ q => wpAny_pure q) fun _ _ q => q)
end
def rowD (c : PySem.Str) (b h : List Dat) : Dat := .list [.str c, .list b, .list h]
def rA : Dat := .list [.str (Str.ofString "[ab]"), .list [.str (Str.ofString "[ab]")], .list [.str (Str.ofString "\\]"), .str (Str.ofString "b"), .str (Str.ofString "a"), .str (Str.ofString "\\[")]]
def rB : Dat := .list [.str (Str.ofString "[!b]"), .list [.str (Str.ofString "[^b]")], .list [.str (Str.ofString "\\]"), .str (Str.ofString "b"), .str (Str.ofString "!"), .str (Str.ofString "\\[")]]
def rC : Dat := .list [.str (Str.ofString "**?a"), .list [.none, .str (Str.ofString "."), .str (Str.ofString "a")], .list [.str (Str.ofString "a"), .str (Str.ofString "."), .none]]
def rD : Dat := .list [.str (Str.ofString "a*?a"), .list [.str (Str.ofString "a"), .none, .str (Str.ofString "."), .str (Str.ofString "a")], .list [.str (Str.ofString "a"), .str (Str.ofString "."), .none, .str (Str.ofString "a")]]
theorem datL {nw : List (Addr × Obj)} {v : Value} {ds : List Dat} (h : DatIn nw v (.list ds)) : ∃ R vs k, v = .ref R ∧ (R, listOf (List.toArray vs) k) ∈ nw ∧ DatAll nw vs ds := by
  cases h with
  | @list R vs k _ hm ha => exact ⟨R, vs, k, rfl, hm, ha⟩
theorem datLen {nw : List (Addr × Obj)} : ∀ {ds : List Dat} {vs : List Value}, DatAll nw vs ds → vs.length = ds.length := by
  intro ds
  induction ds with
  | nil => intro vs h; cases h; rfl
  | cons d ds ih => intro vs h; cases h with | cons h t => rw [List.length_cons, List.length_cons, ih t]
theorem datApp {nw : List (Addr × Obj)} {es : List Dat} {ws : List Value} (h2 : DatAll nw ws es) : ∀ {ds : List Dat} {vs : List Value}, DatAll nw vs ds → DatAll nw (vs ++ ws) (ds ++ es) := by
  intro ds
  induction ds with
  | nil => intro vs h; cases h; exact h2
  | cons d ds ih => intro vs h; cases h with | cons h t => exact .cons h (ih t)
theorem lw6 (w : World) (news : List (Addr × Obj)) : theLaw = theLaw →
  ∀ (loose : List Str) (mean : ExcName → Option Value) (mg mb : Str → Option Value) (dp un : Nat) (gd : Option (List Code)) (a : Addr) (ccd : Value) (A₀ : Around) (base g : Heap) (L : Addr) (m : Str → Option Value) (s : Shared) (E : Value → Shared → Prop),
    Below A₀ base [] g → Fr g L s.heap m → (hd0.heap_1 w.params).In g → News g L s.heap news → Top topProg loose mean mg mb g → dp + 10 < recursionLimit → un + 100 < cLine →
    wpAny (model PySem.Challenge.rw_rx0034_01.row.prog w) (ktrTop dp un gd (Str.ofString "law") lawScope L a ccd [] []) (exec (lawB.getD 5 default) (lawEnv L a ccd)) (fun f s' => f = .next ∧ ∃ h tk R vs k nw, s' = { s with heap := h, toks := tk } ∧ Fr g L h (fun y => if y = Str.ofString "rows" then some (.ref R) else m y) ∧ News g L h (nw ++ news) ∧ (R, listOf (List.toArray vs) k) ∈ nw ∧ DatAll nw vs [rA, rB]) E s := by
  k_fill
  intro _
  intro loose mean mg mb dp un gd a ccd A₀ base g L m s E B F X N T hd' hu
  show wpAny _ _ (exec (Stmt.Assign [.Name _ _] _ _) _) _ _ _
  refine aAssign ?_ ?_
  · rfl
  refine EvD.run (m := m) (g := g) (L := L) (nw := news) (d := .list [rA, rB]) ?_ ?_ ?_ ?_
  · refine evd_list ?_ ?_
    · refine .cons ?_ (st_l _ _ _) ?_
      · refine evd_list ?_ ?_
        · refine .cons ?_ (st_c _ _ _ _) ?_
          · exact evd_str
          · refine .cons ?_ (st_l _ _ _) ?_
            · refine evd_list ?_ ?_
              · refine .cons ?_ (st_c _ _ _ _) ?_
                · exact evd_str
                · exact .nil
              · exact Nat.le_of_ble_eq_true rfl
            · refine .cons ?_ (st_l _ _ _) ?_
              · refine evd_list ?_ ?_
                · refine .cons ?_ (st_c _ _ _ _) ?_
                  · exact evd_str
                  · refine .cons ?_ (st_c _ _ _ _) ?_
                    · exact evd_str
                    · refine .cons ?_ (st_c _ _ _ _) ?_
                      · exact evd_str
                      · refine .cons ?_ (st_c _ _ _ _) ?_
                        · exact evd_str
                        · exact .nil
                · exact Nat.le_of_ble_eq_true rfl
              · exact .nil
        · exact Nat.le_of_ble_eq_true rfl
      · refine .cons ?_ (st_l _ _ _) ?_
        · refine evd_list ?_ ?_
          · refine .cons ?_ (st_c _ _ _ _) ?_
            · exact evd_str
            · refine .cons ?_ (st_l _ _ _) ?_
              · refine evd_list ?_ ?_
                · refine .cons ?_ (st_c _ _ _ _) ?_
                  · exact evd_str
                  · exact .nil
                · exact Nat.le_of_ble_eq_true rfl
              · refine .cons ?_ (st_l _ _ _) ?_
                · refine evd_list ?_ ?_
                  · refine .cons ?_ (st_c _ _ _ _) ?_
                    · exact evd_str
                    · refine .cons ?_ (st_c _ _ _ _) ?_
                      · exact evd_str
                      · refine .cons ?_ (st_c _ _ _ _) ?_
                        · exact evd_str
                        · refine .cons ?_ (st_c _ _ _ _) ?_
                          · exact evd_str
                          · exact .nil
                  · exact Nat.le_of_ble_eq_true rfl
                · exact .nil
          · exact Nat.le_of_ble_eq_true rfl
        · exact .nil
    · exact Nat.le_of_ble_eq_true rfl
  · exact F
  · exact N
  intro v h1 tk1 nw F1 N1 hd
  obtain ⟨R, vs, k, rfl, hm, ha⟩ := datL hd
  refine wpAny_storeName_local (by rfl) F1.ns (fun h3 hn3 hs3 => ?_) (by rfl)
  exact ⟨rfl, h3, _, R, vs, k, nw, rfl, frSet F1 hn3 hs3, fun p hp => ⟨hs3.extBut _ _ (N1 p hp).2.1 (N1 p hp).1, (N1 p hp).2⟩, hm, ha⟩
theorem lw7 (w : World) (news : List (Addr × Obj)) (R : Addr) (vs : List Value) (k : Nat) (hm : (R, listOf vs.toArray k) ∈ news) (ha : DatAll news vs [rA, rB]) : theLaw = theLaw →
  ∀ (loose : List Str) (mean : ExcName → Option Value) (mg mb : Str → Option Value) (dp un : Nat) (gd : Option (List Code)) (a : Addr) (ccd : Value) (A₀ : Around) (base g : Heap) (L : Addr) (m : Str → Option Value) (s : Shared) (E : Value → Shared → Prop),
    Below A₀ base [] g → Fr g L s.heap m → (hd0.heap_1 w.params).In g → News g L s.heap news → Top topProg loose mean mg mb g → dp + 10 < recursionLimit → un + 100 < cLine → m (Str.ofString "rows") = some (.ref R) →
    wpAny (model PySem.Challenge.rw_rx0034_01.row.prog w) (ktrTop dp un gd (Str.ofString "law") lawScope L a ccd [] []) (exec (lawB.getD 6 default) (lawEnv L a ccd)) (fun f s' => f = .next ∧ ∃ h tk R vs k nw, s' = { s with heap := h, toks := tk } ∧ Fr g L h (fun y => if y = Str.ofString "rows" then some (.ref R) else m y) ∧ News g L h (nw ++ news) ∧ (R, listOf (List.toArray vs) k) ∈ nw ∧ DatAll (nw ++ news) vs [rA, rB, rC, rD]) E s := by
  k_fill
  intro _
  intro loose mean mg mb dp un gd a ccd A₀ base g L m s E B F X N T hd' hu hmr
  show wpAny _ _ (exec (Stmt.Assign [.Name _ _] _ _) _) _ _ _
  refine aAssign ?_ ?_
  · rfl
  refine wpAny_BinOp (wpAny_cut (fun v s' => v = .ref R ∧ ∃ tk, s' = { s with toks := tk }) ?_ ?_)
  · clear B
    unfold lawEnv lawScope
    rw [m_1 hmr] at F
    k_fold
    k_steps
    exact ⟨rfl, _, rfl⟩
  rintro _ _ ⟨rfl, tk1, rfl⟩
  refine EvD.run (m := m) (g := g) (L := L) (nw := news) (d := .list [rC, rD]) ?_ ?_ ?_ ?_
  · refine evd_list ?_ ?_
    · refine .cons ?_ (st_l _ _ _) ?_
      · refine evd_list ?_ ?_
        · refine .cons ?_ (st_c _ _ _ _) ?_
          · exact evd_str
          · refine .cons ?_ (st_l _ _ _) ?_
            · refine evd_list ?_ ?_
              · refine .cons ?_ (st_c _ _ _ _) ?_
                · exact evd_none
                · refine .cons ?_ (st_c _ _ _ _) ?_
                  · exact evd_str
                  · refine .cons ?_ (st_c _ _ _ _) ?_
                    · exact evd_str
                    · exact .nil
              · exact Nat.le_of_ble_eq_true rfl
            · refine .cons ?_ (st_l _ _ _) ?_
              · refine evd_list ?_ ?_
                · refine .cons ?_ (st_c _ _ _ _) ?_
                  · exact evd_str
                  · refine .cons ?_ (st_c _ _ _ _) ?_
                    · exact evd_str
                    · refine .cons ?_ (st_c _ _ _ _) ?_
                      · exact evd_none
                      · exact .nil
                · exact Nat.le_of_ble_eq_true rfl
              · exact .nil
        · exact Nat.le_of_ble_eq_true rfl
      · refine .cons ?_ (st_l _ _ _) ?_
        · refine evd_list ?_ ?_
          · refine .cons ?_ (st_c _ _ _ _) ?_
            · exact evd_str
            · refine .cons ?_ (st_l _ _ _) ?_
              · refine evd_list ?_ ?_
                · refine .cons ?_ (st_c _ _ _ _) ?_
                  · exact evd_str
                  · refine .cons ?_ (st_c _ _ _ _) ?_
                    · exact evd_none
                    · refine .cons ?_ (st_c _ _ _ _) ?_
                      · exact evd_str
                      · refine .cons ?_ (st_c _ _ _ _) ?_
                        · exact evd_str
                        · exact .nil
                · exact Nat.le_of_ble_eq_true rfl
              · refine .cons ?_ (st_l _ _ _) ?_
                · refine evd_list ?_ ?_
                  · refine .cons ?_ (st_c _ _ _ _) ?_
                    · exact evd_str
                    · refine .cons ?_ (st_c _ _ _ _) ?_
                      · exact evd_str
                      · refine .cons ?_ (st_c _ _ _ _) ?_
                        · exact evd_none
                        · refine .cons ?_ (st_c _ _ _ _) ?_
                          · exact evd_str
                          · exact .nil
                  · exact Nat.le_of_ble_eq_true rfl
                · exact .nil
          · exact Nat.le_of_ble_eq_true rfl
        · exact .nil
    · exact Nat.le_of_ble_eq_true rfl
  · exact F
  · exact N
  intro v h1 tk1 nw F1 N1 hd
  obtain ⟨R2, vs2, k2, rfl, hm2, ha2⟩ := datL hd
  refine add_lists F1 N1 (News.isList N1 (List.mem_append_right _ hm)) (News.isList N1 (List.mem_append_left _ hm2)) (fun h2 F2 N2 => ?_) ?_
  · refine wpAny_storeName_local (by rfl) F2.ns (fun h3 hn3 hs3 => ?_) (by rfl)
    exact ⟨rfl, h3, _, _, vs ++ vs2, 0, _ :: nw, rfl, frSet F2 hn3 hs3, fun p hp => ⟨hs3.extBut _ _ (N2 p hp).2.1 (N2 p hp).1, (N2 p hp).2⟩, .head _, datApp (DatAll.mono (fun p hp => .tail _ (List.mem_append_left _ hp)) ha2) (DatAll.mono (fun p hp => .tail _ (List.mem_append_right _ hp)) ha)⟩
  · rw [datLen ha, datLen ha2, sizeLine_eq]; decide

end Mine
end

section
open PySem PySem.W PyProof.Rows
set_option Elab.async false
set_option maxRecDepth 100000
set_option maxHeartbeats 2000000
namespace Mine
/-- _translate of a text, whatever the table of its code objects -/
def TrOK (w : World) (x : PySem.Str) (ds : List Dat) : Prop := ∀ (t tq : Tok) (ps : Array Value) (news : List (Addr × Obj)), TabOk ps → (∀ p ∈ news, p.1 ≠ 64) → theLaw = theLaw → ConA w 69 4 ((64, tabObj ps) :: news) [.str x t, .none, .str (Str.ofString ".") tq] fun _ _ h₀ L m Q _ s =>
    ∀ (vs : List Value) (k : Nat) (l : Addr) (ps' : Array Value) (h' : Heap) (tk' : Nat), DatAll [] vs ds → TabOk ps' → Fr h₀ L h' m → News h₀ L h' ((l, listOf vs.toArray k) :: (64, tabObj ps') :: news) → Q (.ref l) { s with heap := h', toks := tk' }
noncomputable def rBody : List Stmt := match lawB.getD 7 default with
  | .For _ _ b _ _ => b
  | _ => []
theorem lr1 (w : World) (news : List (Addr × Obj)) (x : PySem.Str) (tx : Tok) (hx : x.cps.size = 4) (hc : ∀ c ∈ x.cps.toList, c < 128) (hB : ∀ c ∈ swapB x 4 1, c.toNat < 128) : theLaw = theLaw →
  ∀ (loose : List Str) (mean : ExcName → Option Value) (mg mb : Str → Option Value) (dp un : Nat) (gd : Option (List Code)) (a : Addr) (ccd : Value) (A₀ : Around) (base g : Heap) (L : Addr) (m : Str → Option Value) (s : Shared) (E : Value → Shared → Prop),
    Below A₀ base [] g → Fr g L s.heap m → (hd0.heap_1 w.params).In g → News g L s.heap news → Top topProg loose mean mg mb g → dp + 10 < recursionLimit → un + 100 < cLine → m (Str.ofString "cell") = some (.str x tx) →
    wpC (model PySem.Challenge.rw_rx0034_01.row.prog w) (ktrTop dp un gd (Str.ofString "law") lawScope L a ccd [] []) (exec (rBody.getD 0 default) (lawEnv L a ccd)) (fun f s' => f = .next ∧ ∃ h tk t, s' = { s with heap := h, toks := tk } ∧ Fr g L h (fun y => if y = Str.ofString "turned" then some (.str (swapS x 4 1) t) else m y) ∧ News g L h news) E s := by
  k_fill
  intro _
  intro loose mean mg mb dp un gd a ccd A₀ base g L m s E B F X N T hd' hu hmt
  show wpC _ _ (exec (Stmt.Assign _ _ _) _) _ _ _
  have hM := m_1 hmt
  rw [hM] at F
  unfold lawEnv lawScope
  refine cAssign rfl (cEvalCall (wpC_cut (fun v s' => v = .ref 83 ∧ ∃ tk, s' = { s with toks := tk }) ?_ ?_))
  · clear B
    k_fold
    k_steps
    exact ⟨rfl, _, rfl⟩
  rintro _ _ ⟨rfl, tk, rfl⟩
  refine cCallF (K := hd0.heap_1 w.params) rfl rfl rfl (cSplicedB rfl (wpC_cut (fun v s' => v = .str x tx ∧ ∃ tk, s' = { s with toks := tk }) ?_ ?_))
  · clear B
    k_fold
    k_steps
    exact ⟨rfl, _, rfl⟩
  rintro _ _ ⟨rfl, tk1, rfl⟩
  refine cSplicedB rfl (wpC_cut (fun v s' => ∃ t tk, v = .int ((4 : Nat) : Int) t ∧ s' = { s with toks := tk }) ?_ ?_)
  · clear B
    k_fold
    k_steps
    exact ⟨_, _, rfl, rfl⟩
  rintro _ _ ⟨tw, tk2, rfl, rfl⟩
  refine cSplicedNil ⟨X.keeps F.keep, ?_⟩
  refine' ls w x (by omega) (by omega) hc 4 1 (by decide) (by decide) (by omega) hB tx tw news rfl _ _ _ _ _ _ _ _ _ _ _ _ _ _ _ _ _ _ _ _ _ ?k1 ?k2 ?k3 ?k4 ?k5 ?_ ?_ ?_ ?_
  case k1 => exact B
  case k2 => exact F
  case k3 => exact X
  case k4 => exact N
  case k5 => exact T
  · exact rfl
  · exact Nat.lt_of_le_of_lt (Nat.add_le_add_left (by decide) dp) hd'
  · exact Nat.lt_of_le_of_lt (Nat.add_le_add_left (by decide) un) hu
  intro t3 h3 tk3 F3 N3
  refine wpAny_cut (fun _ s' => ∃ h tk, s' = { s with heap := h, toks := tk } ∧ Fr g L h (fun y => if y = Str.ofString "turned" then some (.str (swapS x 4 1) t3) else m y) ∧ News g L h news) ?_ ?_
  · clear B
    k_fold
    k_steps
    refine ⟨_, _, rfl, ?_, by assumption⟩
    rw [hM]
    assumption
  rintro _ _ ⟨h4, tk4, rfl, F4, N4⟩
  exact ⟨rfl, _, _, t3, rfl, F4, N4⟩
theorem ne64 {g h : Heap} {L l : Addr} {xs : Array Value} {k : Nat} {ps : Array Value} {r : List (Addr × Obj)} (N : News g L h ((l, listOf xs k) :: (64, tabObj ps) :: r)) : l ≠ 64 := fun e => by
  have a := (N _ (.head _)).1
  have b := (N _ (.tail _ (.head _))).1
  rw [e] at a
  rw [b] at a
  cases a
theorem newsSw {g h : Heap} {L : Addr} {a b : Addr × Obj} {r : List (Addr × Obj)} (N : News g L h (a :: b :: r)) : News g L h (b :: a :: r) := fun p hp => by
  rcases List.mem_cons.mp hp with rfl | hp
  · exact N _ (.tail _ (.head _))
  · rcases List.mem_cons.mp hp with rfl | hp
    · exact N _ (.head _)
    · exact N p (.tail _ (.tail _ hp))
theorem okRow {b bh : List Dat} (hb : ∀ d ∈ b, kqdOk 7 d = true) (hh : ∀ d ∈ bh, kqdOk 7 d = true) : ∀ d ∈ [Dat.list b, Dat.list bh, Dat.list b], kqdOk 8 d = true := by
  intro d hd
  have : ∀ ds : List Dat, (∀ d ∈ ds, kqdOk 7 d = true) → kqdOk 8 (Dat.list ds) = true := fun ds h => by rw [kqdOk]; exact List.all_eq_true.mpr h
  simp only [List.mem_cons, List.not_mem_nil, or_false] at hd
  rcases hd with rfl | rfl | rfl
  · exact this _ hb
  · exact this _ hh
  · exact this _ hb
theorem datNil {nw : List (Addr × Obj)} {vs : List Value} {ds : List Dat} (h : DatAll [] vs ds) : DatAll nw vs ds := DatAll.mono (fun p h => by cases h) h
theorem lm5 {m : Str → Option Value} {a b c d : Option Value} (h1 : m (Str.ofString "cell") = a) (h2 : m (Str.ofString "turned") = b) (h3 : m (Str.ofString "before") = c) (h4 : m (Str.ofString "behind") = d) :
    m = fun z => if z = Str.ofString "cell" then a else if z = Str.ofString "turned" then b else if z = Str.ofString "before" then c else if z = Str.ofString "behind" then d else m z := by
  funext z
  split
  · rename_i e; rw [e, h1]
  · split
    · rename_i e; rw [e, h2]
    · split
      · rename_i e; rw [e, h3]
      · split
        · rename_i e; rw [e, h4]
        · rfl
theorem lr2 (w : World) (news : List (Addr × Obj)) (ps : Array Value) (hps : TabOk ps) (h64 : ∀ p ∈ news, p.1 ≠ 64) (x : PySem.Str) (tx ty : Tok) (b bh : List Dat) (Ba Bh : Addr) (bv hv : List Value) (kb kh : Nat) (hx : x.cps.size = 4) (hy : (swapS x 4 1).cps.size = 4) (hcy : ∀ c ∈ (swapS x 4 1).cps.toList, c < 128) (hB2 : ∀ c ∈ swapB (swapS x 4 1) 4 1, c.toNat < 128) (HX : swapS (swapS x 4 1) 4 1 = x)
    (T1 : TrOK w x b) (T2 : TrOK w (swapS x 4 1) bh) (mb1 : (Ba, listOf bv.toArray kb) ∈ news) (mh1 : (Bh, listOf hv.toArray kh) ∈ news) (db : DatAll news bv b) (dh : DatAll news hv bh) (okb : ∀ d ∈ b, kqdOk 7 d = true) (okh : ∀ d ∈ bh, kqdOk 7 d = true) : theLaw = theLaw →
  ∀ (loose : List Str) (mean : ExcName → Option Value) (mg mb : Str → Option Value) (dp un : Nat) (gd : Option (List Code)) (a : Addr) (ccd : Value) (A₀ : Around) (base g : Heap) (L : Addr) (m : Str → Option Value) (s : Shared) (E : Value → Shared → Prop),
    Below A₀ base [] g → Fr g L s.heap m → (hd0.heap_1 w.params).In g → News g L s.heap ((64, tabObj ps) :: news) → Top topProg loose mean mg mb g → dp + 10 < recursionLimit → un + 100 < cLine → m (Str.ofString "cell") = some (.str x tx) → m (Str.ofString "turned") = some (.str (swapS x 4 1) ty) → m (Str.ofString "before") = some (.ref Ba) → m (Str.ofString "behind") = some (.ref Bh) →
    wpC (model PySem.Challenge.rw_rx0034_01.row.prog w) (ktrTop dp un gd (Str.ofString "law") lawScope L a ccd [] []) (exec (rBody.getD 1 default) (lawEnv L a ccd)) (fun f s' => f = .next ∧ ∃ h tk ps', s' = { s with heap := h, toks := tk } ∧ TabOk ps' ∧ Fr g L h m ∧ News g L h ((64, tabObj ps') :: news)) E s := by
  k_fill
  intro _
  intro loose mean mg mb dp un gd a ccd A₀ base g L m s E B F X N T hd' hu hmc hmt hmb hmh
  show wpC _ _ (exec (Stmt.If _ _ _ _) _) _ _ _
  have hM := lm5 hmc hmt hmb hmh
  have hcon : ∀ z ds, TrOK w z ds → ∀ tz tq ps nw m2 (Q' E' : Value → Shared → Prop) s2, TabOk ps → (∀ p ∈ nw, p.1 ≠ 64) → Fr g L s2.heap m2 → News g L s2.heap ((64, tabObj ps) :: nw) → (∀ (vs : List Value) (k : Nat) (l : Addr) (ps' : Array Value) (h' : Heap) (tk' : Nat), DatAll [] vs ds → TabOk ps' → Fr g L h' m2 → News g L h' ((l, listOf vs.toArray k) :: (64, tabObj ps') :: nw) → Q' (.ref l) { s2 with heap := h', toks := tk' }) → wpAny (model PySem.Challenge.rw_rx0034_01.row.prog w) (ktrTop dp un gd (Str.ofString "law") lawScope L a ccd [] []) (call (.ref 69) [.str z tz, .none, .str (Str.ofString ".") tq]) Q' E' s2 := by
    intro z ds H tz tq ps nw m2 Q' E' s2 hps hnw F2 N2 hQ
    refine' H tz tq ps nw hps hnw rfl _ _ _ _ _ _ _ _ _ _ _ _ _ _ _ _ _ _ _ _ _ ?k1 ?k2 ?k3 ?k4 ?k5 ?_ ?_ ?_ ?_
    case k1 => exact B
    case k2 => exact F2
    case k3 => exact X
    case k4 => exact N2
    case k5 => exact T
    · exact rfl
    · exact Nat.lt_of_le_of_lt (Nat.add_le_add_left (by decide) dp) hd'
    · exact Nat.lt_of_le_of_lt (Nat.add_le_add_left (by decide) un) hu
    exact hQ
  unfold lawEnv lawScope at *
  refine cIf (cIsCmp (cEvalList (cSplicedB rfl (wpC_cut (fun v s' => ∃ l vs k ps' h tk, v = .ref l ∧ s' = { s with heap := h, toks := tk } ∧ DatAll [] vs b ∧ TabOk ps' ∧ Fr g L h m ∧ News g L h ((l, listOf (List.toArray vs) k) :: (64, tabObj ps') :: news)) ?_ ?_))))
  · clear B
    have F9 := F
    rw [hM] at F9
    show wpAny _ _ (eval _ _) _ _ _
    k_fold
    k_steps
    refine hcon x b T1 _ _ ps news m _ _ _ hps h64 F N fun vs k l ps' h2 tk2 hd9 hp F2 N2 => ?_
    k_steps
    exact ⟨l, vs, k, ps', _, _, rfl, rfl, hd9, hp, F2, N2⟩
  rintro _ _ ⟨l1, v1, k1, ps1, h1, tk1, rfl, rfl, d1, hp1, F1, N1⟩
  have n1 := ne64 N1
  have N1' : News g L h1 ((64, tabObj ps1) :: (l1, listOf v1.toArray k1) :: news) := newsSw N1
  have h64a : ∀ p ∈ (l1, listOf v1.toArray k1) :: news, p.1 ≠ 64 := fun p hp => by
    rcases List.mem_cons.mp hp with rfl | hp
    · exact n1
    · exact h64 p hp
  refine cSplicedB rfl (wpC_cut (fun v s' => ∃ l vs k ps' h tk, v = .ref l ∧ s' = { s with heap := h, toks := tk } ∧ DatAll [] vs bh ∧ TabOk ps' ∧ Fr g L h m ∧ News g L h ((l, listOf (List.toArray vs) k) :: (64, tabObj ps') :: (l1, listOf v1.toArray k1) :: news)) ?_ ?_)
  · clear B F N N1
    have F9 := F1
    rw [hM] at F9
    show wpAny _ _ (eval _ _) _ _ _
    k_fold
    k_steps
    refine hcon (swapS x 4 1) bh T2 _ _ ps1 _ m _ _ _ hp1 h64a F1 N1' fun vs k l ps' h2 tk2 hd9 hp F2 N2 => ?_
    k_steps
    exact ⟨l, vs, k, ps', _, _, rfl, rfl, hd9, hp, F2, N2⟩
  rintro _ _ ⟨l2, v2, k2, ps2, h2, tk2, rfl, rfl, d2, hp2, F2, N2⟩
  have n2 := ne64 N2
  have N2' : News g L h2 ((64, tabObj ps2) :: (l2, listOf v2.toArray k2) :: (l1, listOf v1.toArray k1) :: news) := newsSw N2
  have h64b : ∀ p ∈ (l2, listOf v2.toArray k2) :: (l1, listOf v1.toArray k1) :: news, p.1 ≠ 64 := fun p hp => by
    rcases List.mem_cons.mp hp with rfl | hp
    · exact n2
    · exact h64a p hp
  clear N1 N1' N2 F N
  have F9 := F2
  rw [hM] at F9
  refine cSplicedB rfl (cEvalCall (wpC_cut (fun v s' => v = .ref 69 ∧ ∃ tk, s' = { s with heap := h2, toks := tk }) ?_ ?_))
  · clear B
    show wpAny _ _ (eval _ _) _ _ _
    k_fold
    k_steps
    exact ⟨rfl, _, rfl⟩
  rintro _ _ ⟨rfl, tk3, rfl⟩
  refine cCallF (K := hd0.heap_1 w.params) rfl rfl rfl (cSplicedB rfl (cEvalCall (wpC_cut (fun v s' => v = .ref 83 ∧ ∃ tk, s' = { s with heap := h2, toks := tk }) ?_ ?_)))
  · clear B
    show wpAny _ _ (eval _ _) _ _ _
    k_fold
    k_steps
    exact ⟨rfl, _, rfl⟩
  rintro _ _ ⟨rfl, tk4, rfl⟩
  refine cCallF (K := hd0.heap_1 w.params) rfl rfl rfl (cSplicedB rfl (wpC_cut (fun v s' => v = .str (swapS x 4 1) ty ∧ ∃ tk, s' = { s with heap := h2, toks := tk }) ?_ ?_))
  · clear B
    show wpAny _ _ (eval _ _) _ _ _
    k_fold
    k_steps
    exact ⟨rfl, _, rfl⟩
  rintro _ _ ⟨rfl, tk5, rfl⟩
  refine cSplicedB rfl (wpC_cut (fun v s' => ∃ t tk, v = .int ((4 : Nat) : Int) t ∧ s' = { s with heap := h2, toks := tk }) ?_ ?_)
  · clear B
    show wpAny _ _ (eval _ _) _ _ _
    k_fold
    k_steps
    exact ⟨_, _, rfl, rfl⟩
  rintro _ _ ⟨tw, tk6, rfl, rfl⟩
  refine cSplicedNil ⟨X.keeps F2.keep, ?_⟩
  refine' ls w (swapS x 4 1) (by omega) (by omega) hcy 4 1 (by decide) (by decide) (by omega) hB2 ty tw _ rfl _ _ _ _ _ _ _ _ _ _ _ _ _ _ _ _ _ _ _ _ _ ?k1 ?k2 ?k3 ?k4 ?k5 ?_ ?_ ?_ ?_
  case k1 => exact B
  case k2 => exact F2
  case k3 => exact X
  case k4 => exact N2'
  case k5 => exact T
  · exact rfl
  · exact Nat.lt_of_le_of_lt (Nat.add_le_add_left (by decide) dp) hd'
  · exact Nat.lt_of_le_of_lt (Nat.add_le_add_left (by decide) un) hu
  intro t3 h3 tk7 F3 N3
  rw [HX]
  clear F9 F2 N2' F1
  have F9 := F3
  rw [hM] at F9
  refine cSplicedB rfl (wpC_cut (fun v s' => v = .none ∧ ∃ tk, s' = { s with heap := h3, toks := tk }) ?_ ?_)
  · clear B
    show wpAny _ _ (eval _ _) _ _ _
    k_fold
    k_steps
    exact ⟨rfl, _, rfl⟩
  rintro _ _ ⟨rfl, tk8, rfl⟩
  refine cSplicedB rfl (wpC_cut (fun v s' => ∃ t tk, v = .str (Str.ofString ".") t ∧ s' = { s with heap := h3, toks := tk }) ?_ ?_)
  · clear B
    show wpAny _ _ (eval _ _) _ _ _
    k_fold
    k_steps
    exact ⟨_, _, rfl, rfl⟩
  rintro _ _ ⟨tq, tk9, rfl, rfl⟩
  refine cSplicedNil ⟨X.keeps F3.keep, cOf ?_⟩
  refine hcon x b T1 t3 tq ps2 _ m _ _ _ hp2 h64b F3 N3 fun v3 k3 l3 ps3 h4 tk10 d3 hp3 F4 N4 => ?_
  refine cSplicedNil ⟨by rw [sizeLine_eq]; show 3 ≤ _; decide, ?_⟩
  have F5 : Fr g L (h4.push { cls := .type "list", data := .seq [Value.ref l1, Value.ref l2, Value.ref l3].toArray }) m := F4.push _
  have N5 : News g L (h4.push { cls := .type "list", data := .seq [Value.ref l1, Value.ref l2, Value.ref l3].toArray }) ((h4.objs.size, listOf [Value.ref l1, Value.ref l2, Value.ref l3].toArray 0) :: (l3, listOf v3.toArray k3) :: (64, tabObj ps3) :: (l2, listOf v2.toArray k2) :: (l1, listOf v1.toArray k1) :: news) := News.push F4 N4 _
  show wpC _ _ (eval _ _) _ _ _
  generalize h4.push { cls := .type "list", data := .seq [Value.ref l1, Value.ref l2, Value.ref l3].toArray } = h5 at F5 N5 ⊢
  generalize h4.objs.size = D5 at N5 ⊢
  clear F4 N4 F3 N3 F9
  refine wpC_cut (fun v s' => ∃ D h tk, v = .ref D ∧ s' = { s with heap := h, toks := tk } ∧ Fr g L h m ∧ News g L h ((D, listOf [Value.ref Ba, Value.ref Bh, Value.ref Ba].toArray 0) :: (D5, listOf [Value.ref l1, Value.ref l2, Value.ref l3].toArray 0) :: (l3, listOf v3.toArray k3) :: (64, tabObj ps3) :: (l2, listOf v2.toArray k2) :: (l1, listOf v1.toArray k1) :: news)) ?_ ?_
  · clear B
    have F9 := F5
    rw [hM] at F9
    show wpAny _ _ (eval _ _) _ _ _
    refine wpAny_List (wpAny_cut (fun vs s' => vs = [Value.ref Ba, Value.ref Bh, Value.ref Ba] ∧ ∃ tk, s' = { s with heap := h5, toks := tk }) ?_ ?_)
    · k_fold
      k_steps
      exact ⟨rfl, _, rfl⟩
    rintro _ _ ⟨rfl, tk11, rfl⟩
    exact ⟨by rw [sizeLine_eq]; show 3 ≤ _; decide, _, _, _, rfl, rfl, F5.push _, News.push F5 N5 _⟩
  rintro _ _ ⟨D6, h6, tk11, rfl, rfl, F6, N6⟩
  have dA : DatAll ((D6, listOf [Value.ref Ba, Value.ref Bh, Value.ref Ba].toArray 0) :: (D5, listOf [Value.ref l1, Value.ref l2, Value.ref l3].toArray 0) :: (l3, listOf v3.toArray k3) :: (64, tabObj ps3) :: (l2, listOf v2.toArray k2) :: (l1, listOf v1.toArray k1) :: news) [Value.ref l1, Value.ref l2, Value.ref l3] [Dat.list b, Dat.list bh, Dat.list b] :=
    .cons (.list (.tail _ (.tail _ (.tail _ (.tail _ (.tail _ (.head _)))))) (datNil d1)) (.cons (.list (.tail _ (.tail _ (.tail _ (.tail _ (.head _))))) (datNil d2)) (.cons (.list (.tail _ (.tail _ (.head _))) (datNil d3)) .nil))
  have dB : DatAll news [Value.ref Ba, Value.ref Bh, Value.ref Ba] [Dat.list b, Dat.list bh, Dat.list b] := .cons (.list mb1 db) (.cons (.list mh1 dh) (.cons (.list mb1 db) .nil))
  refine kqd_ne N6 (.tail _ (.head _)) rfl rfl dA (fun _ h => h) (.head _) rfl rfl dB (fun p h => .tail _ (.tail _ (.tail _ (.tail _ (.tail _ (.tail _ h)))))) (okRow okb okh) (okRow okb okh) ?_ ?_
  · show un + 64 < cLine; omega
  rw [@decide_eq_true _ (_) rfl]
  refine wpAny_truthy_bool ?_
  rw [if_neg (by decide)]
  refine cExecsNil ⟨rfl, h6, tk11, ps3, rfl, hp3, F6, fun p hp => ?_⟩
  rcases List.mem_cons.mp hp with rfl | hp
  · exact N6 _ (.tail _ (.tail _ (.tail _ (.head _))))
  · exact N6 p (.tail _ (.tail _ (.tail _ (.tail _ (.tail _ (.tail _ hp))))))

end Mine
end

section
open PySem PySem.W PyProof.Rows
set_option Elab.async false
set_option maxRecDepth 100000
set_option maxHeartbeats 2000000
namespace Mine
def dpc : Option PySem.Str → Dat
  | none => .none
  | some x => .str x
theorem pcs_dat {vs : List Value} {ps : List (Option PySem.Str)} (h : Pcs vs ps) : DatAll [] vs (ps.map dpc) := by
  induction h with
  | nil => exact .nil
  | star _ ih => rw [List.map_append]; exact datApp (.cons .none .nil) ih
  | text x t _ ih => rw [List.map_append]; exact datApp (.cons (.str x t) .nil) ih
theorem trOK_tr (w : World) (x : PySem.Str) (ds : List Dat) (hx : x.cps.size ≤ 100) (hc : ∀ c ∈ x.cps.toList, c ∈ [97, 98, 46, 45, 93, 33, 42, 63, 91]) (hb : ∀ i, i < x.cps.size → x.cps[i]? = some 91 → i + 1 = x.cps.size) (hd : (trL (Str.ofString ".") x.cps.toList []).map dpc = ds) : TrOK w x ds := by
  intro t tq ps news hps h64 _
  intro loose mean mg mb dp un gd cn cs a ccd cl outer A₀ base h₀ L m s Q E B F X N T hk hd' hu hret
  have hb' : ∀ i, x.cps[i]? = some 91 → i + 1 = x.cps.size := fun i h => hb i (Array.getElem?_eq_some_iff.mp h).1 h
  refine' tr w x hx hc hb' t tq .none (.inl rfl) (Str.ofString ".") ((64, tabObj ps) :: news) rfl loose mean mg mb dp un gd cn cs a ccd cl outer A₀ base h₀ L m s Q E B F X N T hk hd' hu ?_
  intro vs k l h' tk' hv F N
  exact hret vs k l ps h' tk' (hd ▸ pcs_dat hv) hps F N
theorem trOK_A (w : World) : TrOK w (Str.ofString "[ab]") [.str (Str.ofString "[ab]")] := by
  intro t tq ps news hps h64 _
  intro loose mean mg mb dp un gd cn cs a ccd cl outer A₀ base h₀ L m s Q E B F X N T hk hd' hu hret
  refine' brA w t tq ps hps news h64 rfl loose mean mg mb dp un gd cn cs a ccd cl outer A₀ base h₀ L m s Q E B F X N T hk hd' hu ?_
  intro u k l ps' h' tk' hp F N
  exact hret [_] k l ps' h' tk' (.cons (.str _ u) .nil) hp F N
theorem trOK_B (w : World) : TrOK w (Str.ofString "[!b]") [.str (Str.ofString "[^b]")] := by
  intro t tq ps news hps h64 _
  intro loose mean mg mb dp un gd cn cs a ccd cl outer A₀ base h₀ L m s Q E B F X N T hk hd' hu hret
  refine' brB w t tq ps hps news h64 rfl loose mean mg mb dp un gd cn cs a ccd cl outer A₀ base h₀ L m s Q E B F X N T hk hd' hu ?_
  intro u k l ps' h' tk' hp F N
  exact hret [_] k l ps' h' tk' (.cons (.str _ u) .nil) hp F N
structure RowF (w : World) (x : PySem.Str) (b bh : List Dat) : Prop where
  hx : x.cps.size = 4
  hc : ∀ c ∈ x.cps.toList, c < 128
  hB : ∀ c ∈ swapB x 4 1, c.toNat < 128
  hy : (swapS x 4 1).cps.size = 4
  hcy : ∀ c ∈ (swapS x 4 1).cps.toList, c < 128
  hB2 : ∀ c ∈ swapB (swapS x 4 1) 4 1, c.toNat < 128
  HX : swapS (swapS x 4 1) 4 1 = x
  T1 : TrOK w x b
  T2 : TrOK w (swapS x 4 1) bh
  okb : ∀ d ∈ b, kqdOk 7 d = true
  okh : ∀ d ∈ bh, kqdOk 7 d = true
theorem row_of (w : World) (x y : PySem.Str) (b bh : List Dat) (e : swapS x 4 1 = y) (e2 : swapS y 4 1 = x) (hx : x.cps.size = 4 ∧ y.cps.size = 4) (hc : ∀ c ∈ x.cps.toList ++ y.cps.toList, c < 128) (hB : ∀ c ∈ swapB x 4 1 ++ swapB y 4 1, c.toNat < 128) (T1 : TrOK w x b) (T2 : TrOK w y bh) (ok : ∀ d ∈ b ++ bh, kqdOk 7 d = true) : RowF w x b bh := by
  subst e
  exact ⟨hx.1, fun c h => hc c (List.mem_append_left _ h), fun c h => hB c (List.mem_append_left _ h), hx.2, fun c h => hc c (List.mem_append_right _ h), fun c h => hB c (List.mem_append_right _ h), e2, T1, T2, fun d h => ok d (List.mem_append_left _ h), fun d h => ok d (List.mem_append_right _ h)⟩
theorem rowA (w : World) : RowF w (Str.ofString "[ab]") [.str (Str.ofString "[ab]")] [.str (Str.ofString "\\]"), .str (Str.ofString "b"), .str (Str.ofString "a"), .str (Str.ofString "\\[")] :=
  row_of w _ (Str.ofString "]ba[") _ _ (by decide +kernel) (by decide +kernel) (by decide +kernel) (by decide +kernel) (by decide +kernel) (trOK_A w) (trOK_tr w _ _ (by decide +kernel) (by decide +kernel) (by decide +kernel) (by kernel_rfl)) (List.all_eq_true.mp (by kernel_rfl))
theorem rowB (w : World) : RowF w (Str.ofString "[!b]") [.str (Str.ofString "[^b]")] [.str (Str.ofString "\\]"), .str (Str.ofString "b"), .str (Str.ofString "!"), .str (Str.ofString "\\[")] :=
  row_of w _ (Str.ofString "]b![") _ _ (by decide +kernel) (by decide +kernel) (by decide +kernel) (by decide +kernel) (by decide +kernel) (trOK_B w) (trOK_tr w _ _ (by decide +kernel) (by decide +kernel) (by decide +kernel) (by kernel_rfl)) (List.all_eq_true.mp (by kernel_rfl))
theorem rowC (w : World) : RowF w (Str.ofString "**?a") [.none, .str (Str.ofString "."), .str (Str.ofString "a")] [.str (Str.ofString "a"), .str (Str.ofString "."), .none] :=
  row_of w _ (Str.ofString "a?**") _ _ (by decide +kernel) (by decide +kernel) (by decide +kernel) (by decide +kernel) (by decide +kernel) (trOK_tr w _ _ (by decide +kernel) (by decide +kernel) (by decide +kernel) (by kernel_rfl)) (trOK_tr w _ _ (by decide +kernel) (by decide +kernel) (by decide +kernel) (by kernel_rfl)) (List.all_eq_true.mp (by kernel_rfl))
theorem rowD' (w : World) : RowF w (Str.ofString "a*?a") [.str (Str.ofString "a"), .none, .str (Str.ofString "."), .str (Str.ofString "a")] [.str (Str.ofString "a"), .str (Str.ofString "."), .none, .str (Str.ofString "a")] :=
  row_of w _ (Str.ofString "a?*a") _ _ (by decide +kernel) (by decide +kernel) (by decide +kernel) (by decide +kernel) (by decide +kernel) (trOK_tr w _ _ (by decide +kernel) (by decide +kernel) (by decide +kernel) (by kernel_rfl)) (trOK_tr w _ _ (by decide +kernel) (by decide +kernel) (by decide +kernel) (by kernel_rfl)) (List.all_eq_true.mp (by kernel_rfl))

end Mine
end

section
open PySem PySem.W PyProof.Rows
set_option Elab.async false
set_option maxRecDepth 100000
set_option maxHeartbeats 2000000
namespace Mine
noncomputable def rTarget : Expr := match lawB.getD 7 default with
  | .For t _ _ _ _ => t
  | _ => default
theorem isl_mk {h : Heap} {a : Addr} {vs : List Value} {k : Nat} (e : h.get? a = some (listOf vs.toArray k)) : h.IsList a vs.toArray := ⟨_, e, rfl, k, rfl⟩
theorem datAt {nw : List (Addr × Obj)} {f : Str × List Dat × List Dat → Dat} : ∀ {rows : List (Str × List Dat × List Dat)} {vs : List Value} {i : Nat} {v : Value}, DatAll nw vs (rows.map f) → vs[i]? = some v → ∃ r ∈ rows, DatIn nw v (f r) := by
  intro rows
  induction rows with
  | nil => intro vs i v h e; rw [List.map_nil] at h; cases h; cases e
  | cons r rows ih =>
    intro vs i v h e
    rw [List.map_cons] at h
    cases h with
    | cons h t =>
      cases i with
      | zero => exact ⟨r, .head _, Option.some.inj e ▸ h⟩
      | succ i => obtain ⟨q, hq, hd⟩ := ih t e; exact ⟨q, .tail _ hq, hd⟩
theorem datS {nw : List (Addr × Obj)} {v : Value} {x : PySem.Str} (h : DatIn nw v (.str x)) : ∃ t, v = .str x t := by
  cases h with
  | str _ t => exact ⟨t, rfl⟩
theorem row3 {nw : List (Addr × Obj)} {vs : List Value} {c : PySem.Str} {b bh : List Dat} (h : DatAll nw vs [.str c, .list b, .list bh]) : ∃ tc B bv kb H hv kh, vs = [.str c tc, .ref B, .ref H] ∧ (B, listOf (List.toArray bv) kb) ∈ nw ∧ (H, listOf (List.toArray hv) kh) ∈ nw ∧ DatAll nw bv b ∧ DatAll nw hv bh := by
  cases h with
  | cons h1 t =>
    cases t with
    | cons h2 t =>
      cases t with
      | cons h3 t =>
        cases t
        obtain ⟨tc, rfl⟩ := datS h1
        obtain ⟨B, bv, kb, rfl, m1, a1⟩ := datL h2
        obtain ⟨H, hv, kh, rfl, m2, a2⟩ := datL h3
        exact ⟨tc, B, bv, kb, H, hv, kh, rfl, m1, m2, a1, a2⟩
theorem lr3 (w : World) (rows : List (Str × List Dat × List Dat)) (news : List (Addr × Obj)) (its : List Value) (I l : Addr) (kp : Nat) (x : PySem.Str) (tx : Tok) (H : ∀ r ∈ rows, RowF w r.1 r.2.1 r.2.2) (h64 : ∀ p ∈ news, p.1 ≠ 64) (hI64 : @Ne Nat I 64) (da : DatAll news its (rows.map fun r => rowD r.1 r.2.1 r.2.2)) (hIl : l ≠ I) : theLaw = theLaw →
  ∀ (loose : List Str) (mean : ExcName → Option Value) (mg mb : Str → Option Value) (dp un : Nat) (gd : Option (List Code)) (a : Addr) (ccd : Value) (A₀ : Around) (base g : Heap) (L : Addr) (m : Str → Option Value) (s : Shared) (E : Value → Shared → Prop),
    Below A₀ base [] g → Fr g L s.heap m → (hd0.heap_1 w.params).In g → ∀ ps, TabOk ps → News g L s.heap ((64, tabObj ps) :: news) → Top topProg loose mean mg mb g → dp + 10 < recursionLimit → un + 100 < cLine → ∀ (i : Nat) (R : Result → Shared → Prop), i ≤ its.length → s.heap.IsListIter I l i → (l, listOf its.toArray kp) ∈ news → @Ne Nat L I → g.get? I = none → (∀ p ∈ news, p.1 ≠ I) → m (Str.ofString "text") = some (.str x tx) →
    (∀ h' tk' m' ps', TabOk ps' → m' (Str.ofString "text") = some (.str x tx) → Fr g L h' m' → News g L h' ((64, tabObj ps') :: news) → R (.ok .next) { s with heap := h', toks := tk' }) →
    codeC (model PySem.Challenge.rw_rx0034_01.row.prog w) (ktrTop dp un gd (Str.ofString "law") lawScope L a ccd [] []) (.forLoop rTarget (.ref I) rBody [] (lawEnv L a ccd)) R s := by
  intro _
  intro loose mean mg mb dp un gd a ccd A₀ base g L m s E B F X ps hps N T hd' hu i R hi hit hl hLI hI₀ offI hmt hret
  have hlen : its.length = rows.length := by rw [datLen da, List.length_map]
  have key : ∀ k i m s ps, TabOk ps → i + k = its.length → Fr g L s.heap m → News g L s.heap ((64, tabObj ps) :: news) → s.heap.IsListIter I l i → m (Str.ofString "text") = some (.str x tx) →
      (∀ h' tk' m' ps', TabOk ps' → m' (Str.ofString "text") = some (.str x tx) → Fr g L h' m' → News g L h' ((64, tabObj ps') :: news) → R (.ok .next) { s with heap := h', toks := tk' }) →
      codeC (model PySem.Challenge.rw_rx0034_01.row.prog w) (ktrTop dp un gd (Str.ofString "law") lawScope L a ccd [] []) (.forLoop rTarget (.ref I) rBody [] (lawEnv L a ccd)) R s := by
    intro k
    have W := Walks.list (prog := PySem.Challenge.rw_rx0034_01.row.prog) (w := w) (A := (ktrTop dp un gd (Str.ofString "law") lawScope L a ccd [] [])) rfl I l hIl its.toArray
    have off2 : ∀ ps, ∀ p ∈ ((64, tabObj ps) :: news), p.1 ≠ I := fun ps p hp => by
      rcases List.mem_cons.mp hp with rfl | hp
      · exact Ne.symm hI64
      · exact offI p hp
    induction k with
    | zero =>
      intro i m s ps hps hik F N hit hmt hret
      obtain rfl : i = its.length := by omega
      refine cForTurn (W.done _ _ _ ⟨by simpa using hit, News.isList N (.tail _ hl)⟩ fun h2 tk2 hk2 => ?_)
      refine cBlockNil (hret h2 tk2 m ps hps hmt (LCg.fr_but F hk2 hLI hI₀) (LCg.news_but N hk2 (off2 ps)))
    | succ k ih =>
      intro i m s ps hps hik F N hit hmt hret
      have hlt : i < its.toArray.size := by simp; omega
      refine cForTurn (W.item i _ _ _ hlt ⟨hit, News.isList N (.tail _ hl)⟩ fun v h2 tk2 hv hst2 hk2 => ?_)
      have F2 := LCg.fr_but F hk2 hLI hI₀
      have N2 := LCg.news_but N hk2 (off2 ps)
      obtain ⟨r, hr, hd⟩ : ∃ r ∈ rows, DatIn news v (rowD r.1 r.2.1 r.2.2) := datAt da (by simpa using hv)
      obtain ⟨Rr, vs, kr, rfl, hm, hall⟩ := datL hd
      obtain ⟨tc, Bb, bv, kb, Bh, hv2, kh, rfl, mb1, mh1, db, dh⟩ := row3 hall
      have HR := H r hr
      obtain ⟨oI, heI, r1, r2⟩ := hst2.1
      have N3 : News g L h2 ((I, oI) :: (64, tabObj ps) :: news) := fun p hp => by
        rcases List.mem_cons.mp hp with rfl | hp
        · exact ⟨heI, Ne.symm hLI, hI₀⟩
        · exact N2 p hp
      refine wpAny_letOwnedTupleGo_listiter hst2.1 ?_
      show wpAny _ _ (assign (.Tuple [.Name _ _, .Name _ _, .Name _ _] _ _) _ _) _ _ _
      refine kun_list F2 N3 (isl_mk (N2 _ (.tail _ hm)).1) rfl rfl rfl fun h3 F3 N3 => ?_
      show wpAny _ _ (assignInOrder [assign (.Name _ _) _, assign (.Name _ _) _, assign (.Name _ _) _] [_, _, _]) _ _ _
      refine assignInOrder_cons (wpAny_assign_Name (wpAny_storeName_local (by rfl) F3.ns (fun h4 hn4 hs4 => ?_) (by rfl)))
      refine assignInOrder_cons (wpAny_assign_Name (wpAny_storeName_local (by rfl) hn4 (fun h5 hn5 hs5 => ?_) (by rfl)))
      refine assignInOrder_cons (wpAny_assign_Name (wpAny_storeName_local (by rfl) hn5 (fun h6 hn6 hs6 => ?_) (by rfl)))
      refine assignInOrder_nil ?_
      have F6 := frSet (frSet (frSet F3 hn4 hs4) hn5 hs5) hn6 hs6
      have N6 : News g L h6 ((64, tabObj ps) :: (I, oI) :: news) := newsSw fun p hp => ⟨hs6.extBut _ _ (N3 p hp).2.1 (hs5.extBut _ _ (N3 p hp).2.1 (hs4.extBut _ _ (N3 p hp).2.1 (N3 p hp).1)), (N3 p hp).2⟩
      clear N3 N2 F3 F2 hn4 hn5 hn6
      have h64' : ∀ p ∈ (I, oI) :: news, p.1 ≠ 64 := fun p hp => by
        rcases List.mem_cons.mp hp with rfl | hp
        · exact hI64
        · exact h64 p hp
      show wpC _ _ (execs [rBody.getD 0 default, rBody.getD 1 default] _) _ _ _
      refine cExecsCons (cMono (lr1 w _ r.1 tc HR.hx HR.hc HR.hB rfl loose mean mg mb dp un gd a ccd A₀ base g L _ _ _ B F6 X N6 T hd' hu ((if_neg (by decide)).trans ((if_neg (by decide)).trans (if_pos rfl)))) (fun f s' h' => ?_) fun _ _ e => e)
      obtain ⟨rfl, h7, tk7, t7, rfl, F7, N7⟩ := h'
      refine cExecsCons (cMono (lr2 w ((I, oI) :: news) ps hps h64' r.1 tc t7 r.2.1 r.2.2 Bb Bh bv hv2 kb kh HR.hx HR.hy HR.hcy HR.hB2 HR.HX HR.T1 HR.T2 (.tail _ mb1) (.tail _ mh1) (DatAll.mono (fun p h => .tail _ h) db) (DatAll.mono (fun p h => .tail _ h) dh) HR.okb HR.okh rfl loose mean mg mb dp un gd a ccd A₀ base g L _ _ _ B F7 X N7 T hd' hu ((if_neg (by decide)).trans ((if_neg (by decide)).trans ((if_neg (by decide)).trans (if_pos rfl)))) (if_pos rfl) ((if_neg (by decide)).trans ((if_neg (by decide)).trans (if_pos rfl))) ((if_neg (by decide)).trans (if_pos rfl))) (fun f s' h' => ?_) fun _ _ e => e)
      obtain ⟨rfl, h8, tk8, ps8, rfl, hps8, F8, N8⟩ := h'
      refine cExecsNil ?_
      refine ih (i + 1) _ _ ps8 hps8 (by omega) F8 (fun p hp => ?_) ⟨oI, (N8 _ (.tail _ (.head _))).1, r1, r2⟩ ((if_neg (by decide)).trans ((if_neg (by decide)).trans ((if_neg (by decide)).trans ((if_neg (by decide)).trans hmt)))) fun h' tk' m' ps' a0 a1 a2 a3 => hret h' tk' m' ps' a0 a1 a2 a3
      rcases List.mem_cons.mp hp with rfl | hp
      · exact N8 _ (.head _)
      · exact N8 p (.tail _ (.tail _ hp))
  exact key (its.length - i) i m s ps hps (by omega) F N hit hmt hret

end Mine
end

section
open PySem PySem.W PyProof.Rows
set_option Elab.async false
set_option maxRecDepth 100000
set_option maxHeartbeats 2000000
namespace Mine
theorem iterL {prog : Program} {w : World} {A : Around} {E : Value → Shared → Prop} {s : Shared} {g : Heap} {L l : Addr} {m : Str → Option Value} {news : List (Addr × Obj)} {its : Array Value} {k : Nat} {Q : Value → Shared → Prop} (F : Fr g L s.heap m) (N : News g L s.heap news) (hl : (l, listOf its k) ∈ news)
    (h : ∀ I h', Fr g L h' m → News g L h' news → h'.IsListIter I l 0 → @Ne Nat L I → g.get? I = none → (∀ p ∈ news, p.1 ≠ I) → Q (.ref I) { s with heap := h' }) : wpAny (model prog w) A (pyIter (.ref l)) Q E s :=
  wpAny_pyIter_list (News.isList N hl) (h _ _ (F.push _) (N.pushKeep _) ⟨_, Heap.get?_push_size _ rfl, rfl, rfl⟩ (Nat.ne_of_lt F.ns.lt) (next_is_new F) fun p hp => Nat.ne_of_lt (Heap.lt_size (N p hp).1))
theorem evd_int {prog : Program} {w : World} {A : Around} {E : Value → Shared → Prop} {env : Env} {g : Heap} {L : Addr} {m : Str → Option Value} {n : Int} {k : Nat} {p : Pos} : EvD prog w A E env g L m (.Constant (.int n) k p) (.int n) := fun s nw F N =>
  wpAny_Constant_int ⟨s.heap, _, [], rfl, F, N, .int n _⟩
def wds : List (Nat × Nat) := [(1, 12), (2, 6), (3, 4), (4, 3), (6, 2), (12, 1)]
theorem dat_wds {x : PySem.Str} {ps : List PySem.Str} {nw : List (Addr × Obj)} : ∀ {ws : List (Nat × Nat)} {vs : List Value}, (∀ p ∈ ws, WF x ps p.1 p.2) → DatAll nw vs (ws.map fun p => Dat.int (p.1 : Int)) → ∀ v ∈ vs, ∃ (wd q : Nat) (t : Tok), v = .int wd t ∧ WF x ps wd q := by
  intro ws
  induction ws with
  | nil => intro vs _ h; rw [List.map_nil] at h; cases h; intro v hv; cases hv
  | cons p ws ih =>
    intro vs H h
    rw [List.map_cons] at h
    cases h with
    | cons h t =>
      intro v hv
      rcases List.mem_cons.mp hv with rfl | hv
      · cases h with
        | int _ t => exact ⟨p.1, p.2, t, rfl, H p (.head _)⟩
      · exact ih (fun q hq => H q (.tail _ hq)) t v hv
theorem lf4 (w : World) (news : List (Addr × Obj)) (x : PySem.Str) (ps : List PySem.Str) (pv : List Value) (Pc : Addr) (kp : Nat) (tx : Tok) (hx : x.cps.size = 12) (hc : ∀ c ∈ x.cps.toList, c ∈ [97, 98, 46, 45, 63]) (hP : (Pc, listOf pv.toArray kp) ∈ news) (hpv : StrsAre pv ps) (hpl : pv.length = 12) (hW : ∀ p ∈ wds, WF x ps p.1 p.2) : theLaw = theLaw →
  ∀ (loose : List Str) (mean : ExcName → Option Value) (mg mb : Str → Option Value) (dp un : Nat) (gd : Option (List Code)) (a : Addr) (ccd : Value) (A₀ : Around) (base g : Heap) (L : Addr) (m : Str → Option Value) (s : Shared) (E : Value → Shared → Prop),
    Below A₀ base [] g → Fr g L s.heap m → (hd0.heap_1 w.params).In g → News g L s.heap news → Top topProg loose mean mg mb g → dp + 10 < recursionLimit → un + 100 < cLine → m (Str.ofString "text") = some (.str x tx) → m (Str.ofString "pieces") = some (.ref Pc) →
    wpC (model PySem.Challenge.rw_rx0034_01.row.prog w) (ktrTop dp un gd (Str.ofString "law") lawScope L a ccd [] []) (exec (lawB.getD 4 default) (lawEnv L a ccd)) (fun f s' => f = .next ∧ ∃ h tk m', s' = { s with heap := h, toks := tk } ∧ m' (Str.ofString "text") = some (.str x tx) ∧ Fr g L h m' ∧ News g L h news) E s := by
  k_fill
  intro _
  intro loose mean mg mb dp un gd a ccd A₀ base g L m s E B F X N T hd' hu hmt hmp
  show wpC _ _ (exec (Stmt.For _ _ _ _ _) _) _ _ _
  refine cFor ?_ (fun _ => rfl)
  refine EvD.run (m := m) (g := g) (L := L) (nw := news) (d := .list (wds.map fun p => Dat.int (p.1 : Int))) ?_ ?_ ?_ ?_
  · refine evd_list ?_ ?_
    · refine .cons ?_ (st_c _ _ _ _) ?_
      · exact evd_int
      · refine .cons ?_ (st_c _ _ _ _) ?_
        · exact evd_int
        · refine .cons ?_ (st_c _ _ _ _) ?_
          · exact evd_int
          · refine .cons ?_ (st_c _ _ _ _) ?_
            · exact evd_int
            · refine .cons ?_ (st_c _ _ _ _) ?_
              · exact evd_int
              · refine .cons ?_ (st_c _ _ _ _) ?_
                · exact evd_int
                · exact .nil
    · exact Nat.le_of_ble_eq_true rfl
  · exact F
  · exact N
  intro v h1 tk1 nw F1 N1 hd1
  obtain ⟨l, its, k, rfl, hm, ha⟩ := datL hd1
  refine iterL F1 N1 (List.mem_append_left _ hm) fun I h2 F2 N2 hit hLI hI₀ off => ?_
  show codeC _ _ (.forLoop fTarget (.ref I) fBody [] _) _ _
  refine lw5 w (nw ++ news) x ps pv its Pc I l kp k tx hx hc (List.mem_append_right _ hP) hpv hpl (dat_wds hW ha) (off _ (List.mem_append_left _ hm)) rfl loose mean mg mb dp un gd a ccd A₀ base g L m _ E B F2 X N2 T hd' hu 0 _ (Nat.zero_le _) hit ?_ hLI hI₀ off hmt hmp ?_
  · exact List.mem_append_left _ hm
  intro h3 tk3 m3 a1 a2 a3 a4
  exact ⟨rfl, h3, tk3, m3, rfl, a1, a3, fun p hp => a4 p (List.mem_append_right _ hp)⟩
theorem lf7 (w : World) (news : List (Addr × Obj)) (R : Addr) (vs : List Value) (kr : Nat) (x : PySem.Str) (tx : Tok) (h64 : ∀ p ∈ news, p.1 ≠ 64) (hm : (R, listOf vs.toArray kr) ∈ news) (da : DatAll news vs [rA, rB, rC, rD]) (ps : Array Value) (hps : TabOk ps) : theLaw = theLaw →
  ∀ (loose : List Str) (mean : ExcName → Option Value) (mg mb : Str → Option Value) (dp un : Nat) (gd : Option (List Code)) (a : Addr) (ccd : Value) (A₀ : Around) (base g : Heap) (L : Addr) (m : Str → Option Value) (s : Shared) (E : Value → Shared → Prop),
    Below A₀ base [] g → Fr g L s.heap m → (hd0.heap_1 w.params).In g → News g L s.heap ((64, tabObj ps) :: news) → Top topProg loose mean mg mb g → dp + 10 < recursionLimit → un + 100 < cLine → m (Str.ofString "text") = some (.str x tx) → m (Str.ofString "rows") = some (.ref R) →
    wpC (model PySem.Challenge.rw_rx0034_01.row.prog w) (ktrTop dp un gd (Str.ofString "law") lawScope L a ccd [] []) (exec (lawB.getD 7 default) (lawEnv L a ccd)) (fun f s' => f = .next ∧ ∃ h tk m' ps', s' = { s with heap := h, toks := tk } ∧ m' (Str.ofString "text") = some (.str x tx) ∧ Fr g L h m' ∧ News g L h ((64, tabObj ps') :: news)) E s := by
  k_fill
  intro _
  intro loose mean mg mb dp un gd a ccd A₀ base g L m s E B F X N T hd' hu hmt hmr
  show wpC _ _ (exec (Stmt.For _ _ _ _ _) _) _ _ _
  refine cFor (wpAny_cut (fun v s' => v = .ref R ∧ ∃ tk, s' = { s with toks := tk }) ?_ ?_) (fun _ => rfl)
  · clear B
    have F9 := F
    rw [m_1 hmr] at F9
    unfold lawEnv lawScope
    show wpAny _ _ (eval _ _) _ _ _
    k_fold
    k_steps
    exact ⟨rfl, _, rfl⟩
  rintro _ _ ⟨rfl, tk1, rfl⟩
  refine iterL (k := kr) (its := vs.toArray) F N (.tail _ hm) fun I h2 F2 N2 hit hLI hI₀ off => ?_
  show codeC _ _ (.forLoop rTarget (.ref I) rBody [] _) _ _
  refine lr3 w [(Str.ofString "[ab]", _, _), (Str.ofString "[!b]", _, _), (Str.ofString "**?a", _, _), (Str.ofString "a*?a", _, _)] news vs I R kr x tx ?_ h64 (Ne.symm (off _ (.head _))) da (off _ (.tail _ hm)) rfl loose mean mg mb dp un gd a ccd A₀ base g L m _ E B F2 X ps hps N2 T hd' hu 0 _ (Nat.zero_le _) hit hm hLI hI₀ (fun p hp => off p (.tail _ hp)) hmt ?_
  · intro r hr
    rcases List.mem_cons.mp hr with rfl | hr
    · exact rowA w
    rcases List.mem_cons.mp hr with rfl | hr
    · exact rowB w
    rcases List.mem_cons.mp hr with rfl | hr
    · exact rowC w
    rcases List.mem_cons.mp hr with rfl | hr
    · exact rowD' w
    · cases hr
  intro h3 tk3 m3 ps3 a0 a1 a2 a3
  exact ⟨rfl, h3, tk3, m3, ps3, rfl, a1, a2, a3⟩
theorem l8 (w : World) (news : List (Addr × Obj)) (x : PySem.Str) (tx : Tok) (hx : x.cps.size = 12) (hc : ∀ c ∈ x.cps.toList, c < 128) : theLaw = theLaw →
  ∀ (loose : List Str) (mean : ExcName → Option Value) (mg mb : Str → Option Value) (dp un : Nat) (gd : Option (List Code)) (a : Addr) (ccd : Value) (A₀ : Around) (base g : Heap) (L : Addr) (m : Str → Option Value) (s : Shared) (E : Value → Shared → Prop),
    Below A₀ base [] g → Fr g L s.heap m → (hd0.heap_1 w.params).In g → News g L s.heap news → Top topProg loose mean mg mb g → dp + 10 < recursionLimit → un + 100 < cLine → (hd0.heap_1 w.params).In base → Top topProg loose mean mg mb base → m (Str.ofString "text") = some (.str x tx) →
    wpC (model PySem.Challenge.rw_rx0034_01.row.prog w) (ktrTop dp un gd (Str.ofString "law") lawScope L a ccd [] []) (exec (lawB.getD 8 default) (lawEnv L a ccd)) (fun f s' => f = .ret (.bool true) ∧ ∃ h tk, s' = { s with heap := h, toks := tk } ∧ Fr g L h m ∧ News g L h news) E s := by
  k_fill
  intro _
  intro loose mean mg mb dp un gd a ccd A₀ base g L m s E B F X N T hd' hu XB TB hmt
  have hM := m_1 hmt
  show wpC _ _ (exec (Stmt.Return (some _) _) _) _ _ _
  unfold lawEnv lawScope at *
  refine cReturn (cEvalAnd2 ?_)
  refine cEvalCall (wpC_cut (fun v s' => v = .ref 100 ∧ ∃ h tk, s' = { s with heap := h, toks := tk } ∧ Fr g L h m ∧ News g L h news) ?_ ?_)
  · clear B
    have F9 := F
    rw [hM] at F9
    show wpAny _ _ (eval _ _) _ _ _
    k_fold
    k_steps
    exact ⟨rfl, _, _, rfl, F, N⟩
  rintro _ _ ⟨rfl, Fh, Ft, rfl, F1, N1⟩
  refine cCallF (K := hd0.heap_1 w.params) rfl rfl rfl (cSplicedB rfl (wpC_cut (fun v s' => v = .str x tx ∧ ∃ tk, s' = { s with heap := Fh, toks := tk }) ?_ ?_))
  · clear B
    have F9 := F1
    rw [hM] at F9
    show wpAny _ _ (eval _ _) _ _ _
    k_fold
    k_steps
    exact ⟨rfl, _, rfl⟩
  rintro _ _ ⟨rfl, Ft2, rfl⟩
  refine cSplicedB rfl (wpC_cut (fun v s' => ∃ t tk, v = .int ((5 : Nat) : Int) t ∧ s' = { s with heap := Fh, toks := tk }) ?_ ?_)
  · clear B
    show wpAny _ _ (eval _ _) _ _ _
    k_fold
    k_steps
    exact ⟨_, _, rfl, rfl⟩
  rintro _ _ ⟨tw, Ft3, rfl, rfl⟩
  refine cSplicedNil ⟨X.keeps F1.keep, ?_⟩
  refine' lr w x (by omega) (by omega) hc 5 2 (by decide) (by decide) (by omega) (by omega) tx tw news rfl _ _ _ _ _ _ _ _ _ _ _ _ _ _ _ _ _ _ _ _ ?k1 ?k2 ?k3 ?k4 ?k5 ?_ ?_ ?_ ?k6 ?k7 ?_
  case k1 => exact B
  case k2 => exact F1
  case k3 => exact X
  case k4 => exact N1
  case k5 => exact T
  case k6 => exact XB
  case k7 => exact TB
  · exact rfl
  · exact Nat.lt_of_le_of_lt (Nat.add_le_add_left (by decide) dp) hd'
  · exact Nat.lt_of_le_of_lt (Nat.add_le_add_left (by decide) un) hu
  intro h5 tk5 F5 N5
  refine ⟨rfl, ?_⟩
  clear F N F1 N1
  refine cEvalCall (wpC_cut (fun v s' => v = .ref 100 ∧ ∃ h tk, s' = { s with heap := h, toks := tk } ∧ Fr g L h m ∧ News g L h news) ?_ ?_)
  · clear B
    have F9 := F5
    rw [hM] at F9
    show wpAny _ _ (eval _ _) _ _ _
    k_fold
    k_steps
    exact ⟨rfl, _, _, rfl, F5, N5⟩
  rintro _ _ ⟨rfl, F5h, F5t, rfl, F51, N51⟩
  refine cCallF (K := hd0.heap_1 w.params) rfl rfl rfl (cSplicedB rfl (wpC_cut (fun v s' => v = .str x tx ∧ ∃ tk, s' = { s with heap := F5h, toks := tk }) ?_ ?_))
  · clear B
    have F9 := F51
    rw [hM] at F9
    show wpAny _ _ (eval _ _) _ _ _
    k_fold
    k_steps
    exact ⟨rfl, _, rfl⟩
  rintro _ _ ⟨rfl, F5t2, rfl⟩
  refine cSplicedB rfl (wpC_cut (fun v s' => ∃ t tk, v = .int ((8 : Nat) : Int) t ∧ s' = { s with heap := F5h, toks := tk }) ?_ ?_)
  · clear B
    show wpAny _ _ (eval _ _) _ _ _
    k_fold
    k_steps
    exact ⟨_, _, rfl, rfl⟩
  rintro _ _ ⟨tw, F5t3, rfl, rfl⟩
  refine cSplicedNil ⟨X.keeps F51.keep, ?_⟩
  refine' lr w x (by omega) (by omega) hc 8 1 (by decide) (by decide) (by omega) (by omega) tx tw news rfl _ _ _ _ _ _ _ _ _ _ _ _ _ _ _ _ _ _ _ _ ?k1 ?k2 ?k3 ?k4 ?k5 ?_ ?_ ?_ ?k6 ?k7 ?_
  case k1 => exact B
  case k2 => exact F51
  case k3 => exact X
  case k4 => exact N51
  case k5 => exact T
  case k6 => exact XB
  case k7 => exact TB
  · exact rfl
  · exact Nat.lt_of_le_of_lt (Nat.add_le_add_left (by decide) dp) hd'
  · exact Nat.lt_of_le_of_lt (Nat.add_le_add_left (by decide) un) hu
  intro h6 tk6 F6 N6
  exact ⟨rfl, _, _, rfl, F6, N6⟩

end Mine
end

section
open PySem PySem.W PyProof.Rows
set_option Elab.async false
set_option maxRecDepth 100000
set_option maxHeartbeats 2000000
namespace Mine
mutual
theorem datIn_sub {nw nw' : List (Addr × Obj)} (hs : ∀ p ∈ nw, (p.2.cls = .type "list" ∨ p.2.cls = .type "tuple") → p ∈ nw') : ∀ {v : Value} {d : Dat}, DatIn nw v d → DatIn nw' v d
  | _, _, .none => .none
  | _, _, .bool b => .bool b
  | _, _, .int i t => .int i t
  | _, _, .str x t => .str x t
  | _, _, .bytes b t => .bytes b t
  | _, _, .tuple h r => .tuple (hs _ h (.inr rfl)) (datAll_sub hs r)
  | _, _, .list h r => .list (hs _ h (.inl rfl)) (datAll_sub hs r)
theorem datAll_sub {nw nw' : List (Addr × Obj)} (hs : ∀ p ∈ nw, (p.2.cls = .type "list" ∨ p.2.cls = .type "tuple") → p ∈ nw') : ∀ {vs : List Value} {ds : List Dat}, DatAll nw vs ds → DatAll nw' vs ds
  | _, _, .nil => .nil
  | _, _, .cons h r => .cons (datIn_sub hs h) (datAll_sub hs r)
end
theorem cStep {prog : Program} {w : World} {A : Around} {E : Value → Shared → Prop} {s : Shared} {env : Env} {st : Stmt} {rest : List Stmt} {Q : Flow → Shared → Prop} {P : Shared → Prop} (h : wpC (model prog w) A (exec st env) (fun f s' => f = .next ∧ P s') E s) (k : ∀ s', P s' → wpC (model prog w) A (execs rest env) Q E s') : wpC (model prog w) A (execs (st :: rest) env) Q E s :=
  cExecsCons (cMono h (fun f s' h' => by obtain ⟨rfl, h'⟩ := h'; exact k s' h') fun _ _ e => e)
theorem sgn_in {ks : List Nat} (h5 : ∀ k ∈ ks, k < 5) : ∀ c ∈ (ks.map sgn).toArray.toList, c ∈ [97, 98, 46, 45, 63] := by
  intro c hc
  rw [List.toList_toArray] at hc
  obtain ⟨k, hk, rfl⟩ := List.mem_map.mp hc
  have := h5 k hk
  clear hk hc h5
  revert this
  have : ∀ k < 5, sgn k ∈ [97, 98, 46, 45, 63] := by decide
  exact this k
def Sm (s s' : Shared) : Prop := s'.gens = s.gens ∧ s'.drawn = s.drawn ∧ s'.os = s.os
theorem sm_of {s s' : Shared} {h : Heap} {tk : Nat} (e : s' = { s with heap := h, toks := tk }) : s'.heap = h ∧ Sm s s' := by subst e; exact ⟨rfl, rfl, rfl, rfl⟩
theorem Sm.trans {s s' s'' : Shared} (a : Sm s s') (b : Sm s' s'') : Sm s s'' := ⟨b.1.trans a.1, b.2.1.trans a.2.1, b.2.2.trans a.2.2⟩
theorem Sm.fin {s s' : Shared} (a : Sm s s') : s' = { s with heap := s'.heap, toks := s'.toks } := by
  cases s; cases s'; obtain ⟨a, b, c⟩ := a; dsimp only at a b c; subst a; subst b; subst c; rfl
def AllWF : Prop := ∀ ks : List Nat, ks.length = 12 → (∀ k ∈ ks, k < 5) → ∀ p ∈ wds, WF ⟨(ks.map sgn).toArray⟩ (ks.map pieceK) p.1 p.2
theorem lawEx : ∃ S : List Stmt, S = lawB := ⟨_, rfl⟩
/-- the law's statements, shut to reduction -/
noncomputable def lawS : List Stmt := Classical.choose lawEx
theorem lawS_eq : lawS = lawB := Classical.choose_spec lawEx
theorem lw6S (w : World) (news : List (Addr × Obj)) : theLaw = theLaw →
  ∀ (loose : List Str) (mean : ExcName → Option Value) (mg mb : Str → Option Value) (dp un : Nat) (gd : Option (List Code)) (a : Addr) (ccd : Value) (A₀ : Around) (base g : Heap) (L : Addr) (m : Str → Option Value) (s : Shared) (E : Value → Shared → Prop),
    Below A₀ base [] g → Fr g L s.heap m → (hd0.heap_1 w.params).In g → News g L s.heap news → Top topProg loose mean mg mb g → dp + 10 < recursionLimit → un + 100 < cLine →
    wpAny (model PySem.Challenge.rw_rx0034_01.row.prog w) (ktrTop dp un gd (Str.ofString "law") lawScope L a ccd [] []) (exec (lawS.getD 5 default) (lawEnv L a ccd)) (fun f s' => f = .next ∧ ∃ h tk R vs k nw, s' = { s with heap := h, toks := tk } ∧ Fr g L h (fun y => if y = Str.ofString "rows" then some (.ref R) else m y) ∧ News g L h (nw ++ news) ∧ (R, listOf (List.toArray vs) k) ∈ nw ∧ DatAll nw vs [rA, rB]) E s := by
  rw [lawS_eq]
  exact @lw6 w news
theorem lw7S (w : World) (news : List (Addr × Obj)) (R : Addr) (vs : List Value) (k : Nat) (hm : (R, listOf vs.toArray k) ∈ news) (ha : DatAll news vs [rA, rB]) : theLaw = theLaw →
  ∀ (loose : List Str) (mean : ExcName → Option Value) (mg mb : Str → Option Value) (dp un : Nat) (gd : Option (List Code)) (a : Addr) (ccd : Value) (A₀ : Around) (base g : Heap) (L : Addr) (m : Str → Option Value) (s : Shared) (E : Value → Shared → Prop),
    Below A₀ base [] g → Fr g L s.heap m → (hd0.heap_1 w.params).In g → News g L s.heap news → Top topProg loose mean mg mb g → dp + 10 < recursionLimit → un + 100 < cLine → m (Str.ofString "rows") = some (.ref R) →
    wpAny (model PySem.Challenge.rw_rx0034_01.row.prog w) (ktrTop dp un gd (Str.ofString "law") lawScope L a ccd [] []) (exec (lawS.getD 6 default) (lawEnv L a ccd)) (fun f s' => f = .next ∧ ∃ h tk R vs k nw, s' = { s with heap := h, toks := tk } ∧ Fr g L h (fun y => if y = Str.ofString "rows" then some (.ref R) else m y) ∧ News g L h (nw ++ news) ∧ (R, listOf (List.toArray vs) k) ∈ nw ∧ DatAll (nw ++ news) vs [rA, rB, rC, rD]) E s := by
  rw [lawS_eq]
  exact @lw7 w news R vs k hm ha
theorem execs_lawB (env : Env) : execs lawB env = execs [lawB.getD 0 default, lawB.getD 1 default, lawB.getD 2 default, lawB.getD 3 default, lawB.getD 4 default, lawS.getD 5 default, lawS.getD 6 default, lawB.getD 7 default, lawB.getD 8 default] env := by rw [lawS_eq]; rfl
theorem lawBody (w : World) (HW : AllWF) (sc : Addr) (items : Array Value) (ns : List Int) : theLaw = theLaw →
  ∀ (loose : List Str) (mean : ExcName → Option Value) (mg mb : Str → Option Value) (dp un : Nat) (gd : Option (List Code)) (a : Addr) (ccd : Value) (A₀ : Around) (base g : Heap) (L : Addr) (s : Shared) (E : Value → Shared → Prop),
    Below A₀ base [] g → Fr g L s.heap (fun y => if y = Str.ofString "script" then some (.ref sc) else none) → (hd0.heap_1 w.params).In g → News g L s.heap [(64, tabObj #[])] → Top topProg loose mean mg mb g → dp + 10 < recursionLimit → un + 100 < cLine →
    g.IsList sc items → IntsAre items.toList ns → ns.length ≤ 63 → (hd0.heap_1 w.params).In base → Top topProg loose mean mg mb base →
    wpC (model PySem.Challenge.rw_rx0034_01.row.prog w) (ktrTop dp un gd (Str.ofString "law") lawScope L a ccd [] []) (execs lawB (lawEnv L a ccd)) (fun f s' => f = .ret (.bool true) ∧ ∃ h tk m ps, s' = { s with heap := h, toks := tk } ∧ Fr g L h m ∧ h.get? 64 = some (tabObj ps)) E s := by
  intro _
  intro loose mean mg mb dp un gd a ccd A₀ base g L s E B F X N T hd' hu hl hi hlen XB TB
  rw [execs_lawB]
  refine cStep (cOf (@lw1 w _ sc items ns rfl loose mean mg mb dp un gd a ccd g L s E F X N T hl hi hlen)) ?_
  rintro s1 ⟨h1, tk1, D, vs1, ds, k1, e1, hds, hi1, F1, N1⟩
  obtain ⟨rfl, M1⟩ := sm_of e1
  clear e1
  refine cStep (cOf (@lw2 w _ sc D vs1 ds k1 hi1 hds (.head _) rfl loose mean mg mb dp un gd a ccd g L _ E F1 X N1 T)) ?_
  rintro s2 ⟨h2, tk2, K, vs2, ks, k2, e2, hks, hk5, hi2, F2, N2⟩
  obtain ⟨rfl, M2⟩ := sm_of e2
  clear e2
  refine cStep (cOf (@lw3 w _ sc D K vs2 ks k2 hi2 hks hk5 (.head _) rfl loose mean mg mb dp un gd a ccd g L _ E F2 X N2 T)) ?_
  rintro s3 ⟨h3, tk3, tx, e3, F3, N3⟩
  obtain ⟨rfl, M3⟩ := sm_of e3
  clear e3
  refine cStep (cOf (@lw4 w _ sc D K _ tx vs2 ks k2 hi2 hks hk5 (.head _) rfl loose mean mg mb dp un gd a ccd g L _ E F3 X N3 T)) ?_
  rintro s4 ⟨h4, tk4, Pc, pv, e4, hpv, F4, N4⟩
  obtain ⟨rfl, M4⟩ := sm_of e4
  clear e4
  have hx : (⟨(ks.map sgn).toArray⟩ : PySem.Str).cps.size = 12 := by rw [List.size_toArray, List.length_map, hks]
  have hc : ∀ c ∈ (⟨(ks.map sgn).toArray⟩ : PySem.Str).cps.toList, c ∈ [97, 98, 46, 45, 63] := sgn_in hk5
  have hW := HW ks hks hk5
  have hpl : pv.length = 12 := by
    obtain ⟨l, rfl, e⟩ := strsAre_values hpv
    have := congrArg List.length e
    rw [List.length_map, List.length_map, hks] at this
    show (List.map _ l).length = 12
    rw [List.length_map, this]
  clear F3 N3 F2 N2 F1 N1
  have N4 : News g L s4.heap [(Pc, listOf pv.toArray pv.length), (K, listOf vs2.toArray k2), (D, listOf vs1.toArray k1), (64, tabObj #[])] := N4
  generalize hX : (⟨(ks.map sgn).toArray⟩ : PySem.Str) = x at *
  refine cStep (@lf4 w [(Pc, listOf pv.toArray pv.length), (K, listOf vs2.toArray k2), (D, listOf vs1.toArray k1), (64, tabObj #[])] x (ks.map pieceK) pv Pc pv.length tx hx hc (.head _) hpv hpl hW rfl loose mean mg mb dp un gd a ccd A₀ base g L _ _ E B F4 X N4 T hd' hu ((if_neg (by decide)).trans (if_pos rfl)) (if_pos rfl)) ?_
  rintro s5 ⟨h5, tk5, m5, e5, hm5, F5, N5⟩
  obtain ⟨rfl, M5⟩ := sm_of e5
  clear e5
  have N5' : News g L s5.heap [(64, tabObj #[])] := fun p hp => N5 p (.tail _ (.tail _ (.tail _ hp)))
  clear N5 N4 F4
  refine cStep (cOf (@lw6S w _ rfl loose mean mg mb dp un gd a ccd A₀ base g L _ _ E B F5 X N5' T hd' hu)) ?_
  rintro s6 ⟨h6, tk6, R6, vs6, k6, nw6, e6, F6, N6, hm6, da6⟩
  obtain ⟨rfl, M6⟩ := sm_of e6
  clear e6
  refine cStep (cOf (@lw7S w _ R6 vs6 k6 (List.mem_append_left _ hm6) (DatAll.mono (fun p hp => List.mem_append_left _ hp) da6) rfl loose mean mg mb dp un gd a ccd A₀ base g L _ _ E B F6 X N6 T hd' hu (if_pos rfl))) ?_
  rintro s7 ⟨h7, tk7, R7, vs7, k7, nw7, e7, F7, N7, hm7, da7⟩
  obtain ⟨rfl, M7⟩ := sm_of e7
  clear e7
  have N8 : News g L s7.heap ((64, tabObj #[]) :: (nw7 ++ nw6).filter (fun p => p.1 != 64)) := fun p hp => by
    rcases List.mem_cons.mp hp with rfl | hp
    · exact N7 _ (List.mem_append_right _ (List.mem_append_right _ (.head _)))
    · rcases List.mem_append.mp (List.mem_filter.mp hp).1 with h | h
      · exact N7 p (List.mem_append_left _ h)
      · exact N7 p (List.mem_append_right _ (List.mem_append_left _ h))
  have hs8 : ∀ p ∈ nw7 ++ (nw6 ++ [(64, tabObj #[])]), (p.2.cls = .type "list" ∨ p.2.cls = .type "tuple") → p ∈ (nw7 ++ nw6).filter (fun p => p.1 != 64) := fun p hp hcl => by
    have h64 : p.1 ≠ 64 := fun e => by
      have a := (N7 p hp).1
      have b := (N7 _ (List.mem_append_right _ (List.mem_append_right _ (.head _)))).1
      rw [e] at a
      rw [b] at a
      have c := Option.some.inj a
      rw [← c] at hcl
      rcases hcl with e | e <;> cases e
    refine List.mem_filter.mpr ⟨?_, by simpa using h64⟩
    rcases List.mem_append.mp hp with h | h
    · exact List.mem_append_left _ h
    · rcases List.mem_append.mp h with h | h
      · exact List.mem_append_right _ h
      · rcases List.mem_singleton.mp h with rfl
        exact absurd rfl h64
  have hm8 := hs8 _ (List.mem_append_left _ hm7) (.inl rfl)
  have da8 := datAll_sub hs8 da7
  have h64 : ∀ p ∈ (nw7 ++ nw6).filter (fun p => p.1 != 64), p.1 ≠ 64 := fun p hp => by simpa using (List.mem_filter.mp hp).2
  clear hs8 N7 N6 F6 F5 N5'
  refine cStep (@lf7 w _ R7 vs7 k7 x tx h64 hm8 da8 #[] (.inl rfl) rfl loose mean mg mb dp un gd a ccd A₀ base g L _ _ E B F7 X N8 T hd' hu ((if_neg (by decide)).trans ((if_neg (by decide)).trans hm5)) (if_pos rfl)) ?_
  rintro s8 ⟨h8, tk8, m8, ps8, e8, hm8, F8, N8⟩
  obtain ⟨rfl, M8⟩ := sm_of e8
  clear e8
  have hc8 : ∀ c ∈ x.cps.toList, c < 128 := fun c h => small_sign (hc c h)
  refine cExecsCons (cMono (@l8 w _ x tx hx hc8 rfl loose mean mg mb dp un gd a ccd A₀ base g L _ _ E B F8 X N8 T hd' hu XB TB hm8) (fun f s9 h' => ?_) fun _ _ e => e)
  obtain ⟨rfl, h9, tk9, e9, F9, N9⟩ := h'
  obtain ⟨rfl, M9⟩ := sm_of e9
  exact ⟨rfl, _, _, m8, ps8, Sm.fin (((((((M1.trans M2).trans M3).trans M4).trans M5).trans M6).trans M7).trans (M8.trans M9)), F9, (N9 _ (.head _)).1⟩

end Mine
end

section
open PySem PySem.W PyProof.Rows
set_option Elab.async false
set_option maxRecDepth 100000
set_option maxHeartbeats 2000000
namespace Mine
theorem exp4 {α : Type} {l : List α} {n : Nat} (h : l.length = n + 4) : ∃ a b c d r, l = a :: b :: c :: d :: r ∧ r.length = n := by
  obtain ⟨a0, l0, rfl, h0⟩ := len_succ h
  obtain ⟨a1, l1, rfl, h1⟩ := len_succ h0
  obtain ⟨a2, l2, rfl, h2⟩ := len_succ h1
  obtain ⟨a3, l3, rfl, h3⟩ := len_succ h2
  exact ⟨_, _, _, _, _, rfl, h3⟩
theorem exp12 {α : Type} {l : List α} (h : l.length = 12) : ∃ a0 a1 a2 a3 a4 a5 a6 a7 a8 a9 a10 a11, l = [a0, a1, a2, a3, a4, a5, a6, a7, a8, a9, a10, a11] := by
  obtain ⟨a0, a1, a2, a3, l1, e1, h1⟩ := exp4 (n := 8) h
  obtain ⟨a4, a5, a6, a7, l2, e2, h2⟩ := exp4 (n := 4) h1
  obtain ⟨a8, a9, a10, a11, l3, e3, h3⟩ := exp4 (n := 0) h2
  rw [e1, e2, e3, List.eq_nil_of_length_eq_zero h3]
  exact ⟨_, _, _, _, _, _, _, _, _, _, _, _, rfl⟩
def rv (l : List Nat) (wd q : Nat) : List (List Nat) := (List.range q).map fun k => (l.drop (k * wd)).take wd
theorem six {P : Nat → Nat → Prop} (h1 : P 1 12) (h2 : P 2 6) (h3 : P 3 4) (h4 : P 4 3) (h6 : P 6 2) (h12 : P 12 1) : ∀ p ∈ wds, P p.1 p.2 := by
  intro p hp
  simp only [wds, List.mem_cons, List.not_mem_nil, or_false] at hp
  rcases hp with rfl | rfl | rfl | rfl | rfl | rfl <;> assumption
theorem f1 (f : Nat → UInt8) (l : List Nat) (h : l.length = 12) : ∀ p ∈ wds, outerL (l.map f) p.1 (List.replicate 12 0) p.2 = (dueL l p.1 p.2).map f := by
  obtain ⟨a0, a1, a2, a3, a4, a5, a6, a7, a8, a9, a10, a11, rfl⟩ := exp12 h
  exact six (P := fun wd q => outerL (List.map f [a0, a1, a2, a3, a4, a5, a6, a7, a8, a9, a10, a11]) wd (List.replicate 12 0) q = (dueL [a0, a1, a2, a3, a4, a5, a6, a7, a8, a9, a10, a11] wd q).map f) (by kernel_rfl) (by kernel_rfl) (by kernel_rfl) (by kernel_rfl) (by kernel_rfl) (by kernel_rfl)
theorem f2 (l : List Nat) (h : l.length = 12) : ∀ p ∈ wds, (dueL l p.1 p.2).length = 12 ∧ dueL (dueL l p.1 p.2) p.1 p.2 = l ∧ dueL (dueL l p.1 p.2) 12 1 = (rv l p.1 p.2).reverse.flatten := by
  obtain ⟨a0, a1, a2, a3, a4, a5, a6, a7, a8, a9, a10, a11, rfl⟩ := exp12 h
  exact six (P := fun wd q => (dueL [a0, a1, a2, a3, a4, a5, a6, a7, a8, a9, a10, a11] wd q).length = 12 ∧ dueL (dueL [a0, a1, a2, a3, a4, a5, a6, a7, a8, a9, a10, a11] wd q) wd q = [a0, a1, a2, a3, a4, a5, a6, a7, a8, a9, a10, a11] ∧ dueL (dueL [a0, a1, a2, a3, a4, a5, a6, a7, a8, a9, a10, a11] wd q) 12 1 = (rv [a0, a1, a2, a3, a4, a5, a6, a7, a8, a9, a10, a11] wd q).reverse.flatten)
    ⟨rfl, rfl, rfl⟩ ⟨rfl, rfl, rfl⟩ ⟨rfl, rfl, rfl⟩ ⟨rfl, rfl, rfl⟩ ⟨rfl, rfl, rfl⟩ ⟨rfl, rfl, rfl⟩
theorem f3 (l : List Nat) (h : l.length = 12) : ∀ p ∈ wds, (List.range p.2).map (cellS ⟨l.toArray⟩ p.1) = (rv l p.1 p.2).map fun c => ⟨c.toArray⟩ := by
  obtain ⟨a0, a1, a2, a3, a4, a5, a6, a7, a8, a9, a10, a11, rfl⟩ := exp12 h
  exact six (P := fun wd q => (List.range q).map (cellS ⟨[a0, a1, a2, a3, a4, a5, a6, a7, a8, a9, a10, a11].toArray⟩ wd) = (rv [a0, a1, a2, a3, a4, a5, a6, a7, a8, a9, a10, a11] wd q).map fun c => ⟨c.toArray⟩) (by kernel_rfl) (by kernel_rfl) (by kernel_rfl) (by kernel_rfl) (by kernel_rfl) (by kernel_rfl)

end Mine
end

section
open PySem PySem.W PyProof.Rows
set_option Elab.async false
set_option maxRecDepth 100000
set_option maxHeartbeats 2000000
namespace Mine
theorem f4 (l : List Nat) (h : l.length = 12) : ∀ p ∈ wds, ((rv l p.1 p.2).map List.length).sum = 12 := by
  obtain ⟨a0, a1, a2, a3, a4, a5, a6, a7, a8, a9, a10, a11, rfl⟩ := exp12 h
  exact six (P := fun wd q => ((rv [a0, a1, a2, a3, a4, a5, a6, a7, a8, a9, a10, a11] wd q).map List.length).sum = 12) rfl rfl rfl rfl rfl rfl
theorem dueL_map {α β : Type} (f : α → β) (l : List α) (wd q : Nat) : dueL (l.map f) wd q = (dueL l wd q).map f := by
  unfold dueL
  rw [List.map_flatten, List.map_map]
  congr 1
  refine List.map_congr_left fun i _ => ?_
  show _ = List.map f _
  rw [List.map_reverse, List.map_take, List.map_drop]
theorem rv_map (f : Nat → Nat) (l : List Nat) (wd q : Nat) : rv (l.map f) wd q = (rv l wd q).map (List.map f) := by
  unfold rv
  rw [List.map_map]
  refine List.map_congr_left fun i _ => ?_
  show _ = List.map f _
  rw [List.map_take, List.map_drop]
theorem mem_due {l : List Nat} {wd q k : Nat} (h : k ∈ dueL l wd q) : k ∈ l := by
  unfold dueL at h
  obtain ⟨c, hc, hk⟩ := List.mem_flatten.mp h
  obtain ⟨i, _, rfl⟩ := List.mem_map.mp hc
  exact List.mem_of_mem_drop (List.mem_of_mem_take (List.mem_reverse.mp hk))
theorem sgn_lt (k : Nat) : sgn k < 128 := by
  match k with
  | 0 => decide
  | 1 => decide
  | 2 => decide
  | 3 => decide
  | 4 => decide
  | k + 5 => exact (by decide : 0 < 128)
theorem sgn_u8 (k : Nat) : ((sgn k).toUInt8).toNat = sgn k := by
  match k with
  | 0 => decide
  | 1 => decide
  | 2 => decide
  | 3 => decide
  | 4 => decide
  | k + 5 => exact (by decide : (0 : Nat).toUInt8.toNat = 0)
theorem piece_len (k : Nat) : (pieceK k).length ≤ 2 := by
  match k with
  | 0 => decide +kernel
  | 1 => decide +kernel
  | 2 => decide +kernel
  | 3 => decide +kernel
  | 4 => decide +kernel
  | k + 5 => exact (by decide +kernel : PySem.Str.empty.length ≤ 2)
theorem piece_ok (k : Nat) : PyData.strOk (pieceK k) = true := by
  match k with
  | 0 => decide +kernel
  | 1 => decide +kernel
  | 2 => decide +kernel
  | 3 => decide +kernel
  | 4 => decide +kernel
  | k + 5 => exact (by decide +kernel : PyData.strOk PySem.Str.empty = true)
theorem swapB_e (l : List Nat) (h : l.length = 12) (p : Nat × Nat) (hp : p ∈ wds) : swapB ⟨(l.map sgn).toArray⟩ p.1 p.2 = (dueL l p.1 p.2).map fun k => (sgn k).toUInt8 := by
  have := f1 (fun k => (sgn k).toUInt8) l h p hp
  unfold swapB
  rw [List.size_toArray, List.length_map, h, List.toList_toArray, List.map_map]
  exact this
theorem swapS_e (l : List Nat) (h : l.length = 12) (p : Nat × Nat) (hp : p ∈ wds) : swapS ⟨(l.map sgn).toArray⟩ p.1 p.2 = ⟨((dueL l p.1 p.2).map sgn).toArray⟩ := by
  unfold swapS
  rw [swapB_e l h p hp, List.map_map]
  congr 2
  exact List.map_congr_left fun k _ => sgn_u8 k
theorem rev_e (c : List Nat) : (revS ⟨c.toArray⟩).cps.toList = c.reverse := by
  show (List.map _ _) = _
  refine List.ext_getElem (by simp [PySem.Str.length]) fun i h1 h2 => ?_
  have hi : i < c.length := by simpa using h2
  simp [PySem.Str.length]
  rw [List.getElem?_eq_getElem (by omega)]
  rfl
theorem sum_p (l : List Nat) : ((l.map pieceK).map (·.length)).sum ≤ 2 * l.length := by
  induction l with
  | nil => exact Nat.le_refl _
  | cons k l ih =>
    rw [List.map_cons, List.map_cons, List.sum_cons, List.length_cons]
    have := piece_len k
    omega
theorem tr_gen (qm : PySem.Str) (f : Nat → PySem.Str) (hf : ∀ k < 5, ∀ out, trStep qm (sgn k) out = out ++ [some (f k)]) : ∀ (l : List Nat) (out : List (Option PySem.Str)), (∀ k ∈ l, k < 5) → trL qm (l.map sgn) out = out ++ (l.map f).map some := by
  intro l
  induction l with
  | nil => intro out _; simp [trL]
  | cons k l ih =>
    intro out h
    rw [List.map_cons, trL, hf k (h k (.head _)), ih _ (fun j hj => h j (.tail _ hj))]
    simp
theorem swap_join (l : List Nat) (h : l.length = 12) (p : Nat × Nat) (hp : p ∈ wds) : (List.range p.2).map (cellS ⟨(l.map sgn).toArray⟩ p.1) = (rv l p.1 p.2).map fun c => ⟨(c.map sgn).toArray⟩ := by
  rw [f3 (l.map sgn) (by rw [List.length_map, h]) p hp, rv_map, List.map_map]
  rfl
theorem allWF : AllWF := by
  intro ks hl h5 p hp
  have e0 : ∀ p ∈ wds, 0 < p.1 ∧ p.1 ≤ 100 ∧ p.2 * p.1 = 12 := by decide
  obtain ⟨a1, a2, a3⟩ := e0 p hp
  obtain ⟨g1, g2, g3⟩ := f2 ks hl p hp
  have hD5 : ∀ k ∈ dueL ks p.1 p.2, k < 5 := fun k hk => h5 k (mem_due hk)
  have hS := swapS_e ks hl p hp
  have hC := swap_join ks hl p hp
  have h12 : ((12, 1) : Nat × Nat) ∈ wds := by decide
  have hO : ∀ l : List Nat, otherL ⟨(l.map sgn).toArray⟩ = l.map fun k => ((255 : Int) - (sgn k : Nat)).toNat.toUInt8 := fun l => by
    unfold otherL
    rw [List.toList_toArray, List.map_map]
    rfl
  refine ⟨a1, a2, a3, ?_, ?_, ?_, ?_, ?_, ?_, ?_, ?_, ?_, ?_, ?_, ?_, ?_⟩
  · rw [swapB_e ks hl p hp]
    intro c hc
    obtain ⟨k, _, rfl⟩ := List.mem_map.mp hc
    rw [sgn_u8]
    exact sgn_lt k
  · rw [hS, List.size_toArray, List.length_map, g1]
  · rw [hS]
    exact sgn_in hD5
  · rw [hS, swapB_e _ g1 (12, 1) h12]
    intro c hc
    obtain ⟨k, _, rfl⟩ := List.mem_map.mp hc
    rw [sgn_u8]
    exact sgn_lt k
  · rw [hC, List.map_map]
    have : ((rv ks p.1 p.2).map ((fun x : PySem.Str => x.length) ∘ fun c => ⟨(c.map sgn).toArray⟩)) = (rv ks p.1 p.2).map List.length := List.map_congr_left fun c _ => by show (List.toArray _).size = _; rw [List.size_toArray, List.length_map]
    refine Nat.le_trans (Nat.le_of_eq ((congrArg List.sum this).trans (f4 ks hl p hp))) (by decide)
  · rw [hS, hC]
    unfold joinL
    rw [List.map_map, List.map_map]
    congr 2
    unfold rv dueL
    rw [List.map_flatten, List.map_map, List.map_map]
    congr 1
    refine List.map_congr_left fun i _ => ?_
    exact List.map_reverse.trans (rev_e _).symm
  · rw [hS, hO, hO, List.length_map, g1, f1 _ _ g1 p hp, g2]
  · rw [hS, swapS_e _ g1 (12, 1) h12, g3, hC]
    unfold joinL
    rw [← List.map_reverse, List.map_map]
    congr 1
    rw [List.map_flatten]
    rfl
  · rw [dueL_map]
    refine Nat.le_trans (sum_p _) ?_
    rw [g1]
    decide
  · rw [dueL_map, List.length_map, g1]
    decide
  · rw [dueL_map]
    intro q hq
    obtain ⟨k, _, rfl⟩ := List.mem_map.mp hq
    exact piece_ok k
  · rw [hS, dueL_map]
    refine (tr_gen _ (qm9 ∘ pieceK) ?_ _ [] hD5).trans ((List.nil_append _).trans ?_)
    case refine_2 => exact congrArg (List.map some) List.map_map.symm
    intro k hk out
    match k, hk with
    | 0, _ => exact congrArg (fun z => out ++ [some z]) (by decide +kernel)
    | 1, _ => exact congrArg (fun z => out ++ [some z]) (by decide +kernel)
    | 2, _ => exact congrArg (fun z => out ++ [some z]) (by decide +kernel)
    | 3, _ => exact congrArg (fun z => out ++ [some z]) (by decide +kernel)
    | 4, _ => exact congrArg (fun z => out ++ [some z]) (by decide +kernel)
  · rw [hS, dueL_map]
    refine (tr_gen _ pieceK ?_ _ [] hD5).trans (List.nil_append _)
    intro k hk out
    match k, hk with
    | 0, _ => exact congrArg (fun z => out ++ [some z]) (by decide +kernel)
    | 1, _ => exact congrArg (fun z => out ++ [some z]) (by decide +kernel)
    | 2, _ => exact congrArg (fun z => out ++ [some z]) (by decide +kernel)
    | 3, _ => exact congrArg (fun z => out ++ [some z]) (by decide +kernel)
    | 4, _ => exact congrArg (fun z => out ++ [some z]) (by decide +kernel)

end Mine
end

section
open PySem PySem.W PyProof.Rows
set_option Elab.async false
set_option maxRecDepth 100000
set_option maxHeartbeats 2000000
namespace Mine
open PySem.Calls in
theorem entry {q : Program} {loose : List Str} {mean : ExcName → Option Value} {mg mb : Str → Option Value} (w : World) (s₁ : Shared) (T : Top q loose mean mg mb s₁.heap) (KX : (hd0.heap_1 w.params).In s₁.heap) (h64 : s₁.heap.get? 64 = some (tabObj #[])) {a : Addr} {o : Obj} {params : Arguments} {pm cd doc dV kV : Value} (ho : s₁.heap.get? a = some o)
    (hdat : o.data = .func { docDef (Str.ofString "law") params lawB lawScope pm cd doc with defaults := dV, kwdefaults := kV }) (hcd : s₁.heap.CodeRec cd (Str.ofString "law")) {sc : Addr} {items : Array Value} {ns : List Int} (hl : s₁.heap.IsList sc items) (hi : IntsAre items.toList ns) (hlen : ns.length ≤ 63)
    (hbind : BindsTo s₁ { docDef (Str.ofString "law") params lawB lawScope pm cd doc with defaults := dV, kwdefaults := kV } ⟨[.ref sc], []⟩ [(Str.ofString "script", .ref sc)]) {R : Result → Shared → Prop}
    (hR : ∀ h tk L m ps, Fr (ghostOf s₁.heap [(68, 64)]) L h m → h.get? 64 = some (tabObj ps) → R (.ok (.ret (.bool true))) { s₁ with heap := h, toks := tk }) :
    theLaw = theLaw → codeC (model PySem.Challenge.rw_rx0034_01.row.prog w) callerA (.call (.ref a) ⟨[.ref sc], []⟩) R s₁ := by
  intro hLaw
  refine cCallDef (by decide) ho hdat (Top.nolimit T) hcd rfl hbind (show ∀ x ∈ lawScope.names, x.2 ≠ .cell by decide) (by intro x hx; rcases List.mem_singleton.mp hx with rfl; rfl) (fun h₁ hns hk => ?_) rfl rfl rfl
  have F : Fr s₁.heap s₁.heap.objs.size h₁ (fun x => List.lookup x [(Str.ofString "script", Value.ref sc)]) := ⟨hns, hk, Nat.le_refl _⟩
  simp only [lookup_if, List.lookup_nil] at F
  have hT9 : TabsAt [(68, 64)] s₁.heap := List.forall_mem_cons.mpr ⟨⟨codeHd_of_K (c := 68) (P := 64) KX (by kernel_rfl), h64⟩, fun _ h => nomatch h⟩
  have X' := ghost_K hT9 KX (by kernel_rfl)
  have T' := ghost_top hT9 T
  have K' := ghost_below hT9
  have N' := ghost_news hT9 F ((News.nil : News _ _ _ []).at F)
  have F' := ghost_fr hT9 F
  have hl' := ghost_list hT9 hl
  generalize s₁.toks + _ = tk0
  refine cMono (lawBody w allWF sc items ns hLaw _ _ _ _ _ _ _ a cd _ (ghostOf s₁.heap [(68, 64)]) (ghostOf s₁.heap [(68, 64)]) s₁.heap.objs.size { s₁ with heap := h₁, toks := tk0 } _ K' F' X' N' T' ?_ ?_ hl' hi hlen X' T') (fun f s' h' => ?_) fun _ _ e => e
  · decide
  · decide
  obtain ⟨rfl, h, tk, m, ps, rfl, F9, h9⟩ := h'
  exact hR h tk _ m ps F9 h9

end Mine
end

section
open PySem PySem.W PyProof.Rows
set_option Elab.async false
set_option maxRecDepth 100000
set_option maxHeartbeats 2000000
namespace Mine
theorem cEnter {M : Model} {A : Around} {s : Shared} {f : Value} {pos : List Value} {kw : List (Str × Value)} {c : ClaimW} {cl : Str → Option Addr} {mean : ExcName → Option Value} {args : List WData} {s₁ : Shared}
    (h : codeC M A (.call f ⟨pos, kw⟩) (GoodWG c cl mean args s₁) s) : wpC M A (PySem.call f pos kw) (fun v s' => GoodWG c cl mean args s₁ (.ok (.ret v)) s') (fun e s' => GoodWG c cl mean args s₁ (.error e) s') s := by
  refine cCall (cCodeMono h fun r s' g => ?_)
  have g1 := g.1
  cases r with
  | error e => exact g
  | ok f => cases f <;> first | exact g | (rcases g1 with ⟨_, _, _, e, _⟩ | ⟨_, _, _, e, _⟩ <;> cases e)
theorem oldK_of {s₁ h : Heap} {L : Addr} {m : Str → Option Value} {ps : Array Value} (KX : CodeHd s₁ 68 64) (h64 : s₁.get? 64 = some (tabObj #[])) (F : Fr (ghostOf s₁ [(68, 64)]) L h m) (h9 : h.get? 64 = some (tabObj ps)) : OldK s₁ h := by
  have keep : ∀ b o, b ≠ 64 → s₁.get? b = some o → h.get? b = some o := fun b o hb e => F.keep b o (ghost_ne e (by simpa using hb))
  refine ⟨fun b o e => ?_, fun b o e => ?_⟩
  · by_cases hb : b = 64
    · subst hb
      rw [h64] at e
      obtain rfl := Option.some.inj e
      exact .inr (.inl ⟨(KX.tab h64).isCodeTable, rfl, #[], ps, rfl, by rw [Array.empty_append]; exact h9⟩)
    · exact .inl (keep b o hb e)
  · by_cases hb : b = 64
    · exact ⟨_, hb ▸ h9⟩
    · exact ⟨o, keep b o hb e⟩
theorem lawWalk {q : Program} {loose : List Str} {XP : (Str → Option Value) → Heap → Prop} {YP : World → Heap → Prop} (hY : ∀ w h, YP w h → (hd0.heap_1 w.params).In h ∧ h.get? 64 = some (tabObj #[])) {d : DefRec} (hn : d.name = Str.ofString "law") (hb : d.body = lawB) (hs : d.scope = lawScope)
    (hp1 : d.params.defaults = []) (hbd : ∀ (s : Shared) (sc : Addr) (pm cd doc kV : Value), BindsTo s { PySem.Calls.docDef (Str.ofString "law") d.params lawB lawScope pm cd doc with defaults := .none, kwdefaults := kV } ⟨[.ref sc], []⟩ [(Str.ofString "script", .ref sc)]) :
    WalkC q loose XP YP PySem.Challenge.rw_rx0034_01.row.toRowW d [] fun f vs => PySem.call f vs := by
  intro w s₀ s₁ mg mb G Y a o pm cd doc dV kV ho hd hcd hD hmg hg args vals as hpre hlay hrd hwl hlo
  obtain ⟨KX, h64⟩ := hY w _ Y
  refine Ground.open G ?_
  intro T B D TE TW
  clear B D TE TW
  rw [hn] at hd hcd
  rw [hb, hs] at hd
  have he := Dflts.none hD hp1
  subst he
  have hbd' := hbd s₁
  clear hD hbd
  wrow_args hpre hlay hrd hwl hlo
  rename IntsAre _ _ => hI
  rename Heap.IsList _ _ _ => hL
  rename ¬ _ < _ => hc63
  show wpC _ _ (PySem.call _ _) _ _ _
  refine cEnter (entry w s₁ T KX h64 ho hd hcd hL hI (by omega) (hbd' _ _ _ _ _) (fun h tk L m ps F9 h9 => ?_) rfl)
  exact ⟨.inl ⟨.bool true, .bool true, [], rfl, fun _ => rfl, .bool true, by wrow_post, unshared_nil⟩, oldK_of (codeHd_of_K (c := 68) (P := 64) KX (by kernel_rfl)) h64 F9 h9, rfl, .of_eq hg⟩

end Mine
end
open PySem PySem.W PyProof.Rows
set_option Elab.async false
set_option maxRecDepth 100000
set_option maxHeartbeats 8000000
namespace Mine
noncomputable def hd.tw15153279154761372571 : Nat := 0
noncomputable def hd.tw1903866087469309809 : Nat := 0
noncomputable def hd.tw3039998526598829958 : Nat := 0
noncomputable def hd.tw9858862628617262349 : Nat := 0
noncomputable def hd.tw957563972369182330 : Nat := 0
noncomputable def hd.tw4014540891139286612 : Nat := 0
noncomputable def hd.tw15837987909243819085 : Nat := 0
noncomputable def hd.tw1580110805410547442 : Nat := 0
noncomputable def hd.tw16064382804478563927 : Nat := 0
noncomputable def hd.tw1439246655266547700 : Nat := 0
noncomputable def hd.tw2274498078352570744 : Nat := 0
noncomputable def hd.tw4856431653887292112 : Nat := 0
noncomputable def hd.tw18264374347568628810 : Nat := 0
noncomputable def hd.tw16259696140248634718 : Nat := 0
noncomputable def hd.tw8716120427605611371 : Nat := 0
noncomputable def hd.tw11917015161858427179 : Nat := 0
noncomputable def hd.tw14620637471214046174 : Nat := 0
noncomputable def hd.tw2167537188350426706 : Nat := 0
noncomputable def hd.tw10258999931320997221 : Nat := 0
noncomputable def hd.tw13919464512627920130 : Nat := 0
noncomputable def hd.tw17673860158736603733 : Nat := 0
noncomputable def hd.tw10246146449241189800 : Nat := 0
noncomputable def hd.tw15595854959937240912 : Nat := 0
noncomputable def hd.tw1382963296337349011 : Nat := 0
noncomputable def hd.tw12588582704262371052 : Nat := 0
noncomputable def hd.tw13828106393651249627 : Nat := 0
noncomputable def hd.tw5130813555471234732 : Nat := 0
noncomputable def hd.tw7028611270464810887 : Nat := 0
noncomputable def hd.tw10403243965636340961 : Nat := 0
noncomputable def hd.tw13770079208771991547 : Nat := 0
noncomputable def hd.tw5567388512258382067 : Nat := 0
noncomputable def hd.tw11652457597714270106 : Nat := 0
noncomputable def hd.tw17542962492245011380 : Nat := 0
noncomputable def hd.tw11631947586910100387 : Nat := 0
noncomputable def hd.tw8960069828448710407 : Nat := 0
noncomputable def hd.tw6196171512934965099 : Nat := 0
noncomputable def hd.tw17893044597097874663 : Nat := 0
noncomputable def hd.tw17711083657039698284 : Nat := 0
noncomputable def hd.tw17087091549796120035 : Nat := 0
noncomputable def hd.tw4971549296188076032 : Nat := 0
noncomputable def hd.tw2608437505485318709 : Nat := 0
noncomputable def hd.tw9170477692918782315 : Nat := 0
noncomputable def hd.tw14457593812595234344 : Nat := 0
noncomputable def hd.tw9345929723534960622 : Nat := 0
noncomputable def hd.tw8228950375871286339 : Nat := 0
noncomputable def hd.tw8112040973832200146 : Nat := 0
noncomputable def hd.tw1506431575118746342 : Nat := 0
noncomputable def hd.tw15103106377680225435 : Nat := 0
noncomputable def hd.tw8959176491354863721 : Nat := 0
noncomputable def hd.tw14892549342360969540 : Nat := 0
noncomputable def hd.tw6293948785866598258 : Nat := 0
noncomputable def hd.tw6528754448969337418 : Nat := 0
noncomputable def hd.tw13518370688599389936 : Nat := 0
noncomputable def hd.tw14353793391729792155 : Nat := 0
noncomputable def hd.tw7540655947842036084 : Nat := 0
noncomputable def hd.tw3759623122121258479 : Nat := 0
noncomputable def hd.tw8343274005884668182 : Nat := 0
noncomputable def hd.tw5174551420813472067 : Nat := 0
noncomputable def hd.tw4115565904173853331 : Nat := 0
noncomputable def hd.tw10743916045514856203 : Nat := 0
noncomputable def hd.tw5148922909946612681 : Nat := 0
noncomputable def hd.tw17650839729002327288 : Nat := 0
noncomputable def hd.tw17252143746492648416 : Nat := 0
noncomputable def hd.tw11128854368766332075 : Nat := 0
noncomputable def hd.tw7023726343779634624 : Nat := 0
noncomputable def hd.tw17447410573909459338 : Nat := 0
set_option Elab.async true in
theorem hd : PySem.Challenge.rw_rx0034_01.Holds := by
  w_on; o_law; o_head (kmHook hd0.heap_1 [2,3,6,11,12,32,34,35,37,38,42,43,44,46,47,49,50,52,56,58,59,61,62,63,65,66,68,69,70,72,73,75,76,77,79,80,82,83,84,87,88,89,92,93,94,96,97,99,100,101,104,105] (fun _ => by kernel_rfl) [64]); (case hw => w_witness2)
  exact lawWalk (fun w h Y => ⟨km_in_of Y, km_tabs_of Y 64 (.head _)⟩) rfl rfl rfl rfl fun _ _ _ _ _ _ => BindsTo.of_eq rfl
end Mine
theorem PySem.Challenge.cw_rx0034_01_holds : PySem.Challenge.rw_rx0034_01.Holds :=
  Mine.hd
