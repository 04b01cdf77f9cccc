import PyProof.Rows.All
import Wide.All
import OpenK.AllK
import Wide.FinOn
import PySem.Challenge.RW_nc0022_01
/-! the law of the error locator: the walks, the plain mathematics, the top, and the join; typed by hand, joined by a small program -/
open PySem PySem.W PySem.Calls PyProof.Rows
open Sem (wp)
set_option Elab.async false
set_option maxRecDepth 100000
set_option maxHeartbeats 8000000
set_option linter.unusedVariables false
namespace Mine
/- RSBase -/

noncomputable abbrev P : Program := PySem.Challenge.pw_nc0022_01
noncomputable def stmtAt (i : Nat) : Stmt := (P.main.body[i]?).getD (.Pass default)
noncomputable def nameAt (i : Nat) : Str := match stmtAt i with | .FunctionDef n .. => n | _ => Str.empty
noncomputable def paramsAt (i : Nat) : Arguments := match stmtAt i with | .FunctionDef _ a .. => a | _ => default
noncomputable def bodyAt (i : Nat) : List Stmt := match stmtAt i with | .FunctionDef _ _ b .. => b | _ => []
noncomputable def scopeAt (i : Nat) : Scope := match stmtAt i with | .FunctionDef _ _ _ _ _ _ sc _ _ _ => sc | _ => default
/-- the function object's data, as the def statement lays it -/
noncomputable abbrev fdAt (i : Nat) (dV pm cdv : Value) : FuncData := fnOf (nameAt i) (nameAt i) (paramsAt i) (bodyAt i) (scopeAt i) dV .none .none pm none cdv .none

noncomputable def FnAt (h : Heap) (i : Nat) (a : Addr) (dV : Value) : Prop := ∃ o pm cdv, h.get? a = some o ∧ o.data = .func (fdAt i dV pm cdv) ∧ h.CodeRec cdv (nameAt i)
theorem FnAt.keeps {h h' : Heap} {i : Nat} {a : Addr} {dV : Value} (x : FnAt h i a dV) (k : h.StaysIn h') : FnAt h' i a dV :=
  let ⟨o, pm, cdv, e, d, c⟩ := x; ⟨o, pm, cdv, k _ _ e, d, c.keeps k⟩

/-- what every call needs of the ground: the global names, the built-in names, no recursion limit set -/
structure Glo (mg : Str → Option Value) (h : Heap) : Prop where
  g : h.Ns mainGlobals mg
  b : ∃ mb, h.Ns builtinsNs mb ∧ ∀ x : Str, x ≠ "__name__" → mb x = bootBuiltins x
  nolimit : h.NoLimit
theorem Glo.keeps {mg : Str → Option Value} {h h' : Heap} (x : Glo mg h) (k : h.StaysIn h') : Glo mg h' :=
  ⟨x.g.keeps k, let ⟨mb, e, q⟩ := x.b; ⟨mb, e.keeps k, q⟩, x.nolimit.keeps k⟩

theorem Fr.stays {h₀ h h' : Heap} {L : Addr} {m : Str → Option Value} (F : Fr h₀ L h m) (k : h.StaysIn h') : Fr h₀ L h' m :=
  ⟨F.ns.keeps k, fun b o e => k _ _ (F.keep b o e), F.above⟩
theorem News.stays {h₀ h h' : Heap} {L : Addr} {news : List (Addr × Obj)} (N : News h₀ L h news) (k : h.StaysIn h') : News h₀ L h' news :=
  fun p hp => ⟨k _ _ (N p hp).1, (N p hp).2⟩

theorem enter {w : World} {A : Around} {E : Value → Shared → Prop} {s : Shared} {i : Nat} {a : Addr} {dV : Value} {args : List Value} {binds : List (Str × Value)} {Q : Value → Shared → Prop}
    (hroom : A.depth < recursionLimit) (hf : FnAt s.heap i a dV) (hl : s.heap.NoLimit) (hbind : ∀ pm cdv, BindsTo s (fdAt i dV pm cdv) ⟨args, []⟩ binds)
    (h : ∀ L cdv h₁, Fr s.heap L h₁ (fun x => binds.reverse.lookup x) →
      wpAny (model P w) (A.deeper (envOf (nameAt i) (scopeAt i) L a cdv)) (execs (bodyAt i) (envOf (nameAt i) (scopeAt i) L a cdv)) (fun f s' => Q (match f with | .ret v => v | _ => .none) s')
        (fun _ _ => False) { s with heap := h₁, toks := s.toks + binds.length })
    (hcell : ∀ x ∈ (scopeAt i).names, x.2 ≠ .cell := by decide +kernel) (hloc : ∀ x ∈ binds, (scopeAt i).names.lookup x.1 = some .local)
    (hco : (scopeAt i).isCoroutine = false := by decide +kernel) (hgen : (scopeAt i).isGenerator = false := by decide +kernel) (hk : (scopeAt i).kind = .function := by decide +kernel) :
    wpAny (model P w) A (call (.ref a) args) Q E s := by
  obtain ⟨o, pm, cdv, ho, hd, hc⟩ := hf
  refine wpAny_call (codeAny_call_def (fd := fdAt i dV pm cdv) (body := bodyAt i) (binds := binds) hroom ho hd hl hc rfl (hbind pm cdv) hcell hloc (fun h₁ hns hk₁ => ?_) hco hgen hk)
  exact wpAny_mono (h s.heap.objs.size cdv h₁ ⟨hns, hk₁, Nat.le_refl _⟩) (fun _ _ x => x) (fun _ _ x => x.elim)
/- RSBa1 -/

/-- a bytearray object -/
noncomputable abbrev baOf (l : List UInt8) : Obj := { cls := .type "bytearray", data := .bytearray l.toArray }
noncomputable def iu (u : UInt8) : Int := (u.toNat : Int)

namespace BA
theorem slot_len : Slot "bytearray" "__len__" "bytearray.__len__" :=
  .of (owner := "bytearray") (n := "__len__") (by rw [typeLookup_type, builtinLookup_eq_fast]; kernel_rfl) (by decide +kernel) (by decide +kernel) (by decide +kernel)
    (by first | exact .inl (by decide +kernel) | exact .inr (by decide +kernel)) (by rw [isSubtype_type]; kernel_rfl)
theorem entry_len : entryFor table "bytearray.__len__" = some Builtin.«bytearray.__len__» := entryFor_of_tree (by kernel_rfl)
theorem args_len (a : Value) : argsOk "bytearray.__len__" ⟨[a], []⟩ := by unfold argsOk; kernel_rfl
theorem slot_getitem : Slot "bytearray" "__getitem__" "bytearray.__getitem__" :=
  .of (owner := "bytearray") (n := "__getitem__") (by rw [typeLookup_type, builtinLookup_eq_fast]; kernel_rfl) (by decide +kernel) (by decide +kernel) (by decide +kernel)
    (by first | exact .inl (by decide +kernel) | exact .inr (by decide +kernel)) (by rw [isSubtype_type]; kernel_rfl)
theorem entry_getitem : entryFor table "bytearray.__getitem__" = some Builtin.«bytearray.__getitem__» := entryFor_of_tree (by kernel_rfl)
theorem args_getitem (a b : Value) : argsOk "bytearray.__getitem__" ⟨[a, b], []⟩ := by unfold argsOk; kernel_rfl
theorem slot_setitem : Slot "bytearray" "__setitem__" "bytearray.__setitem__" :=
  .of (owner := "bytearray") (n := "__setitem__") (by rw [typeLookup_type, builtinLookup_eq_fast]; kernel_rfl) (by decide +kernel) (by decide +kernel) (by decide +kernel)
    (by first | exact .inl (by decide +kernel) | exact .inr (by decide +kernel)) (by rw [isSubtype_type]; kernel_rfl)
theorem entry_setitem : entryFor table "bytearray.__setitem__" = some Builtin.«bytearray.__setitem__» := entryFor_of_tree (by kernel_rfl)
theorem args_setitem (a b c : Value) : argsOk "bytearray.__setitem__" ⟨[a, b, c], []⟩ := by unfold argsOk; kernel_rfl
theorem slot_add : Slot "bytearray" "__add__" "bytearray.__add__" :=
  .of (owner := "bytearray") (n := "__add__") (by rw [typeLookup_type, builtinLookup_eq_fast]; kernel_rfl) (by decide +kernel) (by decide +kernel) (by decide +kernel)
    (by first | exact .inl (by decide +kernel) | exact .inr (by decide +kernel)) (by rw [isSubtype_type]; kernel_rfl)
theorem entry_add : entryFor table "bytearray.__add__" = some Builtin.«bytearray.__add__» := entryFor_of_tree (by kernel_rfl)
theorem args_add (a b : Value) : argsOk "bytearray.__add__" ⟨[a, b], []⟩ := by unfold argsOk; kernel_rfl
theorem slot_init : Slot "bytearray" "__init__" "bytearray.__init__" :=
  .of (owner := "bytearray") (n := "__init__") (by rw [typeLookup_type, builtinLookup_eq_fast]; kernel_rfl) (by decide +kernel) (by decide +kernel) (by decide +kernel)
    (by first | exact .inl (by decide +kernel) | exact .inr (by decide +kernel)) (by rw [isSubtype_type]; kernel_rfl)
theorem entry_init : entryFor table "bytearray.__init__" = some Builtin.«bytearray.__init__» := entryFor_of_tree (by kernel_rfl)
theorem args_init (a b : Value) : argsOk "bytearray.__init__" ⟨[a, b], []⟩ := by unfold argsOk; kernel_rfl
theorem slot_iter : Slot "bytearray" "__iter__" "bytearray.__iter__" :=
  .of (owner := "bytearray") (n := "__iter__") (by rw [typeLookup_type, builtinLookup_eq_fast]; kernel_rfl) (by decide +kernel) (by decide +kernel) (by decide +kernel)
    (by first | exact .inl (by decide +kernel) | exact .inr (by decide +kernel)) (by rw [isSubtype_type]; kernel_rfl)
theorem entry_iter : entryFor table "bytearray.__iter__" = some Builtin.«bytearray.__iter__» := entryFor_of_tree (by kernel_rfl)
theorem args_iter (a : Value) : argsOk "bytearray.__iter__" ⟨[a], []⟩ := by unfold argsOk; kernel_rfl
theorem mro : mroOf (.type "bytearray") = pure [.type "bytearray", .type "object"] := by rw [mroOf_type]; kernel_rfl
end BA
/- RSBa2 -/
section
variable {prog : Program} {w : World} {A : Around} {E : Value → Shared → Prop} {s : Shared} {a : Addr} {l : List UInt8}

theorem ba_typeIs (h : s.heap.get? a = some (baOf l)) : s.TypeIs (.ref a) "bytearray" := ⟨_, h, rfl⟩

theorem meets_len (a : Addr) (l : List UInt8) : Meets (Builtin.«bytearray.__len__» ⟨[.ref a], []⟩) (fun _ R s => s.heap.get? a = some (baOf l) ∧ R (.ok (.ret (.int l.length s.toks))) { s with toks := s.toks + 1 }) :=
  .of_wp fun prog w A R s h => by
    obtain ⟨hp, g, d, tk, os⟩ := s; obtain ⟨hl, h⟩ := h
    have hl' : hp.get? a = some (baOf l) := hl
    wp_walk; exact ⟨_, rfl, by simpa using h⟩

theorem ba_len {Q : Value → Shared → Prop} (h : s.heap.get? a = some (baOf l)) (hfit : l.length < 2 ^ 60)
    (hq : Q (.int l.length (s.toks + 1)) { s with toks := s.toks + 1 + 1 }) : wpAny (model prog w) A (call (.builtin "len") [.ref a]) Q E s := by
  refine Calls.call_function_entry kind_len plain_len entry_len (args_len1 _) ?_
  unfold Builtin.«len»
  refine wpAny_bind (m := oneArg "len" _) (wpAny_pure ?_)
  refine wpAny_bind (m := callSpecial? (.ref a) (Str.ofString "__len__")) (wpAny_callSpecial?_slot (name := Str.ofString "__len__") (ba_typeIs h) BA.slot_len (call_meets BA.slot_len (ba_typeIs h) BA.entry_len (BA.args_len _) (meets_len a l) ⟨h, ?_⟩))
  show wpAny _ _ _ _ _ { s with toks := s.toks + 1 }
  refine wpAny_bind (wpAny_holding (wpAny_pure ?_))
  refine wpAny_bind (wpAny_letGo ?_)
  show wpAny _ _ (if (l.length : Int) < 0 then _ else _) _ _ _
  rw [if_neg (by lia)]
  show wpAny _ _ (if (l.length : Int) ≥ 2 ^ 63 then _ else _) _ _ _
  rw [if_neg (by lia)]
  exact wpAny_bind (wpAny_mkInt (wpAny_pure ⟨_, rfl, hq⟩))

theorem ba_getItem {Q : Value → Shared → Prop} {i : Int} {u : Tok} {j : Nat} {c : UInt8} (h : s.heap.get? a = some (baOf l)) (hfit : Builtin.Bytes.fitsIndex i = true)
    (hj : seqIndex? i l.length = some j) (hc : l[j]? = some c) (hq : Q (.int (iu c) s.toks) { s with toks := s.toks + 1 }) : wpAny (model prog w) A (getItem (.ref a) (.int i u)) Q E s := by
  refine wpAny_getItem_slot (ba_typeIs h) (by decide) BA.slot_getitem (call_meets (S := fun _ R s => s.heap.get? a = some (baOf l) ∧ R (.ok (.ret (.int (iu c) s.toks))) { s with toks := s.toks + 1 }) BA.slot_getitem (ba_typeIs h) BA.entry_getitem (BA.args_getitem _ _) ?_ ⟨h, hq⟩)
  refine .of_wp fun prog w A R s h => ?_
  obtain ⟨hp, g, d, tk, os⟩ := s
  obtain ⟨hl, h⟩ := h
  have hl' : hp.get? a = some (baOf l) := hl
  have hix := F.slot_int_index.lookup
  have ht : typeOf (.int i u) = pure (.type "int") := rfl
  have hai : asIndex (.int i u) = pure i := rfl
  wp_walk
  have e : ((seqIndex? i l.toArray.size).bind fun x => l.toArray[x]?) = some c := by
    rw [List.size_toArray, hj]; simpa using hc
  rw [e]
  exact wpAny_bind (wpAny_mkInt (wpAny_pure ⟨_, rfl, h⟩))

/-- a store of one octet -/
theorem ba_setItem {Q : Unit → Shared → Prop} {i v : Int} {u t : Tok} {j : Nat} {c : UInt8} (h : s.heap.get? a = some (baOf l)) (hz : l.length ≤ sizeLine) (hfit : Builtin.Bytes.fitsIndex i = true)
    (hj : seqIndex? i l.length = some j) (hv : v = iu c)
    (hq : Q () { s with heap := s.heap.update a (Obj.mapBytearray (·.setIfInBounds j c)) }) : wpAny (model prog w) A (setItem (.ref a) (.int i u) (.int v t)) Q E s := by
  subst hv
  unfold setItem
  try with_reducible refine wpAny_holding ?_
  refine wpAny_bind (wpAny_sequenceKey (ba_typeIs h) (by decide) ?_)
  refine wpAny_bind (wpAny_callSpecial?_slot (ba_typeIs h) BA.slot_setitem (call_meets (S := fun _ R s => s.heap.get? a = some (baOf l) ∧ R (.ok (.ret .none)) { s with heap := s.heap.update a (Obj.mapBytearray (·.setIfInBounds j c)) })
    BA.slot_setitem (ba_typeIs h) BA.entry_setitem (BA.args_setitem _ _ _) ?_ ⟨h, wpAny_pure hq⟩))
  refine .of_wp fun prog w A R s h => ?_
  obtain ⟨hp, g, d, tk, os⟩ := s
  obtain ⟨hl, h⟩ := h
  have hl' : hp.get? a = some (baOf l) := hl
  have hix := F.slot_int_index.lookup
  have ht : typeOf (.int i u) = pure (.type "int") := rfl
  have hai : asIndex (.int i u) = pure i := rfl
  have hav : asIndex (.int (iu c) t) = pure (iu c) := rfl
  have hlo : ¬ iu c < 0 := by unfold iu; lia
  have hhi : ¬ iu c ≥ 256 := by have := c.toNat_lt; unfold iu; lia
  wp_walk
  have e : seqIndex? i l.toArray.size = some j := by rw [List.size_toArray]; exact hj
  rw [e]
  have hcc : (iu c).toNat.toUInt8 = c := by unfold iu; simp
  rw [hcc]
  dsimp only
  refine wpAny_bind ?_
  unfold Builtin.Bytes.write updateBytearray
  refine wpAny_bind (wpAny_load hl' ?_)
  refine wpAny_bind (wpAny_update hl' ?_)
  refine wpAny_lookBehind (o := { cls := .type "bytearray", data := .bytearray (l.toArray.setIfInBounds j c) }) (Heap.get?_update_self _ hl' rfl) ?_ (wpAny_pure ⟨_, rfl, h⟩)
  show (if (l.toArray.setIfInBounds j c).size > sizeLine then _ else _) = none
  rw [if_neg (by simp; exact hz)]
end
/- RSC1 -/

/-- a code that holds a bytearray while it decodes: none such lies on our stacks -/
noncomputable def dec : Code → Bool
  | .builtin id _ => Builtin.Bytes.decodersThatHold.contains id
  | _ => false
noncomputable def CleanL (l : List (Code × Pos)) : Prop := ∀ x ∈ l, dec x.1 = false
noncomputable def Clean (Γ : Ctx) : Prop := dec Γ.code = false ∧ CleanL Γ.below

noncomputable def wpC {α : Type} (M : Model) (A : Around) (t : Sem α) (Q : α → Shared → Prop) (E : Value → Shared → Prop) (s : Shared) : Prop :=
  ∀ Γ p, Γ.In A → Clean Γ → wp M Γ t (fun a _ s' => Q a s') (fun e _ s' => E e s') p s
noncomputable def codeC (M : Model) (A : Around) (c : Code) (R : Result → Shared → Prop) (s : Shared) : Prop :=
  ∀ Γ p, Γ.code = c → Γ.Below A → CleanL Γ.below → wpCode M Γ R p s

section
variable {α β : Type} {M : Model} {A : Around} {E : Value → Shared → Prop} {s : Shared}
theorem wpC_of {t : Sem α} {Q : α → Shared → Prop} (h : wpAny M A t Q E s) : wpC M A t Q E s := fun Γ p hΓ _ => h Γ p hΓ
theorem codeC_of {c : Code} {R : Result → Shared → Prop} (h : codeAny M A c R s) : codeC M A c R s := fun Γ p hc hΓ _ => h Γ p hc hΓ
theorem wpC_mono {t : Sem α} {Q Q' : α → Shared → Prop} {E' : Value → Shared → Prop} (h : wpC M A t Q E s)
    (hQ : ∀ a s, Q a s → Q' a s) (hE : ∀ e s, E e s → E' e s) : wpC M A t Q' E' s :=
  fun Γ p hΓ hc => Sem.wp_mono M Γ t (fun a _ s => hQ a s) (fun e _ s => hE e s) p s (h Γ p hΓ hc)
theorem wpC_pure {a : α} {Q : α → Shared → Prop} (h : Q a s) : wpC M A (pure a) Q E s := fun _ _ _ _ => h
theorem wpC_bind {m : Sem α} {f : α → Sem β} {Q : β → Shared → Prop} (h : wpC M A m (fun a s' => wpC M A (f a) Q E s') E s) :
    wpC M A (m >>= f) Q E s := fun Γ p hΓ hc => by
  rw [Sem.wp_bind']
  exact Sem.wp_mono M Γ m (fun a p' s' h' => h' Γ p' hΓ hc) (fun _ _ _ h' => h') p s (h Γ p hΓ hc)
theorem wpC_onRaise {m : Sem α} {k : Value → Sem Unit} {Q : α → Shared → Prop}
    (h : wpC M A m Q (fun e s' => wpC M A (k e) (fun _ s'' => E e s'') E s') s) : wpC M A (m.onRaise k) Q E s := fun Γ p hΓ hc => by
  rw [Sem.wp_onRaise]
  exact Sem.wp_mono M Γ m (fun _ _ _ h' => h') (fun e p' s' h' => h' Γ p' hΓ hc) p s (h Γ p hΓ hc)
theorem wpC_tryCatch {m : Sem α} {k : Value → Sem α} {Q : α → Shared → Prop} (h : wpC M A m Q (fun e s' => wpC M A (k e) Q E s') s) :
    wpC M A (tryCatch m k) Q E s := fun Γ p hΓ hc => by
  rw [Sem.wp_tryCatch']
  exact Sem.wp_mono M Γ m (fun _ _ _ h' => h') (fun e p' s' h' => h' Γ p' hΓ hc) p s (h Γ p hΓ hc)
theorem wpC_attempt {m : Sem α} {Q : Except Value α → Shared → Prop} (h : wpC M A m (fun a => Q (.ok a)) (fun e => Q (.error e)) s) :
    wpC M A m.attempt Q E s := fun Γ p hΓ hc => by rw [Sem.wp_attempt]; exact h Γ p hΓ hc
theorem wpC_holding {vs : List Value} {m : Sem α} {Q : α → Shared → Prop} (h : wpC M A m Q E s) : wpC M A (holding vs m) Q E s :=
  fun Γ p hΓ hc => by rw [Sem.wp_holding]; exact h Γ p hΓ hc
theorem wpC_keep {vs : List Value} {m : Sem α} {Q : α → Shared → Prop} (h : wpC M A m Q E s) : wpC M A (m.keep vs) Q E s :=
  fun Γ p hΓ hc => by rw [Sem.wp_keep]; exact h Γ p hΓ hc
theorem wpC_standAt {pos : Pos} {Q : Unit → Shared → Prop} (h : Q () s) : wpC M A (standAt pos) Q E s := fun _ _ _ _ => h
theorem wpC_point {Q : Unit → Shared → Prop} (h : Q () s) : wpC M A point Q E s := fun _ _ _ _ => h
theorem wpC_rule {tag : String} {Q : Unit → Shared → Prop} (h : Q () s) : wpC M A (rule tag) Q E s := fun _ _ _ _ => h
theorem wpC_operate {vs : List Value} {m : Sem Value} {Q : Value → Shared → Prop} (h : wpC M A m Q E s) : wpC M A (operate vs m) Q E s :=
  fun Γ p hΓ hc => by rw [Sem.wp_operate]; exact h Γ p hΓ hc

theorem CleanL.cons {c : Code} {p : Pos} {l : List (Code × Pos)} (h : dec c = false) (hl : CleanL l) : CleanL ((c, p) :: l) := fun x hx => by
  rcases List.mem_cons.mp hx with rfl | hx
  · exact h
  · exact hl x hx

theorem codeC_mono {c : Code} {R R' : Result → Shared → Prop} (h : codeC M A c R s) (hR : ∀ r s, R r s → R' r s) : codeC M A c R' s :=
  fun Γ p hc hΓ hl => wpCode_mono hR (h Γ p hc hΓ hl)
theorem codeC_of_tree {c : Code} {R : Result → Shared → Prop} (hd : dec c = false)
    (h : wpC M (A.under c) (M.den c) (fun fin s' => match fin with | .done f => R (.ok f) s' | .again c' => c'.quiet = true ∧ codeC M A c' R s')
      (fun e s' => R (.error e) s') s) : codeC M A c R s := fun Γ p hc hΓ hl => by
  rw [wpCode_iff_wp, hc]
  refine Sem.wp_mono M Γ _ (fun fin p' s' h' => ?_) (fun _ _ _ h' => h') p s (h Γ p (hc ▸ hΓ.in) ⟨hc ▸ hd, hl⟩)
  cases fin with
  | done f => exact h'
  | again c' => exact ⟨h'.1, h'.2 (Γ.goto c') p' rfl (hΓ.goto c') hl⟩

theorem wpC_run {c : Code} {h : Option Value} {Q : Flow → Shared → Prop}
    (hc : codeC M (A.mark h) c (fun r s' => match r with | .ok f => Q f s' | .error e => E e s') s) (hnb : h ≠ some byPass := by intro x; cases x) :
    wpC M A (run c h) Q E s :=
  fun Γ p hΓ hl => by rw [Sem.wp_run]; exact hc _ p rfl (hΓ.enter c h p hnb) (hl.2.cons hl.1)
theorem wpC_runValue {c : Code} {Q : Value → Shared → Prop}
    (hc : codeC M A c (fun r s' => match r with | .ok (.ret v) => Q v s' | .ok _ => False | .error e => E e s') s) :
    wpC M A (runValue c) Q E s := fun Γ p hΓ hl => by rw [Sem.wp_runValue]; exact hc _ p rfl (hΓ.enter c none p (by intro x; cases x)) (hl.2.cons hl.1)
theorem wpC_call {f : Value} {pos : List Value} {kw : List (Str × Value)} {Q : Value → Shared → Prop}
    (hc : codeC M A (.call f ⟨pos, kw⟩) (fun r s' => match r with | .ok (.ret v) => Q v s' | .ok _ => False | .error e => E e s') s) :
    wpC M A (call f pos kw) Q E s := wpC_runValue hc

theorem wpC_stack {Q : List (Code × Pos) → Shared → Prop}
    (h : ∀ st : List (Code × Pos), CleanL st → (∀ g, A.guards = some g → guardsOf st = g) → Q st s) : wpC M A stack Q E s := fun Γ p hΓ hc => by
  show Q ((Γ.code, p) :: Γ.below) s
  exact h _ (hc.2.cons hc.1) (fun g hg => by rw [guardsOf_cons]; exact hΓ.2.2.2.1 g hg)
end

section
variable {prog : Program} {w : World} {A : Around} {s : Shared} {R : Result → Shared → Prop}
theorem codeC_builtin {id : String} {args : Args} {b : Builtin} (hb : entryFor table id = some b) (hd : dec (.builtin id args) = false)
    (h : wpC (model prog w) (A.under (.builtin id args)) (b args)
      (fun fin s' => match fin with | .done f => R (.ok f) s' | .again c' => c'.quiet = true ∧ codeC (model prog w) A c' R s') (fun e s' => R (.error e) s') s) :
    codeC (model prog w) A (.builtin id args) R s := by
  refine codeC_of_tree hd ?_
  show wpC _ _ (match entryFor table id with | some b => b args | none => unsupported ((withoutEnding? id "#data").getD id)) _ _ s
  rw [hb]; exact h
theorem codeC_func {body env}
    (h : wpC (model prog w) (A.deeper env) (execs body env) (fun f s' => R (.ok (.ret (match f with | .ret v => v | _ => .none))) s')
      (fun e s' => wpC (model prog w) (A.deeper env) (leaving env e) (fun _ s'' => R (.error e) s'') (fun e' s'' => R (.error e') s'') s') s) :
    codeC (model prog w) A (.func body env) R s := by
  refine codeC_of_tree rfl ?_
  show wpC _ (A.deeper env) (do point; match ← (execs body env).onRaise (leaving env) with | .ret v => ret v | _ => ret .none) _ _ s
  refine wpC_bind (wpC_point (wpC_bind (wpC_onRaise (wpC_mono h (fun f s' h' => ?_) fun _ _ h' => h'))))
  cases f <;> exact wpC_pure h'

theorem codeC_call_function {a : Addr} {args : Args} {o : Obj} {fd : FuncData} {body : List Stmt} (hroom : A.depth < recursionLimit)
    (ho : s.heap.get? a = some o)
    (hd' : o.data = .func fd) (hco : fd.scope.isCoroutine = false) (hgen : fd.scope.isGenerator = false) (hbody : fd.body = .stmts body) (hcd : s.heap.CodeRec fd.code fd.qualname)
    (h : wpC (model prog w) A.in1 (bindArgs fd args) (fun binds s₁ =>
      wpC (model prog w) A.in1 (newFunctionEnv fd.scope fd.globals fd.closure binds (fd.qualname ++ ".<locals>.") (some a) fd.code none fd.builtins)
        (fun env s₂ => s₂.heap.NoLimit ∧ codeC (model prog w) A (.func body env) R s₂) (fun e s' => R (.error e) s') s₁) (fun e s' => R (.error e) s') s) :
    codeC (model prog w) A (.call (.ref a) args) R s := by
  refine codeC_of_tree rfl ?_
  show wpC _ A.in1 (callAny (.ref a) args) _ _ s
  simp only [callAny]
  refine wpC_bind (wpC_of (wpAny_load ho ?_))
  obtain ⟨c, oc, vs, tq, hc, hoc, hdc, hq⟩ := hcd
  simp only [hd', callFunction, hco, hgen, hbody, hc]
  rw [hc] at h
  refine wpC_bind (m := field (.ref c) 1) (wpC_of (wpAny_field hoc hdc hq (wpC_bind (wpC_pure ?_))))
  exact wpC_bind (wpC_mono h (fun binds s₁ h₁ => wpC_bind (wpC_mono h₁ (fun env s₂ h₂ => wpC_bind (wpC_of (wpAny_enterFrame h₂.1 hroom
    (wpC_pure (And.intro rfl h₂.2))))) fun _ _ h' => h')) fun _ _ h' => h')
end

/-- a call of one of the text's defs, its body told in the clean logic; nothing is raised -/
theorem enterC {w : World} {A : Around} {s : Shared} {i : Nat} {a : Addr} {dV : Value} {args : List Value} {binds : List (Str × Value)} {R : Result → Shared → Prop}
    (hroom : A.depth < recursionLimit) (hf : FnAt s.heap i a dV) (hl : s.heap.NoLimit) (hbind : ∀ pm cdv, BindsTo s (fdAt i dV pm cdv) ⟨args, []⟩ binds)
    (h : ∀ L cdv h₁, Fr s.heap L h₁ (fun x => binds.reverse.lookup x) →
      wpC (model P w) (A.deeper (envOf (nameAt i) (scopeAt i) L a cdv)) (execs (bodyAt i) (envOf (nameAt i) (scopeAt i) L a cdv)) (fun f s' => R (.ok (.ret (match f with | .ret v => v | _ => .none))) s')
        (fun e s' => wpC (model P w) (A.deeper (envOf (nameAt i) (scopeAt i) L a cdv)) (leaving (envOf (nameAt i) (scopeAt i) L a cdv) e) (fun _ s'' => R (.error e) s'') (fun e' s'' => R (.error e') s'') s')
        { s with heap := h₁, toks := s.toks + binds.length })
    (hcell : ∀ x ∈ (scopeAt i).names, x.2 ≠ .cell := by decide +kernel) (hloc : ∀ x ∈ binds, (scopeAt i).names.lookup x.1 = some .local)
    (hco : (scopeAt i).isCoroutine = false := by decide +kernel) (hgen : (scopeAt i).isGenerator = false := by decide +kernel) (hk : (scopeAt i).kind = .function := by decide +kernel) :
    codeC (model P w) A (.call (.ref a) ⟨args, []⟩) R s := by
  obtain ⟨o, pm, cdv, ho, hd, hc⟩ := hf
  refine codeC_call_function (fd := fdAt i dV pm cdv) (body := bodyAt i) hroom ho hd hco hgen rfl hc (wpC_of (hbind pm cdv _ _ _ _ ?_))
  refine wpC_of (wpAny_newFunctionEnv hcell hloc (fun h₀ hns₀ hsb₀ => ⟨hl.fresh _ hsb₀, codeC_func (h s.heap.objs.size cdv h₀ ⟨hns₀, fun b o e => ?_, Nat.le_refl _⟩)⟩) hk)
  exact hsb₀.extBut b o (Nat.ne_of_lt (Heap.lt_size e)) (Heap.get?_push_of_some _ e)
/- RSBa3 -/
namespace BA
theorem release : typeLookup (.type "bytearray") "__release_buffer__" = pure (some (.builtin "bytearray.__release_buffer__")) := by rw [typeLookup_type, builtinLookup_eq_fast]; kernel_rfl
theorem lookup_new : typeLookup (.type "bytearray") "__new__" = pure (some (.builtin "bytearray.__new__")) := by rw [typeLookup_type, builtinLookup_eq_fast]; kernel_rfl
theorem called : TypeCalled "bytearray" "bytearray.__new__" "bytearray.__init__" :=
  ⟨by decide +kernel, by decide +kernel, ⟨_, _, mro⟩, madeBy_type mro lookup_new (by decide +kernel), by decide +kernel, by rw [isSubtype_type]; kernel_rfl, slot_init⟩
theorem typeCall (a : Value) : checkTypeCall "bytearray" ⟨[a], []⟩ = pure () := by kernel_rfl
theorem newCall (a : Value) : checkBuiltinCall "bytearray.__new__" ⟨[.type "bytearray", a], []⟩ = pure () := by kernel_rfl
theorem entry_new : entryFor table "bytearray.__new__" = some Builtin.«list.__new__» := by rw [table_eq_tree]; kernel_rfl
theorem plain_new : plainId "bytearray.__new__" = true := by decide +kernel
theorem plain_init : plainId "bytearray.__init__" = true := by decide +kernel
theorem bind1 (v : Value) : Builtin.Bytes.bindOptional "bytearray.__init__" "bytearray" ["source", "encoding", "errors"] [v] [] = pure [some v, none, none] := by kernel_rfl
theorem list_index : typeLookup (.type "list") "__index__" = pure none := by rw [typeLookup_type, builtinLookup_eq_fast]; kernel_rfl
theorem list_buffer : typeLookup (.type "list") "__buffer__" = pure none := by rw [typeLookup_type, builtinLookup_eq_fast]; kernel_rfl
theorem sub : isSubtype (.type "bytearray") (.type "bytearray") = pure true := by rw [isSubtype_type]; kernel_rfl
theorem dec_init (as : Args) : dec (.builtin "bytearray.__init__" as) = false := by show Builtin.Bytes.decodersThatHold.contains "bytearray.__init__" = false; decide +kernel
theorem dec_call (as : Args) : dec (.builtin "type.__call__" as) = false := by show Builtin.Bytes.decodersThatHold.contains "type.__call__" = false; decide +kernel
set_option maxHeartbeats 4000000 in
theorem owner_new : ("bytearray.__new__".splitOn ".__new__").headD "" = "bytearray" := by simp +decide [String.splitOn, String.splitOnAux]
theorem ends_release : ("bytearray.__release_buffer__".endsWith ("." ++ "__release_buffer__")) = true := by decide +kernel
theorem drop_release : ("bytearray.__release_buffer__".dropRight ("__release_buffer__".length + 1)) = "bytearray" := by decide +kernel
end BA

section
variable {prog : Program} {w : World} {A : Around} {E : Value → Shared → Prop} {s : Shared}
theorem code_ba_new (a : Value) {Q₁ : Value → Shared → Prop} (h : Q₁ (.ref s.heap.objs.size) { s with heap := s.heap.push (baOf []) }) :
    codeAny (model prog w) A (.call (.builtin "bytearray.__new__") ⟨[.type "bytearray", a], []⟩) (wants Q₁ E) s := by
  refine codeAny_of_tree ?_
  show wpAny _ A.in1 (do checkBuiltinCall "bytearray.__new__" ⟨[.type "bytearray", a], []⟩; again (.builtin "bytearray.__new__" ⟨[.type "bytearray", a], []⟩)) _ _ s
  refine wpAny_bind (wpAny_of_eq (BA.newCall a) (wpAny_pure ⟨plainId_quiet BA.plain_new _, codeAny_builtin_stack BA.entry_new rfl fun p st => ?_⟩))
  rw [Around.under_plainId BA.plain_new _]
  have hsub := BA.sub
  have hown := BA.owner_new
  obtain ⟨hp, g, d, tk, os⟩ := s
  simp only [hown]
  wp_walk
  exact h

theorem guards_in1 (A : Around) : A.in1.guards = A.guards := rfl

/-- no code on a clean stack holds the bytearray -/
theorem wpC_exported {v : Value} {Q : Bool → Shared → Prop} (hg : A.guards = some []) (h : Q false s) : wpC (model prog w) A (Builtin.Bytes.exported v) Q E s := by
  unfold Builtin.Bytes.exported
  refine wpC_bind (wpC_stack fun st hc hgs => wpC_pure ?_)
  have hg0 : ∀ x ∈ st, x.1.isGuard = false := by
    have := hgs [] hg
    intro x hx
    cases hq : x.1.isGuard with
    | false => rfl
    | true =>
      have : x.1 ∈ guardsOf st := by
        unfold guardsOf
        exact List.mem_filter.mpr ⟨List.mem_map.mpr ⟨x, hx, rfl⟩, hq⟩
      rw [hgs [] hg] at this; cases this
  have key : ∀ f : Code × Pos → Bool, (∀ x ∈ st, f x = false) → Q (st.any f) s := fun f hf => by
    have : st.any f = false := by
      rw [List.any_eq_false]
      intro x hx
      rw [hf x hx]; exact Bool.false_ne_true
    rw [this]; exact h
  refine key _ fun x hx => ?_
  have h1 := hg0 x hx
  have h2 := hc x hx
  split <;> first | rfl | (exfalso; revert h1; simp only [Code.isGuard, guardIds]; decide) | skip
  · rename_i id v' _ _ _ _ _ _ _ _
    have h2' : Builtin.Bytes.decodersThatHold.contains id = false := h2
    rw [h2', Bool.and_false]
end
/- RSBa4 -/
section
variable {prog : Program} {w : World} {A : Around} {E : Value → Shared → Prop} {s : Shared}

theorem asStr_int (i : Int) (t : Tok) : asStr? (.int i t) = pure none := rfl
theorem BA.can : decide (((Manifest.find? "bytearray").bind (·.mro.findSome? fun t => (Manifest.find? t).bind fun b => if b.noNew then some true else if b.attrs.any (·.1 == "__new__") then some false else none)).getD false = true) = false := by decide +kernel
theorem wpC_ite_true {α : Type} {M : Model} {c : Prop} [Decidable c] {a b : Sem α} {Q : α → Shared → Prop} (hc : decide c = true) (h : wpC M A a Q E s) :
    wpC M A (if c then a else b) Q E s := by rw [if_pos (of_decide_eq_true hc)]; exact h
theorem wpC_ite_false {α : Type} {M : Model} {c : Prop} [Decidable c] {a b : Sem α} {Q : α → Shared → Prop} (hc : decide c = false) (h : wpC M A b Q E s) :
    wpC M A (if c then a else b) Q E s := by rw [if_neg (of_decide_eq_false hc)]; exact h

theorem wpAny_ownRelease {S : Addr} {l : List UInt8} {Q : Bool → Shared → Prop} (hS : s.heap.get? S = some (baOf l)) (h : Q false s) : wpAny (model prog w) A (Builtin.Bytes.ownRelease (.ref S)) Q E s := by
  have hT : s.TypeIs (.ref S) "bytearray" := ⟨_, hS, rfl⟩
  unfold Builtin.Bytes.ownRelease Builtin.Bytes.slotIsOwn
  refine wpAny_bind (wpAny_bind (wpAny_specialOf hT BA.release ?_))
  show wpAny _ _ (if (!"bytearray.__release_buffer__".endsWith ("." ++ "__release_buffer__")) = true then _ else _) _ _ _
  rw [BA.ends_release]
  refine wpAny_ite_false rfl ?_
  rw [BA.drop_release]
  exact wpAny_isInstance hT BA.sub (wpAny_pure h)

theorem wpAny_write {S : Addr} {l : Array UInt8} {f : Array UInt8 → Array UInt8} {Q : Unit → Shared → Prop} (hS : s.heap.get? S = some { cls := .type "bytearray", data := .bytearray l }) (hz : (f l).size ≤ sizeLine)
    (h : Q () { s with heap := s.heap.update S (Obj.mapBytearray f) }) : wpAny (model prog w) A (Builtin.Bytes.write (.ref S) f) Q E s := by
  unfold Builtin.Bytes.write updateBytearray
  refine wpAny_bind (wpAny_load hS ?_)
  refine wpAny_bind (wpAny_update hS ?_)
  refine wpAny_lookBehind (o := { cls := .type "bytearray", data := .bytearray (f l) }) (Heap.get?_update_self _ hS rfl) ?_ h
  show (if (f l).size > sizeLine then _ else _) = none
  rw [if_neg (by lia)]

theorem good_take {p : Value → Bool} (hp : ∀ i t, p (.int i t) = (decide (0 ≤ i) && decide (i < 256))) : ∀ {us : List UInt8} {vs : List Value}, IntsAre vs (us.map iu) → List.takeWhile p vs = vs
  | [], _, h => by cases h; rfl
  | u :: us, _, h => by
    cases h with
    | cons _ _ h =>
      have h1 : (0 : Int) ≤ iu u := by unfold iu; lia
      have h2 : iu u < 256 := by have := u.toNat_lt; unfold iu; lia
      simp [hp, h1, h2, good_take hp h]
theorem good_map {f : Value → Option UInt8} (hp : ∀ i t, f (.int i t) = some i.toNat.toUInt8) : ∀ {us : List UInt8} {vs : List Value}, IntsAre vs (us.map iu) → List.filterMap f vs = us
  | [], _, h => by cases h; rfl
  | u :: us, _, h => by
    cases h with
    | cons _ _ h =>
      have : (iu u).toNat.toUInt8 = u := by unfold iu; simp
      simp [hp, this, good_map hp h]

theorem init_list {S l : Addr} {vs : List Value} {us : List UInt8} {n : Nat} {Q : PySem.Fin → Shared → Prop} (hg : A.guards = some []) (hS : s.heap.get? S = some (baOf []))
    (hl : s.heap.get? l = some { cls := .type "list", data := .seq vs.toArray n }) (hne : S ≠ l) (hi : IntsAre vs (us.map iu)) (hz : us.length ≤ sizeLine)
    (h : ∀ h', h'.get? S = some (baOf us) → Heap.SameBut S s.heap h' → Q (.done (.ret .none)) { s with heap := h' }) :
    wpC (model prog w) A (Builtin.«bytearray.__init__» ⟨[.ref S, .ref l], []⟩) Q E s := by
  unfold Builtin.«bytearray.__init__»
  show wpC _ _ (Builtin.Bytes.ownRelease (.ref S) >>= _) _ _ _
  refine wpC_bind (wpC_of (wpAny_ownRelease hS ?_))
  show wpC _ _ (Builtin.Bytes.bindOptional "bytearray.__init__" "bytearray" ["source", "encoding", "errors"] [.ref l] [] >>= _) _ _ _
  refine wpC_bind (wpC_of (wpAny_of_eq (BA.bind1 _) ?_))
  show wpC _ _ (Builtin.Bytes.checkCodecArg _ _ _ none >>= _) _ _ _
  refine wpC_bind (wpC_pure ?_)
  show wpC _ _ (Builtin.Bytes.checkCodecArg _ _ _ none >>= _) _ _ _
  refine wpC_bind (wpC_pure ?_)
  refine wpC_bind ?_
  show wpC _ _ (Builtin.Bytes.exported (.ref S) >>= _) _ _ _
  refine wpC_bind (wpC_exported hg ?_)
  refine wpC_of ?_
  show wpAny _ _ (Builtin.Bytes.exportsOf (.ref S) >>= _) _ _ _
  unfold Builtin.Bytes.exportsOf
  refine wpAny_bind (wpAny_bind (wpAny_load hS (wpAny_pure (wpAny_pure ?_))))
  refine wpC_of ?_
  refine wpAny_ite_false rfl ?_
  refine wpAny_bind (wpAny_write hS (Nat.zero_le _) ?_)
  have hS2 := Heap.get?_update_self (Obj.mapBytearray fun _ => #[]) hS rfl
  have hl2 : (s.heap.update S (Obj.mapBytearray fun _ => #[])).get? l = some { cls := .type "list", data := .seq vs.toArray n } := (Heap.get?_update_other _ _ hne).trans hl
  have hT2 : Shared.TypeIs { s with heap := s.heap.update S (Obj.mapBytearray fun _ => #[]) } (.ref l) "list" := ⟨_, hl2, rfl⟩
  show wpAny _ _ (asStr? (.ref l) >>= _) _ _ _
  refine wpAny_bind (wpAny_bind (wpAny_load hl2 (wpAny_pure ?_)))
  refine wpAny_ite_false rfl ?_
  refine wpAny_bind (wpAny_pure ?_)
  refine wpAny_bind (wpAny_specialOf hT2 BA.list_index ?_)
  refine wpAny_ite_false rfl ?_
  refine wpAny_bind ?_
  unfold Builtin.Bytes.buffer?
  refine wpAny_bind (wpAny_specialOf hT2 BA.list_buffer ?_)
  refine wpAny_bind (wpAny_specialOf hT2 BA.list_buffer ?_)
  refine wpAny_pure ?_
  refine wpAny_bind (wpAny_typeOf hT2 ?_)
  refine wpAny_ite_true (by decide) ?_
  refine wpAny_bind (wpAny_seqItems hl2 rfl ?_)
  have hlen : vs.length = us.length := by have := hi.length; simpa using this
  dsimp only
  rw [good_take (fun _ _ => rfl) hi, good_map (fun _ _ => rfl) hi]
  have hnone : vs.toArray[vs.length]? = none := by simp
  rw [hnone]
  refine wpAny_bind (wpAny_rule ?_)
  refine wpAny_bind (wpAny_write hS2 (by simpa using hz) (wpAny_pure ?_))
  refine h _ (Heap.get?_update_self (Obj.mapBytearray fun _ => us.toArray) hS2 rfl) ?_
  exact (Heap.SameBut.update ..).trans (Heap.SameBut.update ..)

theorem init_int {S : Addr} {n : Nat} {i : Int} {tk : Tok} {Q : PySem.Fin → Shared → Prop} (hg : A.guards = some []) (hS : s.heap.get? S = some (baOf [])) (hn : i = (n : Int)) (hz : n ≤ 1000000)
    (h : ∀ h', h'.get? S = some (baOf (List.replicate n 0)) → Heap.SameBut S s.heap h' → Q (.done (.ret .none)) { s with heap := h' }) :
    wpC (model prog w) A (Builtin.«bytearray.__init__» ⟨[.ref S, .int i tk], []⟩) Q E s := by
  have hz' : n ≤ sizeLine := by rw [sizeLine_eq]; lia
  unfold Builtin.«bytearray.__init__»
  show wpC _ _ (Builtin.Bytes.ownRelease (.ref S) >>= _) _ _ _
  refine wpC_bind (wpC_of (wpAny_ownRelease hS ?_))
  show wpC _ _ (Builtin.Bytes.bindOptional "bytearray.__init__" "bytearray" ["source", "encoding", "errors"] [.int i tk] [] >>= _) _ _ _
  refine wpC_bind (wpC_of (wpAny_of_eq (BA.bind1 _) ?_))
  show wpC _ _ (Builtin.Bytes.checkCodecArg _ _ _ none >>= _) _ _ _
  refine wpC_bind (wpC_pure ?_)
  show wpC _ _ (Builtin.Bytes.checkCodecArg _ _ _ none >>= _) _ _ _
  refine wpC_bind (wpC_pure ?_)
  refine wpC_bind ?_
  show wpC _ _ (Builtin.Bytes.exported (.ref S) >>= _) _ _ _
  refine wpC_bind (wpC_exported hg ?_)
  refine wpC_of ?_
  show wpAny _ _ (Builtin.Bytes.exportsOf (.ref S) >>= _) _ _ _
  unfold Builtin.Bytes.exportsOf
  refine wpAny_bind (wpAny_bind (wpAny_load hS (wpAny_pure (wpAny_pure ?_))))
  refine wpC_of ?_
  refine wpAny_ite_false rfl ?_
  refine wpAny_bind (wpAny_write hS (Nat.zero_le _) ?_)
  have hS2 := Heap.get?_update_self (Obj.mapBytearray fun _ => #[]) hS rfl
  have f1 : Builtin.Bytes.fitsIndex i = true := by
    simp only [Builtin.Bytes.fitsIndex, Bool.and_eq_true, decide_eq_true_eq]; lia
  have f3 : (i == 2 ^ 63 - 1) = false := by simp; lia
  have f4 : Builtin.Bytes.tooLong i.toNat = false := by simp [Builtin.Bytes.tooLong]; lia
  have f5 : i.toNat = n := by lia
  show wpAny _ _ (asStr? (.int i tk) >>= _) _ _ _
  rw [asStr_int]
  refine wpAny_bind (wpAny_pure ?_)
  refine wpAny_ite_false rfl ?_
  refine wpAny_bind (wpAny_pure ?_)
  refine wpAny_bind (wpAny_specialOf (typeIs_int _ _ _) F.slot_int_index.lookup ?_)
  refine wpAny_ite_true rfl ?_
  refine wpAny_bind (wpAny_attempt (wpAny_of_eq (rfl : asIndex (.int i tk) = pure i) ?_))
  refine wpAny_ite_false (c := (!Builtin.Bytes.fitsIndex i) = true) (by rw [f1]; rfl) ?_
  refine wpAny_ite_false (c := i < 0) (by simp; lia) ?_
  refine wpAny_ite_false (c := (i == 2 ^ 63 - 1) = true) (by rw [f3]; rfl) ?_
  refine wpAny_ite_false (c := Builtin.Bytes.tooLong i.toNat = true) (by rw [f4]; rfl) ?_
  refine wpAny_bind (wpAny_rule ?_)
  by_cases h0 : n = 0
  · subst h0
    refine wpAny_ite_false (c := i > 0) (by simp; lia) ?_
    exact wpAny_pure (h _ hS2 (Heap.SameBut.update ..))
  · refine wpAny_ite_true (c := i > 0) (by simp; lia) ?_
    refine wpAny_bind (wpAny_write hS2 (by rw [f5]; simpa using hz') (wpAny_pure ?_))
    refine h _ ?_ ((Heap.SameBut.update ..).trans (Heap.SameBut.update ..))
    have := Heap.get?_update_self (Obj.mapBytearray fun _ => Array.replicate i.toNat 0) hS2 rfl
    rw [this, f5]
    simp [Obj.mapBytearray]

/-- the type called: new, then init -/
theorem callBa {v : Value} {Q : Value → Shared → Prop}
    (hinit : ∀ s₁ : Shared, s₁ = { s with heap := s.heap.push (baOf []) } → ∀ Q' : PySem.Fin → Shared → Prop, (∀ s₂, Q (.ref s.heap.objs.size) s₂ → Q' (.done (.ret .none)) s₂) →
      wpC (model prog w) A.in1.in1 (Builtin.«bytearray.__init__» ⟨[.ref s.heap.objs.size, v], []⟩) Q' E s₁) :
    wpC (model prog w) A (call (.type "bytearray") [v]) Q E s := by
  obtain ⟨c, tl, hmro⟩ := BA.called.mro
  refine wpC_call (codeC_of_tree rfl ?_)
  show wpC _ _ (callAny (.type "bytearray") _) _ _ _
  refine wpC_pure ⟨Code.quiet_builtin _ (by decide +kernel), codeC_builtin F.entry_type_call (BA.dec_call _) ?_⟩
  rw [Around.under_plain (weight_type_call_type "bytearray" [v] []) (units_type_call_type "bytearray" [v] [])]
  unfold Builtin.«type.__call__»
  dsimp only
  refine wpC_ite_false rfl ?_
  refine wpC_ite_false BA.can ?_
  refine wpC_bind (wpC_of (wpAny_of_eq (BA.typeCall v) ?_))
  refine wpC_bind (wpC_of (wpAny_of_eq hmro ?_))
  refine wpC_ite_false rfl ?_
  refine wpC_bind (wpC_of (wpAny_of_eq BA.called.made ?_))
  refine wpC_bind (wpC_pure ?_)
  refine wpC_bind (wpC_holding (wpC_call (codeC_of (codeAny_mono (code_ba_new (E := E) (Q₁ := fun v' s' => v' = .ref s.heap.objs.size ∧ s' = { s with heap := s.heap.push (baOf []) }) v ⟨rfl, rfl⟩) ?_))))
  intro r s₁ hr
  cases r with
  | error e => exact hr
  | ok fl =>
    cases fl with
    | ret obj =>
      obtain ⟨rfl, rfl⟩ := hr
      have hS : (s.heap.push (baOf [])).get? s.heap.objs.size = some (baOf []) := Heap.get?_push_size _ rfl
      have hT : Shared.TypeIs { s with heap := s.heap.push (baOf []) } (.ref s.heap.objs.size) "bytearray" := ⟨_, hS, rfl⟩
      refine wpC_bind (wpC_of (wpAny_isInstance hT BA.sub ?_))
      refine wpC_ite_false rfl ?_
      refine wpC_bind (wpC_holding ?_)
      unfold callSpecial?
      refine wpC_bind (wpC_of (wpAny_specialOf hT BA.slot_init.lookup ?_))
      refine wpC_holding ?_
      refine wpC_bind (wpC_of (wpAny_of_eq (BA.slot_init.bind _) ?_))
      refine wpC_bind ?_
      show wpC _ _ (call (.builtin "bytearray.__init__") [.ref s.heap.objs.size, v]) _ _ _
      refine wpC_call (codeC_of_tree rfl ?_)
      show wpC _ _ (do checkBuiltinCall "bytearray.__init__" ⟨[.ref s.heap.objs.size, v], []⟩; again (.builtin "bytearray.__init__" ⟨[.ref s.heap.objs.size, v], []⟩)) _ _ _
      refine wpC_bind (wpC_of (BA.slot_init.check _ _ _ _ _ _ _ _ hT (BA.args_init _ _) ?_))
      refine wpC_pure ⟨plainId_quiet BA.plain_init _, codeC_builtin BA.entry_init (BA.dec_init _) ?_⟩
      rw [Around.under_plainId BA.plain_init _]
      refine hinit _ rfl _ fun s₂ hq => ?_
      refine wpC_pure ?_
      exact wpC_ite_false rfl (wpC_pure hq)
    | _ => exact hr.elim

theorem ba_ofList {l : Addr} {vs : List Value} {us : List UInt8} {n : Nat} {Q : Value → Shared → Prop} (hg : A.guards = some [])
    (hl : s.heap.get? l = some { cls := .type "list", data := .seq vs.toArray n }) (hi : IntsAre vs (us.map iu)) (hz : us.length ≤ sizeLine)
    (h : ∀ h', s.heap.StaysIn h' → h'.get? s.heap.objs.size = some (baOf us) → h'.objs.size = s.heap.objs.size + 1 → Q (.ref s.heap.objs.size) { s with heap := h' }) :
    wpC (model prog w) A (call (.type "bytearray") [.ref l]) Q E s := by
  refine callBa fun s₁ e Q' hQ' => ?_
  subst e
  have hne : s.heap.objs.size ≠ l := Nat.ne_of_gt (Heap.lt_size hl)
  refine init_list hg (Heap.get?_push_size _ rfl) (Heap.get?_push_of_some _ hl) hne hi hz fun h' h1 h2 => hQ' _ ?_
  refine h h' (fun b o e => h2.extBut b o (Nat.ne_of_lt (Heap.lt_size e)) (Heap.get?_push_of_some _ e)) h1 ?_
  rw [h2.1, Heap.size_push]

theorem ba_ofInt {i : Int} {n : Nat} {tk : Tok} {Q : Value → Shared → Prop} (hg : A.guards = some []) (hn : i = (n : Int)) (hz : n ≤ 1000000)
    (h : ∀ h', s.heap.StaysIn h' → h'.get? s.heap.objs.size = some (baOf (List.replicate n 0)) → h'.objs.size = s.heap.objs.size + 1 → Q (.ref s.heap.objs.size) { s with heap := h' }) :
    wpC (model prog w) A (call (.type "bytearray") [.int i tk]) Q E s := by
  refine callBa fun s₁ e Q' hQ' => ?_
  subst e
  refine init_int hg (Heap.get?_push_size _ rfl) hn hz fun h' h1 h2 => hQ' _ ?_
  refine h h' (fun b o e => h2.extBut b o (Nat.ne_of_lt (Heap.lt_size e)) (Heap.get?_push_of_some _ e)) h1 ?_
  rw [h2.1, Heap.size_push]
end

namespace BA
theorem buffer : typeLookup (.type "bytearray") "__buffer__" = pure (some (.builtin "bytearray.__buffer__")) := by rw [typeLookup_type, builtinLookup_eq_fast]; kernel_rfl
theorem ends_buffer : ("bytearray.__buffer__".endsWith ("." ++ "__buffer__")) = true := by decide +kernel
theorem drop_buffer : ("bytearray.__buffer__".dropRight ("__buffer__".length + 1)) = "bytearray" := by decide +kernel
theorem noR_add : typeLookup (.type "bytearray") (dunderR "add") = pure none := by rw [typeLookup_type, builtinLookup_eq_fast]; kernel_rfl
theorem noFill_add : fillsNumberSlot (.type "bytearray") "add" = pure false := PySem.fillsNumberSlot_seq (id := "bytearray.__add__") (r := none) slot_add.lookup (by decide +kernel) noR_add rfl
theorem seq_add : seqSlot? (.type "bytearray") "__add__" = pure (some (.builtin "bytearray.__add__")) := PySem.seqSlot_of slot_add.lookup (by decide +kernel)
end BA
section
variable {prog : Program} {w : World} {A : Around} {E : Value → Shared → Prop} {s : Shared}
theorem wpAny_buffer {S : Addr} {l : List UInt8} {id : String} {Q : Option (Array UInt8) → Shared → Prop} (hS : s.heap.get? S = some (baOf l)) (h : Q (some l.toArray) s) :
    wpAny (model prog w) A (Builtin.Bytes.buffer? id (.ref S)) Q E s := by
  have hT : s.TypeIs (.ref S) "bytearray" := ⟨_, hS, rfl⟩
  unfold Builtin.Bytes.buffer?
  refine wpAny_bind (wpAny_specialOf hT BA.buffer ?_)
  show wpAny _ _ (Builtin.Bytes.slotIsOwn (.ref S) "__buffer__" >>= _) _ _ _
  refine wpAny_bind ?_
  unfold Builtin.Bytes.slotIsOwn
  refine wpAny_bind (wpAny_specialOf hT BA.buffer ?_)
  show wpAny _ _ (if (!"bytearray.__buffer__".endsWith ("." ++ "__buffer__")) = true then _ else _) _ _ _
  rw [BA.ends_buffer]
  refine wpAny_ite_false rfl ?_
  rw [BA.drop_buffer]
  refine wpAny_isInstance hT BA.sub ?_
  refine wpAny_ite_false rfl ?_
  refine wpAny_bind (wpAny_specialOf hT BA.buffer ?_)
  refine wpAny_bind (wpAny_ownRelease hS ?_)
  refine wpAny_ite_false rfl ?_
  refine wpAny_bind ?_
  unfold Builtin.Bytes.payload Builtin.Bytes.payload?
  exact wpAny_bind (wpAny_bind (wpAny_load hS (wpAny_pure (wpAny_pure (wpAny_pure h)))))

theorem ba_add {a b : Addr} {l k : List UInt8} {Q : Value → Shared → Prop} (ha : s.heap.get? a = some (baOf l)) (hb : s.heap.get? b = some (baOf k)) (hz : l.length + k.length ≤ sizeLine)
    (h : Q (.ref s.heap.objs.size) { s with heap := s.heap.push (baOf (l ++ k)) }) : wpAny (model prog w) A (binaryOp .Add (.ref a) (.ref b)) Q E s := by
  refine concat_meets (S := fun _ R s => s.heap.get? a = some (baOf l) ∧ s.heap.get? b = some (baOf k) ∧ R (.ok (.ret (.ref s.heap.objs.size))) { s with heap := s.heap.push (baOf (l ++ k)) })
    ⟨_, ha, rfl⟩ ⟨_, hb, rfl⟩ BA.noFill_add BA.seq_add BA.slot_add BA.entry_add (BA.args_add _ _) ?_ ⟨ha, hb, h⟩
  refine .of_wp fun prog w A R s h => ?_
  obtain ⟨ha, hb, h⟩ := h
  unfold Builtin.«bytearray.__add__»
  refine wpAny_bind (wpAny_of_eq (a := (Value.ref a, [Value.ref b])) rfl ?_)
  refine wpAny_bind (wpAny_buffer ha ?_)
  refine wpAny_bind ?_
  unfold Builtin.Bytes.bufferQuiet?
  refine wpAny_bind (wpAny_attempt (wpAny_buffer hb ?_))
  refine wpAny_pure ?_
  have hz' : Builtin.Bytes.tooLong (l.toArray.size + k.toArray.size) = false := by simp [Builtin.Bytes.tooLong]; lia
  dsimp only
  rw [hz']
  refine wpAny_ite_false rfl ?_
  refine wpAny_bind ?_
  unfold Builtin.Bytes.newBytearray
  refine wpAny_newObj_type ?_ ?_
  · refine wpAny_pure ⟨_, rfl, ?_⟩
    have e : (l.toArray ++ k.toArray) = (l ++ k).toArray := by simp
    rw [e]; exact h
  · show (l.toArray ++ k.toArray).size ≤ sizeLine
    simp; lia
end
/- RSBa5 -/
namespace BA
theorem slot_next : Slot "bytearray_iterator" "__next__" "bytearray_iterator.__next__" :=
  .of (owner := "bytearray_iterator") (n := "__next__") (by rw [typeLookup_type, builtinLookup_eq_fast]; kernel_rfl) (by decide +kernel) (by decide +kernel) (by decide +kernel)
    (by first | exact .inl (by decide +kernel) | exact .inr (by decide +kernel)) (by rw [isSubtype_type]; kernel_rfl)
theorem entry_next : entryFor table "bytearray_iterator.__next__" = some Builtin.«bytearray_iterator.__next__» := entryFor_of_tree (by kernel_rfl)
theorem args_next (a : Value) : argsOk "bytearray_iterator.__next__" ⟨[a], []⟩ := by unfold argsOk; kernel_rfl
theorem lookup_iter_iter : typeLookup (.type "bytearray_iterator") "__iter__" = pure (some (.builtin "bytearray_iterator.__iter__")) := by rw [typeLookup_type, builtinLookup_eq_fast]; kernel_rfl
end BA
noncomputable abbrev baIter (a : Addr) (i : Int) : Obj := { cls := .type "bytearray_iterator", data := .fields #[.ref a, .int i 0] }
section
variable {prog : Program} {w : World} {A : Around} {E : Value → Shared → Prop} {s : Shared}
theorem pyIter_ba {a : Addr} {l : List UInt8} {Q : Value → Shared → Prop} (h : s.heap.get? a = some (baOf l)) (hQ : Q (.ref s.heap.objs.size) { s with heap := s.heap.push (baIter a 0) }) :
    wpAny (model prog w) A (pyIter (.ref a)) Q E s := by
  have hT := ba_typeIs h
  refine wpAny_pyIter_slot hT BA.slot_iter (wpAny_call_entry BA.slot_iter hT BA.entry_iter ?_ (BA.args_iter _))
  show wpAny _ _ (do ret (← newFields "bytearray_iterator" [.ref a, rawInt 0])) _ _ s
  exact wpAny_bind (wpAny_newObj_type (wpAny_pure ⟨_, rfl, "bytearray_iterator", _, ⟨_, Heap.get?_push_size _ rfl, rfl⟩, BA.slot_next.lookup, hQ⟩))

theorem pyNext_ba_item {it a : Addr} {i : Int} {k : Nat} {l : List UInt8} {c : UInt8} {Q : Option Value → Shared → Prop} (hit : s.heap.get? it = some (baIter a i)) (hl : s.heap.get? a = some (baOf l)) (hi : i.toNat = k) (hx : l[k]? = some c)
    (hQ : ∀ h', h'.get? it = some (baIter a (i + 1)) → Heap.SameBut it s.heap h' → Q (some (.int (iu c) s.toks)) { s with heap := h', toks := s.toks + 1 }) :
    wpAny (model prog w) A (pyNext (.ref it)) Q E s := by
  have hT : s.TypeIs (.ref it) "bytearray_iterator" := ⟨_, hit, rfl⟩
  unfold pyNext
  refine wpAny_bind (wpAny_attempt (wpAny_callSpecial?_slot (name := Str.ofString "__next__") hT BA.slot_next (wpAny_call_entry BA.slot_next hT BA.entry_next ?_ (BA.args_next _))))
  unfold Builtin.«bytearray_iterator.__next__»
  refine wpAny_bind (wpAny_of_eq (a := (Value.ref it, ([] : List Value))) rfl ?_)
  refine wpAny_bind (wpAny_field hit rfl (x := .ref a) rfl ?_)
  refine wpAny_bind (wpAny_load hl ?_)
  refine wpAny_bind (wpAny_field hit rfl (x := .int i 0) rfl ?_)
  have e : l.toArray[i.toNat]? = some c := by rw [hi]; simpa using hx
  show wpAny _ _ (match l.toArray[i.toNat]? with | some c => _ | none => _) _ _ _
  rw [e]
  refine wpAny_bind (wpAny_setField hit rfl (by simp) ?_)
  refine wpAny_bind (wpAny_mkInt (wpAny_pure ⟨_, rfl, wpAny_pure (hQ _ ?_ (Heap.SameBut.update ..))⟩))
  exact Heap.get?_update_self _ hit rfl

theorem pyNext_ba_end {it a : Addr} {i : Int} {k : Nat} {l : List UInt8} {Q : Option Value → Shared → Prop} (hh : A.handled = none) (hit : s.heap.get? it = some (baIter a i)) (hl : s.heap.get? a = some (baOf l)) (hi : i.toNat = k) (hx : l[k]? = none)
    (hQ : ∀ h', Heap.ExtBut it s.heap h' → Q none { s with heap := h' }) :
    wpAny (model prog w) A (pyNext (.ref it)) Q E s := by
  have hT : s.TypeIs (.ref it) "bytearray_iterator" := ⟨_, hit, rfl⟩
  unfold pyNext
  refine wpAny_bind (wpAny_attempt (wpAny_callSpecial?_slot (name := Str.ofString "__next__") hT BA.slot_next (wpAny_call_entry BA.slot_next hT BA.entry_next ?_ (BA.args_next _))))
  unfold Builtin.«bytearray_iterator.__next__»
  refine wpAny_bind (wpAny_of_eq (a := (Value.ref it, ([] : List Value))) rfl ?_)
  refine wpAny_bind (wpAny_field hit rfl (x := .ref a) rfl ?_)
  refine wpAny_bind (wpAny_load hl ?_)
  refine wpAny_bind (wpAny_field hit rfl (x := .int i 0) rfl ?_)
  have e : l.toArray[i.toNat]? = none := by rw [hi]; simpa using hx
  show wpAny _ _ (match l.toArray[i.toNat]? with | some c => _ | none => _) _ _ _
  rw [e]
  refine wpAny_bind (wpAny_rule (wpAny_bind (wpAny_setField hit rfl (by simp) ?_)))
  refine wpAny_bind (wpAny_letGo ?_)
  show wpAny _ _ (newExc (.type "StopIteration") [] >>= _) _ _ _
  refine wpAny_bind ?_
  simp only [newExc, newTuple]
  refine wpAny_bind (wpAny_newObj_type ?_ (by size_fits))
  refine wpAny_bind (m := firstArgMember _ _) (wpAny_of_eq (a := Value.none) (by first | rfl | (simp only [firstArgMember]; rfl)) ?_)
  refine wpAny_newObj_type ?_ (by size_fits)
  simp only [raiseNew]
  refine wpAny_bind (wpAny_handled ?_)
  rw [show A.in1.handled = none from hh]
  refine wpAny_bind (wpAny_pure (wpAny_throw ?_))
  refine wpAny_bind (wpAny_isInstance (T := "StopIteration") (b := true) ⟨_, Heap.get?_push_size _ rfl, rfl⟩ isSubtype_stop ?_)
  exact wpAny_pure (hQ _ (((Heap.SameBut.update ..).extBut.push _).push _))
end
/- RSBa6 -/
namespace BA
theorem slot_ii : Slot "bytearray_iterator" "__iter__" "bytearray_iterator.__iter__" :=
  .of (owner := "bytearray_iterator") (n := "__iter__") (by rw [typeLookup_type, builtinLookup_eq_fast]; kernel_rfl) (by decide +kernel) (by decide +kernel) (by decide +kernel)
    (by first | exact .inl (by decide +kernel) | exact .inr (by decide +kernel)) (by rw [isSubtype_type]; kernel_rfl)
theorem args_ii (a : Value) : argsOk "bytearray_iterator.__iter__" ⟨[a], []⟩ := by unfold argsOk; kernel_rfl
theorem entry_ii : entryFor table "bytearray_iterator.__iter__" = some Builtin.«dict_keyiterator.__iter__» := by rw [table_eq_tree]; kernel_rfl
end BA
theorem ints_of_get : ∀ {vs : List Value} {ns : List Int}, vs.length = ns.length → (∀ (j : Nat) (v : Value), vs[j]? = some v → ∃ n t, ns[j]? = some n ∧ v = .int n t) → IntsAre vs ns
  | [], [], _, _ => .nil
  | [], _ :: _, h, _ => by simp at h
  | _ :: _, [], h, _ => by simp at h
  | v :: vs, n :: ns, h, k => by
    obtain ⟨n', t, e1, e2⟩ := k 0 v rfl
    simp only [List.getElem?_cons_zero, Option.some.injEq] at e1
    subst e1 e2
    exact .cons _ _ (ints_of_get (by simpa using h) fun j v hj => by simpa using k (j + 1) v (by simpa using hj))
section
variable {prog : Program} {w : World} {A : Around} {E : Value → Shared → Prop} {s : Shared}
theorem pyIter_baIter {it a : Addr} {i : Int} {Q : Value → Shared → Prop} (hit : s.heap.get? it = some (baIter a i)) (h : Q (.ref it) s) : wpAny (model prog w) A (pyIter (.ref it)) Q E s := by
  have hT : s.TypeIs (.ref it) "bytearray_iterator" := ⟨_, hit, rfl⟩
  refine wpAny_pyIter_slot hT BA.slot_ii (wpAny_call_entry BA.slot_ii hT BA.entry_ii ?_ (BA.args_ii _))
  show wpAny _ _ (ret (.ref it)) _ _ s
  exact wpAny_pure ⟨_, rfl, "bytearray_iterator", _, hT, BA.slot_next.lookup, h⟩

theorem walks_ba (hh : A.handled = none) (I a : Addr) (hne : a ≠ I) (l : List UInt8) :
    Walks prog w A I [I, a] [I] l.length (fun i v => ∃ c t, l[i]? = some c ∧ v = .int (iu c) t) (fun i h => h.get? I = some (baIter a i) ∧ h.get? a = some (baOf l)) where
  sub := fun b hb => by simp at hb; simp [hb]
  frame := fun _ _ _ st hk => ⟨hk I (by simp) _ st.1, hk a (by simp) _ st.2⟩
  item := fun i s Q E hi st hQ => by
    refine pyNext_ba_item st.1 st.2 (k := i) (by simp) (c := l[i]) (by simp [hi]) fun h' h1 hs => ?_
    refine hQ _ h' _ ⟨l[i], _, by simp [hi], rfl⟩ ⟨?_, (hs.2 a hne).trans st.2⟩ fun b o hb e => (hs.2 b (fun h => hb (by simp [h]))).trans e
    have : ((i + 1 : Nat) : Int) = (i : Int) + 1 := by push_cast; rfl
    rw [this]; exact h1
  done := fun s Q E st hQ => pyNext_ba_end hh st.1 st.2 (k := l.length) (by simp) (by simp) fun h' he' => hQ h' s.toks fun b o hb e => he' b o (fun h => hb (by simp [h])) e
  self := fun _ _ _ _ st hQ => pyIter_baIter st.1 hQ

theorem hint_ba {a : Addr} {l : List UInt8} {Q : Bool → Shared → Prop} (h : s.heap.get? a = some (baOf l)) (hq : Q false s) : wpAny (model prog w) A (Builtin.List.listLengthHint (.ref a)) Q E s := by
  unfold Builtin.List.listLengthHint
  refine wpAny_bind (wpAny_specialOf (ba_typeIs h) BA.slot_len.lookup ?_)
  generalize hid : ("bytearray.__len__" : String) = id0
  wp_delta
  rw [show splitId id0 = some ("bytearray", "__len__") from by subst hid; decide +kernel]
  subst hid
  refine wpAny_bind (wpAny_isInstance (ba_typeIs h) BA.sub ?_)
  refine wpAny_ite_split (fun hab => absurd hab (by decide)) (fun _ => ?_)
  refine wpAny_ite_split (fun _ => ?_) (fun hab => absurd (by decide +kernel) hab)
  exact wpAny_bind (wpAny_typeOf (ba_typeIs h) (wpAny_pure hq))

/-- list(b) of a bytearray -/
theorem list_ba {a : Addr} {l : List UInt8} {Q : Value → Shared → Prop} (hh : A.handled = none) (h : s.heap.get? a = some (baOf l)) (hz : l.length ≤ sizeLine)
    (hQ : ∀ h' tk vs c, s.heap.StaysIn h' → h'.get? s.heap.objs.size = some { cls := .type "list", data := .seq vs.toArray c } → IntsAre vs (l.map iu) → Q (.ref s.heap.objs.size) { s with heap := h', toks := tk }) :
    wpAny (model prog w) A (call (.type "list") [.ref a]) Q E s := by
  refine callType_codes (Q₁ := fun obj s₁ => obj = .ref s.heap.objs.size ∧ s₁ = { s with heap := s.heap.push { cls := .type "list", data := .seq #[] } }) F.called_list (F.typeCall_list_1 _) F.entry_list_init
    (code_list_new _ ⟨rfl, rfl⟩) fun obj s₁ h₁ => ?_
  obtain ⟨rfl, rfl⟩ := h₁
  have hS : (s.heap.push { cls := .type "list", data := .seq #[] }).get? s.heap.objs.size = some { cls := .type "list", data := .seq #[] } := Heap.get?_push_size _ rfl
  have hlt : a < s.heap.objs.size := Heap.lt_size h
  have hSa : s.heap.objs.size ≠ a := Nat.ne_of_gt hlt
  refine ⟨⟨_, hS, rfl⟩, F.args_list_init_2 _ _, ?_⟩
  generalize hSS : s.heap.objs.size = S at *
  show wpAny _ _ (do let old ← Builtin.List.listItems (.ref S); Builtin.List.listUpdate (.ref S) (fun _ => #[]); letGo old.toList.reverse; Builtin.List.listExtendWith (.ref S) (.ref a) .none) _ _ _
  refine wpAny_bind ?_
  unfold Builtin.List.listItems
  refine wpAny_bind (wpAny_seqItems hS rfl (wpAny_pure ?_))
  show wpAny _ _ (updateSeq S (fun _ => #[]) >>= fun _ => letGo (#[] : Array Value).toList.reverse >>= fun _ => Builtin.List.listExtendWith (.ref S) (.ref a) .none) _ _ _
  refine wpAny_bind (wpAny_updateSeq hS rfl ?_)
  have hS₂ := Heap.get?_update_self (Obj.mapSeq (fun _ => (#[] : Array Value))) hS rfl
  refine wpAny_bind (wpAny_letGo ?_)
  generalize hH : (s.heap.push { cls := .type "list", data := .seq #[] }).update S (Obj.mapSeq fun _ => #[]) = H at *
  have old : ∀ b o, s.heap.get? b = some o → H.get? b = some o := fun b o e => by
    rw [← hH]
    have hb : b ≠ S := by rw [← hSS]; exact Nat.ne_of_lt (Heap.lt_size e)
    exact (Heap.get?_update_other _ _ (Ne.symm hb)).trans (Heap.get?_push_of_some _ e)
  have ha := old _ _ h
  unfold Builtin.List.listExtendWith
  refine wpAny_bind (wpAny_typeOf (T := "bytearray") ⟨_, ha, rfl⟩ ?_)
  have h1 : Builtin.List.listSameRef (.ref S) (.ref a) = false := by simp [Builtin.List.listSameRef, hSa]
  have h2 : (Value.type "bytearray" == Value.type "list") = false := by decide
  have h3 : (Value.type "bytearray" == Value.type "tuple") = false := by decide
  simp only [h1, h2, h3, Bool.or_false, Bool.false_eq_true, if_false]
  refine wpAny_bind (pyIter_ba ha ?_)
  have ha' := Heap.get?_push_of_some (baIter a 0) ha
  refine wpAny_bind (wpAny_holding (hint_ba ha' ?_))
  refine wpAny_ite_split (fun hab => absurd hab (by decide +kernel)) (fun _ => ?_)
  have hSlt : S < H.objs.size := Heap.lt_size hS₂
  have halt : a < H.objs.size := Heap.lt_size ha
  have W := (walks_ba (prog := prog) (w := w) (A := A.in1.in1) hh H.objs.size a (Nat.ne_of_lt halt) l).toS
  have hSf : S ∉ [H.objs.size, a] := fun hm => by
    rcases List.mem_cons.mp hm with e | hm
    · exact absurd hSlt (by rw [e]; exact Nat.lt_irrefl _)
    · exact hSa (List.mem_singleton.mp hm)
  refine wpAny_pure ⟨plainId_quiet F.plain_extend_loop _, codeAny_extend_loopS W hz S hSf .none l.length 0 _ #[] _ rfl (Nat.zero_le _) ⟨Heap.get?_push_size _ rfl, ha'⟩ (Heap.get?_push_of_some _ hS₂) (ItemsOf.nil _) fun s' acc' c' hm hS' hacc => ?_⟩
  rw [Moved.eq_with hm]
  refine ⟨rfl, hQ s'.heap s'.toks acc'.toList c' (fun b o e => hm.heap b o (fun hmem => ?_) (Heap.get?_push_of_some _ (old b o e))) (by rw [Array.toArray_toList]; exact hS') ?_⟩
  · have hb : b < S := by rw [← hSS]; exact Heap.lt_size e
    rcases List.mem_cons.mp hmem with e' | hmem
    · rw [e'] at hb; exact Nat.lt_irrefl _ hb
    · rw [List.mem_singleton.mp hmem] at hb; exact Nat.lt_irrefl _ (Nat.lt_trans hb hSlt)
  · refine ints_of_get (by rw [Array.length_toList, hacc.1]; simp) fun j v hj => ?_
    obtain ⟨c, t, e1, e2⟩ := hacc.2 j v (by simpa using hj)
    exact ⟨iu c, t, by simp [e1], e2⟩

theorem slice_no_index' : typeLookup (.type "slice") "__index__" = pure none := slice_no_index
theorem sliceParts_ba {sl : Addr} {lo hi : Int} {t u : Tok} {Q : Value × Value × Value → Shared → Prop} (h : s.heap.get? sl = some { cls := .type "slice", data := .fields #[.int lo t, .int hi u, .none] })
    (hq : Q (rawInt lo, rawInt hi, .none) s) : wpAny (model prog w) A (Builtin.Bytes.sliceParts (.ref sl)) Q E s := by
  unfold Builtin.Bytes.sliceParts
  refine wpAny_bind (wpAny_field h rfl (x := .none) rfl ?_)
  refine wpAny_bind (wpAny_pure ?_)
  refine wpAny_ite_false rfl ?_
  refine wpAny_bind (wpAny_field h rfl (x := .int lo t) rfl ?_)
  refine wpAny_bind ?_
  refine wpAny_ite_false rfl ?_
  refine wpAny_bind (wpAny_specialOf (typeIs_int _ _ _) F.slot_int_index.lookup ?_)
  refine wpAny_ite_false rfl ?_
  refine wpAny_bind (wpAny_of_eq (rfl : asIndex (.int lo t) = pure lo) (wpAny_pure ?_))
  refine wpAny_bind (wpAny_field h rfl (x := .int hi u) rfl ?_)
  refine wpAny_bind ?_
  refine wpAny_ite_false rfl ?_
  refine wpAny_bind (wpAny_specialOf (typeIs_int _ _ _) F.slot_int_index.lookup ?_)
  refine wpAny_ite_false rfl ?_
  exact wpAny_bind (wpAny_of_eq (rfl : asIndex (.int hi u) = pure hi) (wpAny_pure (wpAny_pure hq)))

/-- r[lo:hi] = p, the piece as long as the place, the place's end the bytearray's end -/
theorem ba_setSlice {a b sl : Addr} {l k : List UInt8} {lo hi : Int} {t u : Tok} {j : Nat} {Q : Unit → Shared → Prop} (ha : s.heap.get? a = some (baOf l)) (hb : s.heap.get? b = some (baOf k)) (hab : a ≠ b)
    (hsl : s.heap.get? sl = some { cls := .type "slice", data := .fields #[.int lo t, .int hi u, .none] }) (hlo : lo = (j : Int)) (hhi : hi = (l.length : Int)) (hj : j + k.length = l.length) (hz : l.length ≤ sizeLine)
    (hq : ∀ h', h'.get? a = some (baOf (l.take j ++ k)) → Heap.SameBut a s.heap h' → Q () { s with heap := h' }) :
    wpAny (model prog w) A (setItem (.ref a) (.ref sl) (.ref b)) Q E s := by
  unfold setItem
  try with_reducible refine wpAny_holding ?_
  refine wpAny_bind (wpAny_sequenceKey (ba_typeIs ha) (by decide) ?_)
  refine wpAny_bind (wpAny_callSpecial?_slot (ba_typeIs ha) BA.slot_setitem (call_meets (S := fun _ R s => s.heap.get? a = some (baOf l) ∧ s.heap.get? b = some (baOf k) ∧ s.heap.get? sl = some { cls := .type "slice", data := .fields #[.int lo t, .int hi u, .none] } ∧
      ∀ h', h'.get? a = some (baOf (l.take j ++ k)) → Heap.SameBut a s.heap h' → R (.ok (.ret .none)) { s with heap := h' })
    BA.slot_setitem (ba_typeIs ha) BA.entry_setitem (BA.args_setitem _ _ _) ?_ ⟨ha, hb, hsl, fun h' h1 h2 => wpAny_pure (hq h' h1 h2)⟩))
  refine .of_wp fun prog w A R s h => ?_
  obtain ⟨ha, hb, hsl, h⟩ := h
  have hTs : s.TypeIs (.ref sl) "slice" := ⟨_, hsl, rfl⟩
  unfold Builtin.«bytearray.__setitem__»
  refine wpAny_ite_false rfl ?_
  refine wpAny_bind ?_
  unfold Builtin.Bytes.subscript?
  refine wpAny_bind (wpAny_specialOf hTs slice_no_index ?_)
  refine wpAny_ite_true rfl ?_
  refine wpAny_pure ?_
  refine wpAny_bind (wpAny_typeOf hTs ?_)
  refine wpAny_ite_false (by decide) ?_
  refine wpAny_bind (sliceParts_ba hsl ?_)
  have hsr : Builtin.Bytes.sameRef (.ref a) (.ref b) = false := by simp [Builtin.Bytes.sameRef, hab]
  dsimp only
  rw [hsr]
  refine wpAny_bind (wpAny_isInstance (ba_typeIs hb) BA.sub ?_)
  refine wpAny_ite_false rfl ?_
  refine wpAny_bind ?_
  unfold Builtin.Bytes.payload Builtin.Bytes.payload?
  refine wpAny_bind (wpAny_bind (wpAny_load hb (wpAny_pure (wpAny_pure ?_))))
  refine wpAny_bind (wpAny_bind (wpAny_bind (wpAny_load ha (wpAny_pure (wpAny_pure ?_)))))
  have hsi := sliceIndices_raw (some lo) (some hi) none l.toArray.size (by simp)
  have hsb : sliceBounds (some lo) (some hi) none l.toArray.size = (lo, hi, 1) := by
    simp [sliceBounds]; lia
  rw [hsb] at hsi
  refine wpAny_bind (wpAny_of_eq hsi ?_)
  refine wpAny_ite_true (c := ((1 : Int) == 1) = true) rfl ?_
  refine wpAny_bind (wpAny_rule ?_)
  have hmx : max lo hi = hi := by lia
  have hsz : (((k.toArray.size : Nat) : Int) != max lo hi - lo) = false := by rw [hmx]; simp; lia
  dsimp only
  rw [hsz]
  refine wpAny_ite_false rfl ?_
  have e0 : (l.toArray.extract 0 lo.toNat ++ k.toArray ++ l.toArray.extract (max lo hi).toNat l.toArray.size) = (l.take j ++ k).toArray := by
    have e1 : lo.toNat = j := by lia
    have e2 : (max lo hi).toNat = l.length := by lia
    rw [e1, e2]; simp
  refine wpAny_bind (wpAny_write ha (by rw [e0]; simp; lia) (wpAny_pure ⟨_, rfl, h _ ?_ (Heap.SameBut.update ..)⟩))
  have := Heap.get?_update_self (Obj.mapBytearray fun b => b.extract 0 lo.toNat ++ k.toArray ++ b.extract (max lo hi).toNat b.size) ha rfl
  rw [this]
  show some ({ cls := Value.type "bytearray", data := Data.bytearray (l.toArray.extract 0 lo.toNat ++ k.toArray ++ l.toArray.extract (max lo hi).toNat l.toArray.size) } : Obj) = _
  rw [e0]
end
/- RSW1 -/

/-- the ledger: what the call has made, each address once -/
structure Led (h₀ : Heap) (L : Addr) (h : Heap) (news : List (Addr × Obj)) : Prop where
  n : News h₀ L h news
  nd : (news.map (·.1)).Nodup
theorem Led.nil {h₀ h : Heap} {L : Addr} : Led h₀ L h [] := ⟨News.nil, List.nodup_nil⟩
theorem Led.stays {h₀ h h' : Heap} {L : Addr} {news : List (Addr × Obj)} (N : Led h₀ L h news) (k : h.StaysIn h') : Led h₀ L h' news := ⟨News.stays N.n k, N.nd⟩
theorem Led.set {h₀ h h' : Heap} {L : Addr} {news : List (Addr × Obj)} (N : Led h₀ L h news) (hs : Heap.SameBut L h h') : Led h₀ L h' news := ⟨N.n.set hs, N.nd⟩
theorem Led.get {h₀ h : Heap} {L a : Addr} {o : Obj} {news : List (Addr × Obj)} (N : Led h₀ L h news) (hm : (a, o) ∈ news) : h.get? a = some o := (N.n _ hm).1
theorem Led.fresh {h₀ h : Heap} {L a : Addr} {o : Obj} {news : List (Addr × Obj)} (N : Led h₀ L h news) (hm : (a, o) ∈ news) : h₀.get? a = none := (N.n _ hm).2.2
theorem Led.sub {h₀ h : Heap} {L : Addr} {news news' : List (Addr × Obj)} (N : Led h₀ L h news) (hs : ∀ p ∈ news', p ∈ news) (hn : (news'.map (·.1)).Nodup) : Led h₀ L h news' := ⟨fun p hp => N.n p (hs p hp), hn⟩
theorem Led.tail {h₀ h : Heap} {L : Addr} {p : Addr × Obj} {news : List (Addr × Obj)} (N : Led h₀ L h (p :: news)) : Led h₀ L h news := N.sub (fun _ hp => List.mem_cons_of_mem _ hp) (List.nodup_cons.mp N.nd).2
theorem Led.drop2 {h₀ h : Heap} {L : Addr} {p q : Addr × Obj} {news : List (Addr × Obj)} (N : Led h₀ L h (p :: q :: news)) : Led h₀ L h (p :: news) := by
  obtain ⟨h1, h2⟩ := List.nodup_cons.mp N.nd
  refine N.sub (fun x hx => ?_) (List.nodup_cons.mpr ⟨fun hm => h1 (List.mem_cons_of_mem _ hm), (List.nodup_cons.mp h2).2⟩)
  rcases List.mem_cons.mp hx with rfl | hx
  · exact .head _
  · exact .tail _ (.tail _ hx)
/-- a new object on the heap -/
theorem Led.new {h₀ h h' : Heap} {L a : Addr} {o : Obj} {m : Str → Option Value} {news : List (Addr × Obj)} (F : Fr h₀ L h m) (N : Led h₀ L h news) (k : h.StaysIn h') (ha : h.get? a = none) (hlo : h₀.objs.size ≤ a) (e : h'.get? a = some o) : Led h₀ L h' ((a, o) :: news) := by
  have hno : ∀ p ∈ news, p.1 ≠ a := fun p hp q => by have := (N.n p hp).1; rw [q, ha] at this; cases this
  refine ⟨fun p hp => ?_, List.nodup_cons.mpr ⟨fun hm => ?_, N.nd⟩⟩
  · rcases List.mem_cons.mp hp with rfl | hp
    · refine ⟨e, ?_, ?_⟩
      · intro q
        obtain ⟨oL, _, _, hL, _⟩ := F.ns
        dsimp only at q
        rw [q, hL] at ha; cases ha
      · cases q : h₀.get? a with
        | none => rfl
        | some o' => exact absurd (Heap.lt_size q) (Nat.not_lt.mpr hlo)
    · exact ⟨k _ _ (N.n p hp).1, (N.n p hp).2⟩
  · obtain ⟨p, hp, e⟩ := List.mem_map.mp hm
    exact hno p hp e
theorem Led.new' {h₀ h h' : Heap} {L a : Addr} {o : Obj} {m : Str → Option Value} {news : List (Addr × Obj)} (F : Fr h₀ L h m) (N : Led h₀ L h news) (k : h.StaysIn h') (ha : h.get? a = none) (e : h'.get? a = some o) : Led h₀ L h' ((a, o) :: news) := by
  have hno : ∀ p ∈ news, p.1 ≠ a := fun p hp q => by have := (N.n p hp).1; rw [q, ha] at this; cases this
  refine ⟨fun p hp => ?_, List.nodup_cons.mpr ⟨fun hm => ?_, N.nd⟩⟩
  · rcases List.mem_cons.mp hp with rfl | hp
    · refine ⟨e, ?_, ?_⟩
      · intro q
        obtain ⟨oL, _, _, hL, _⟩ := F.ns
        dsimp only at q
        rw [q, hL] at ha; cases ha
      · cases q : h₀.get? a with
        | none => rfl
        | some o' => have := F.keep _ _ q; rw [ha] at this; cases this
    · exact ⟨k _ _ (N.n p hp).1, (N.n p hp).2⟩
  · obtain ⟨p, hp, e⟩ := List.mem_map.mp hm
    exact hno p hp e
theorem size_le {h₀ h : Heap} {L : Addr} {m : Str → Option Value} (F : Fr h₀ L h m) : h₀.objs.size ≤ h.objs.size := Nat.le_trans F.above (Nat.le_of_lt F.ns.lt)
theorem get_size_none (h : Heap) : h.get? h.objs.size = none := by
  cases q : h.get? h.objs.size with
  | none => rfl
  | some o => exact absurd (Heap.lt_size q) (Nat.lt_irrefl _)
theorem stays_push (h : Heap) (o : Obj) : h.StaysIn (h.push o) := fun _ _ e => Heap.get?_push_of_some _ e
theorem Led.push {h₀ h : Heap} {L : Addr} {m : Str → Option Value} {news : List (Addr × Obj)} (F : Fr h₀ L h m) (N : Led h₀ L h news) (o : Obj) (hfree : o.isFreed = false := by rfl) : Led h₀ L (h.push o) ((h.objs.size, o) :: news) :=
  Led.new F N (stays_push h o) (get_size_none h) (size_le F) (Heap.get?_push_size _ hfree)

/-- one object of the ledger changed -/
inductive Upd1 (d : Addr) (o o' : Obj) : List (Addr × Obj) → List (Addr × Obj) → Prop
  | head {r} : Upd1 d o o' ((d, o) :: r) ((d, o') :: r)
  | tail {p r r'} : Upd1 d o o' r r' → Upd1 d o o' (p :: r) (p :: r')
theorem Upd1.mem {d : Addr} {o o' : Obj} {l l' : List (Addr × Obj)} (u : Upd1 d o o' l l') : (d, o) ∈ l := by
  induction u with
  | head => exact .head _
  | tail _ ih => exact .tail _ ih
theorem Upd1.addr {d : Addr} {o o' : Obj} {l l' : List (Addr × Obj)} (u : Upd1 d o o' l l') : l'.map (·.1) = l.map (·.1) := by
  induction u with
  | head => rfl
  | tail _ ih => simp only [List.map_cons, ih]
theorem Upd1.from {d : Addr} {o o' : Obj} {l l' : List (Addr × Obj)} (u : Upd1 d o o' l l') (nd : (l.map (·.1)).Nodup) : ∀ p ∈ l', p = (d, o') ∨ (p ∈ l ∧ p.1 ≠ d) := by
  induction u with
  | @head r =>
    obtain ⟨h1, h2⟩ := List.nodup_cons.mp nd
    intro p hp
    rcases List.mem_cons.mp hp with rfl | hp
    · exact .inl rfl
    · exact .inr ⟨.tail _ hp, fun e => h1 (List.mem_map.mpr ⟨p, hp, e⟩)⟩
  | @tail q r r' u ih =>
    obtain ⟨h1, h2⟩ := List.nodup_cons.mp nd
    intro p hp
    rcases List.mem_cons.mp hp with rfl | hp
    · exact .inr ⟨.head _, fun e => h1 (List.mem_map.mpr ⟨(d, o), u.mem, e.symm⟩)⟩
    · exact (ih h2 p hp).imp id fun z => ⟨.tail _ z.1, z.2⟩
theorem Led.upd {h₀ h h' : Heap} {L d : Addr} {o o' : Obj} {m : Str → Option Value} {news news' : List (Addr × Obj)} (F : Fr h₀ L h m) (N : Led h₀ L h news) (u : Upd1 d o o' news news') (e : h'.get? d = some o') (hs : Heap.SameBut d h h') :
    Fr h₀ L h' m ∧ Led h₀ L h' news' := by
  have D := N.n _ u.mem
  refine ⟨⟨F.ns.sameBut hs (Ne.symm D.2.1), fun b x q => (hs.2 b fun z => ?_).trans (F.keep b x q), F.above⟩, fun p hp => ?_, by rw [u.addr]; exact N.nd⟩
  · have := D.2.2; rw [← z, q] at this; cases this
  · rcases u.from N.nd p hp with rfl | ⟨hp, hne⟩
    · exact ⟨e, D.2⟩
    · have P := N.n p hp; exact ⟨(hs.2 p.1 hne).trans P.1, P.2⟩

section
variable {M : Model} {A : Around} {E : Value → Shared → Prop} {s : Shared} {h₀ : Heap} {m mg : Str → Option Value} {x : Str} {pos : Pos} {Q : Value → Shared → Prop} {news : List (Addr × Obj)} {env : Env} {v : Value} {c : Addr}
theorem nmL (F : Fr h₀ env.locals s.heap m) (hl : (env.scope.names.lookup x == some NameKind.local) = true) (hk : (env.scope.kind == .function) = true) (hd : (x == ("__debug__" : Str)) = false) (hv : m x = some v) (h : Q v s) :
    wpAny M A (eval (.Name x pos) env) Q E s := wpAny_Name (wpAny_loadName_local (eq_of_beq hk) (eq_of_beq hl) F.ns hv h) hd
theorem nmG (F : Fr h₀ env.locals s.heap m) (G : Glo mg h₀) (hg : env.globals = mainGlobals) (hl : (env.scope.names.lookup x == some NameKind.globalImplicit) = true) (hk : (env.scope.kind == .function) = true) (hd : (x == ("__debug__" : Str)) = false)
    (hv : mg x = some v) (h : Q v s) : wpAny M A (eval (.Name x pos) env) Q E s :=
  Calls.Name_function_global (eq_of_beq hk) (eq_of_beq hl) (Calls.loadGlobal_global (env := env) (by rw [hg]; exact G.g.keeps F.keep) hv h) hd
theorem nmB (F : Fr h₀ env.locals s.heap m) (G : Glo mg h₀) (hg : env.globals = mainGlobals) (hb : env.builtins = builtinsNs) (hl : (env.scope.names.lookup x == some NameKind.globalImplicit) = true) (hk : (env.scope.kind == .function) = true) (hd : (x == ("__debug__" : Str)) = false)
    (hn : (x == ("__name__" : Str)) = false) (hv : bootBuiltins x = some v) (hmiss : mg x = none) (h : Q v s) : wpAny M A (eval (.Name x pos) env) Q E s :=
  let ⟨_, hB, q⟩ := G.b
  Calls.Name_function_global (eq_of_beq hk) (eq_of_beq hl) (Calls.loadGlobal_builtin (env := env) (by rw [hg]; exact G.g.keeps F.keep) hmiss (by rw [hb]; exact hB.keeps F.keep) ((q x (ne_of_beq_false hn)).trans hv) h) hd
theorem nmC (hc : env.cells.lookup x = some c) (hcell : s.heap.IsCell c (some v)) (hl : (env.scope.names.lookup x == some NameKind.cell) = true) (hk : (env.scope.kind == .function) = true) (hd : (x == ("__debug__" : Str)) = false) (h : Q v s) :
    wpAny M A (eval (.Name x pos) env) Q E s := wpAny_Name (wpAny_loadName_cell (eq_of_beq hk) (eq_of_beq hl) hc hcell h) hd
theorem stL {Q : Unit → Shared → Prop} (F : Fr h₀ env.locals s.heap m) (N : Led h₀ env.locals s.heap news) (hl : (env.scope.names.lookup x == some NameKind.local) = true) (hk : (env.scope.kind == .function) = true)
    (h : ∀ h', Fr h₀ env.locals h' (fun y => if y = x then some v else m y) → Led h₀ env.locals h' news → Q () { s with heap := h', toks := s.toks + 1 }) :
    wpAny M A (storeName env x v) Q E s :=
  wpAny_storeName_local (eq_of_beq hl) F.ns (fun h' hn hs => h h' (F.set hn hs) (N.set hs)) (by rw [eq_of_beq hk]; rfl)
noncomputable abbrev cellObj (v : Value) : Obj := { cls := .type "cell", data := .cell (some v) }
theorem stC {Q : Unit → Shared → Prop} {o : Obj} {w₀ : Option Value} {news' : Obj → List (Addr × Obj)} (F : Fr h₀ env.locals s.heap m) (N : Led h₀ env.locals s.heap news) (hc : env.cells.lookup x = some c) (hd : o.data = .cell w₀)
    (u : ∀ o', Upd1 c o o' news (news' o')) (hl : (env.scope.names.lookup x == some NameKind.cell) = true) (hk : (env.scope.kind == .function) = true)
    (h : ∀ h' o', o'.data = .cell (some v) → Fr h₀ env.locals h' m → Led h₀ env.locals h' (news' o') → Q () { s with heap := h' }) :
    wpAny M A (storeName env x v) Q E s :=
  wpAny_storeName_cell (eq_of_beq hk) (eq_of_beq hl) hc ⟨o, N.get (u o).mem, hd⟩ fun h' hv hs =>
    let ⟨o', e, d'⟩ := hv
    let ⟨F', N'⟩ := Led.upd F N (u o') e hs
    h h' o' d' F' N'
end
section
variable {prog : Program} {w : World} {A : Around} {E : Value → Shared → Prop} {s : Shared} {a : Addr} {l : List UInt8}
/-- an item of a bytearray by a plain index -/
theorem subBa {value slice : Expr} {Q : Value → Shared → Prop} {i : Int} {u : Tok} {j : Nat} {c : UInt8} (h : s.heap.get? a = some (baOf l)) (hfit : Builtin.Bytes.fitsIndex i = true) (hj : seqIndex? i l.length = some j) (hc : l[j]? = some c)
    (hs : subscripted slice false (.ref a) (.int i u) = operate [.ref a, .int i u] (getItem (.ref a) (.int i u)))
    (hq : Q (.int (iu c) s.toks) { s with toks := s.toks + 1 }) : wpAny (model prog w) A (subscriptTail value slice (.ref a) (.int i u)) Q E s :=
  tail_any (ba_typeIs h) BA.slot_getitem.lookup (ba_getItem h hfit (j := j) hj hc hq) hs
end
theorem fits_small {i : Int} (h0 : -1000000 ≤ i) (h1 : i ≤ 1000000) : Builtin.Bytes.fitsIndex i = true := by
  simp only [Builtin.Bytes.fitsIndex, Bool.and_eq_true, decide_eq_true_eq]; lia
theorem seqIdx {i : Int} {n j : Nat} (h : i = (j : Int)) (hj : j < n) : seqIndex? i n = some j := by
  subst h
  have h1 : ¬ ((j : Int) < 0) := by lia
  have h2 : ((j : Int) < (n : Int)) := by lia
  simp [seqIndex?, h1, h2]
theorem seqIdxNeg {i : Int} {n j : Nat} (h : i = (j : Int) - (n : Int)) (hj : j < n) : seqIndex? i n = some j := by
  subst h
  have h1 : ((j : Int) - (n : Int)) < 0 := by lia
  have h2 : ((j : Int) - (n : Int) + (n : Int)) = (j : Int) := by lia
  have h3 : ((j : Int) < (n : Int)) := by lia
  simp [seqIndex?, h1, h2, h3]
/- RSM1 -/
theorem bb_len : bootBuiltins "len" = some (.builtin "len") := by decide +kernel
theorem bb_max : bootBuiltins "max" = some (.builtin "max") := by decide +kernel
theorem bb_list : bootBuiltins "list" = some (.type "list") := by decide +kernel
theorem bb_range : bootBuiltins "range" = some (.type "range") := by decide +kernel
theorem bb_zip : bootBuiltins "zip" = some (.type "zip") := by decide +kernel
theorem bb_enumerate : bootBuiltins "enumerate" = some (.type "enumerate") := by decide +kernel
theorem bb_int : bootBuiltins "int" = some (.type "int") := by decide +kernel
/-! the field's tables, in plain Lean -/
noncomputable def mul2 (u : UInt8) : UInt8 := (u <<< 1) ^^^ (if u < 128 then 0 else 29)
noncomputable def alog : Nat → UInt8
  | 0 => 1
  | n + 1 => mul2 (alog n)
noncomputable def expL : List UInt8 := (List.range 510).map alog
/-- the logarithms' table -/
noncomputable def logTab : List UInt8 := [0, 0, 1, 25, 2, 50, 26, 198, 3, 223, 51, 238, 27, 104, 199, 75, 4, 100, 224, 14, 52, 141, 239, 129, 28, 193, 105, 248, 200, 8, 76, 113, 5, 138, 101, 47, 225, 36, 15, 33, 53, 147, 142, 218, 240, 18, 130, 69, 29, 181, 194, 125, 106, 39, 249, 185, 201, 154, 9, 120, 77, 228, 114, 166, 6, 191, 139, 98, 102, 221, 48, 253, 226, 152, 37, 179, 16, 145, 34, 136, 54, 208, 148, 206, 143, 150, 219, 189, 241, 210, 19, 92, 131, 56, 70, 64, 30, 66, 182, 163, 195, 72, 126, 110, 107, 58, 40, 84, 250, 133, 186, 61, 202, 94, 155, 159, 10, 21, 121, 43, 78, 212, 229, 172, 115, 243, 167, 87, 7, 112, 192, 247, 140, 128, 99, 13, 103, 74, 222, 237, 49, 197, 254, 24, 227, 165, 153, 119, 38, 184, 180, 124, 17, 68, 146, 217, 35, 32, 137, 46, 55, 63, 209, 91, 149, 188, 207, 205, 144, 135, 151, 178, 220, 252, 190, 97, 242, 86, 211, 171, 20, 42, 93, 158, 132, 60, 57, 83, 71, 109, 65, 162, 31, 45, 67, 216, 183, 123, 164, 118, 196, 23, 73, 236, 127, 12, 111, 246, 108, 161, 59, 82, 41, 157, 85, 170, 251, 96, 134, 177, 187, 204, 62, 90, 203, 89, 95, 176, 156, 169, 160, 81, 11, 245, 22, 235, 122, 117, 44, 215, 79, 174, 213, 233, 230, 231, 173, 232, 116, 214, 244, 234, 168, 80, 88, 175]
noncomputable def glog (u : UInt8) : UInt8 := logTab.getD u.toNat 0
noncomputable def gmul (a b : UInt8) : UInt8 := if a = 0 ∨ b = 0 then 0 else alog (((glog a).toNat + (glog b).toNat) % 255)

theorem logTab_len : logTab.length = 256 := by rfl
theorem logTab_get (u : UInt8) : logTab[u.toNat]? = some (glog u) := by
  have : u.toNat < logTab.length := by rw [logTab_len]; exact u.toNat_lt
  unfold glog
  rw [List.getD_eq_getElem?_getD, List.getElem?_eq_getElem this]; rfl
theorem expL_get {k : Nat} (h : k < 510) : expL[k]? = some (alog k) := by
  unfold expL
  rw [List.getElem?_map, List.getElem?_range h]; rfl
theorem expL_len : expL.length = 510 := by unfold expL; simp
theorem iu_lt (u : UInt8) : iu u < 256 := by have := u.toNat_lt; unfold iu; lia
theorem iu_nonneg (u : UInt8) : 0 ≤ iu u := by unfold iu; lia
theorem iu_eq0 (u : UInt8) : (iu u == 0) = decide (u = 0) := by
  have : (iu u = 0) ↔ u = 0 := by
    unfold iu
    constructor
    · intro h; apply UInt8.toNat_inj.mp; simpa using h
    · rintro rfl; rfl
  rw [Bool.eq_iff_iff]; simp [this]

/-- walks the powers and checks the logarithms along -/
noncomputable def chk : Nat → Nat → UInt8 → Bool
  | 0, _, _ => true
  | n + 1, i, x => (logTab.getD x.toNat 0).toNat == i && chk n (i + 1) (mul2 x)
theorem chk_ok : chk 255 0 1 = true := by decide +kernel
theorem chk_spec : ∀ (n i : Nat), chk n i (alog i) = true → ∀ j, j < n → (glog (alog (i + j))).toNat = i + j
  | 0, _, _, _, h => absurd h (Nat.not_lt_zero _)
  | n + 1, i, h, j, hj => by
    unfold chk at h
    obtain ⟨h1, h2⟩ := Bool.and_eq_true_iff.mp h
    cases j with
    | zero => exact beq_iff_eq.mp h1
    | succ j =>
      have := chk_spec n (i + 1) h2 j (Nat.lt_of_succ_lt_succ hj)
      rw [show i + (j + 1) = i + 1 + j by lia]; exact this
theorem glog_alog {i : Nat} (h : i < 255) : (glog (alog i)).toNat = i := by
  have := chk_spec 255 0 chk_ok i h
  simpa using this
noncomputable def step : Nat → UInt8 → UInt8
  | 0, x => x
  | n + 1, x => step n (mul2 x)
theorem step_alog : ∀ (n i : Nat), step n (alog i) = alog (i + n)
  | 0, _ => rfl
  | n + 1, i => by
    show step n (alog (i + 1)) = _
    rw [step_alog n (i + 1)]; congr 1; lia
theorem alog_255 : alog 255 = 1 := by
  have := step_alog 255 0
  rw [Nat.zero_add] at this
  rw [← this]; decide +kernel
theorem all_u8 {p : UInt8 → Bool} (h : (List.range 256).all (fun n => p n.toUInt8) = true) (u : UInt8) : p u = true := by
  have := List.all_eq_true.mp h u.toNat (List.mem_range.mpr u.toNat_lt)
  simpa using this
theorem mul2_ne {u : UInt8} (h : u ≠ 0) : mul2 u ≠ 0 := by
  have := all_u8 (p := fun u => u == 0 || mul2 u != 0) (by decide +kernel) u
  simpa [h] using this
/-- every octet but nought is the power of its logarithm -/
theorem alog_glog {u : UInt8} (h : u ≠ 0) : alog (glog u).toNat = u := by
  have := all_u8 (p := fun u => u == 0 || step (glog u).toNat 1 == u) (by decide +kernel) u
  have e := step_alog (glog u).toNat 0
  rw [Nat.zero_add] at e
  rw [← e]
  show step (glog u).toNat 1 = u
  simpa [h] using this
theorem glog_lt {u : UInt8} : (glog u).toNat < 255 := by
  have := all_u8 (p := fun u => decide ((glog u).toNat < 255)) (by decide +kernel) u
  simpa using this
theorem alog_ne : ∀ n, alog n ≠ 0
  | 0 => by decide
  | n + 1 => mul2_ne (alog_ne n)
theorem alog_per (n : Nat) : alog (n + 255) = alog n := by
  have : ∀ k, alog (255 + k) = alog k := fun k => by
    induction k with
    | zero => exact alog_255
    | succ k ih => show mul2 (alog (255 + k)) = mul2 (alog k); rw [ih]
  rw [Nat.add_comm]; exact this n
theorem alog_mod (n : Nat) : alog (n % 255) = alog n := by
  induction n using Nat.strongRecOn with
  | ind n ih =>
    by_cases h : n < 255
    · rw [Nat.mod_eq_of_lt h]
    · have e : n = (n - 255) + 255 := by lia
      rw [e, Nat.add_mod_right, ih (n - 255) (by lia), alog_per]
/- RSF1 -/
/- the walker's lines of my own -/
local macro_rules | `(tactic| walk_at "my_get") => `(tactic| first | assumption | exact Fr.keep (by assumption) _ _ (by assumption) | exact Led.get (by assumption) (by first | exact List.Mem.head _ | exact List.Mem.tail _ (List.Mem.head _) | exact List.Mem.tail _ (List.Mem.tail _ (List.Mem.head _)) | exact List.Mem.tail _ (List.Mem.tail _ (List.Mem.tail _ (List.Mem.head _))) | simp))
local macro_rules | `(tactic| walk_at "my_boot") => `(tactic| first | with_reducible exact bb_len | with_reducible exact bb_max | with_reducible exact bb_list | with_reducible exact bb_range | with_reducible exact bb_zip | with_reducible exact bb_enumerate | with_reducible exact bb_int)
local macro_rules | `(tactic| walk_at "my_cell") => `(tactic| first | assumption | (refine Heap.IsCell.keeps ?_ (Fr.keep (by assumption)); assumption) | exact ⟨_, Led.get (by assumption) (by repeat (first | exact List.Mem.head _ | refine List.Mem.tail _ ?_)), by assumption⟩)
local macro_rules | `(tactic| walk_at "eval Name") => `(tactic| (k_dflt first
      | refine nmL (by assumption) (by kernel_rfl!) (by kernel_rfl!) (by kernel_rfl!) (by rfl) ?_
      | refine nmG (by assumption) (by assumption) (by rfl) (by kernel_rfl!) (by kernel_rfl!) (by kernel_rfl!) (by assumption) ?_
      | refine nmB (by assumption) (by assumption) (by rfl) (by rfl) (by kernel_rfl!) (by kernel_rfl!) (by kernel_rfl!) (by kernel_rfl!) (by walk_at "my_boot") (by assumption) ?_
      | refine nmL (by assumption) (by kernel_rfl!) (by kernel_rfl!) (by kernel_rfl!) (by assumption) ?_
      | refine nmC (by rfl) (by walk_at "my_cell") (by kernel_rfl!) (by kernel_rfl!) (by kernel_rfl!) ?_))
local macro_rules | `(tactic| walk_at "storeName") => `(tactic| (k_dflt (refine stL (by assumption) (by assumption) (by kernel_rfl!) (by kernel_rfl!) ?_); intro h' F' N'; try dsimp only))
local macro_rules | `(tactic| walk_at "go") => `(tactic| repeat (first | ((with_reducible show wpAny _ _ _ _ _ _); walk1) | ((with_reducible show (if true = true then _ else _)); rw [if_pos rfl]) | ((with_reducible show (if false = true then _ else _)); rw [if_neg Bool.false_ne_true])))


structure Tabs (mg : Str → Option Value) (h : Heap) : Prop where
  exp : ∃ a, mg "gf_exp" = some (.ref a) ∧ h.get? a = some (baOf expL)
  log : ∃ a, mg "gf_log" = some (.ref a) ∧ h.get? a = some (baOf logTab)
  fc : ∃ t, mg "field_charac" = some (.int 255 t)
theorem Tabs.keeps {mg : Str → Option Value} {h h' : Heap} (T : Tabs mg h) (k : h.StaysIn h') : Tabs mg h' :=
  ⟨let ⟨a, e, q⟩ := T.exp; ⟨a, e, k _ _ q⟩, let ⟨a, e, q⟩ := T.log; ⟨a, e, k _ _ q⟩, T.fc⟩

noncomputable def ginv (x : UInt8) : UInt8 := alog (255 - (glog x).toNat)

theorem subBaN {w : World} {A : Around} {E : Value → Shared → Prop} {s : Shared} {a : Addr} {l : List UInt8} {value slice : Expr} {Q : Value → Shared → Prop} {i : Int} {u : Tok} (j : Nat) {c : UInt8} (h : s.heap.get? a = some (baOf l)) (hi : i = (j : Int)) (hb : l.length ≤ 1000000) (hc : l[j]? = some c)
    (hs : subscripted slice false (.ref a) (.int i u) = operate [.ref a, .int i u] (getItem (.ref a) (.int i u)))
    (hq : Q (.int (iu c) s.toks) { s with toks := s.toks + 1 }) : wpAny (model P w) A (subscriptTail value slice (.ref a) (.int i u)) Q E s := by
  obtain ⟨hj, _⟩ := List.getElem?_eq_some_iff.mp hc
  exact subBa h (fits_small (by lia) (by lia)) (seqIdx hi hj) hc hs hq

theorem gf_mul_spec {w : World} {A : Around} {E : Value → Shared → Prop} {s : Shared} {mg : Str → Option Value} {a : Addr} {x y : UInt8} {tx ty : Tok} {Q : Value → Shared → Prop}
    (hroom : A.depth < recursionLimit) (hf : FnAt s.heap 6 a .none) (G : Glo mg s.heap) (T : Tabs mg s.heap)
    (h : ∀ t h' tk, s.heap.StaysIn h' → Q (.int (iu (gmul x y)) t) { s with heap := h', toks := tk }) :
    wpAny (model P w) A (call (.ref a) [.int (iu x) tx, .int (iu y) ty]) Q E s := by
  refine enter (binds := [("x", .int (iu x) tx), ("y", .int (iu y) ty)]) hroom hf G.nolimit (fun pm cdv => BindsTo.of_eq rfl) (fun L cdv h₁ F => ?_) (hloc := locs (by rfl))
  obtain ⟨aE, mE, hE⟩ := T.exp
  obtain ⟨aL, mL, hL⟩ := T.log
  obtain ⟨t, mF⟩ := T.fc
  refine wpAny_execs_cons ?_
  walk_at "go"
  rw [iu_eq0]
  by_cases hx : x = 0
  · rw [if_pos (by simp [hx]), if_pos rfl]
    walk_at "go"
    have : gmul x y = 0 := by simp [gmul, hx]
    rw [this] at h
    exact h _ _ _ F.keep
  · rw [if_neg (by simp [hx])]
    walk_at "go"
    rw [iu_eq0]
    by_cases hy : y = 0
    · rw [if_pos (by simp [hy]), if_pos rfl]
      walk_at "go"
      have : gmul x y = 0 := by simp [gmul, hy]
      rw [this] at h
      exact h _ _ _ F.keep
    · rw [if_neg (by simp [hy])]
      walk_at "go"
      refine subBaN x.toNat (F.keep _ _ hL) rfl (by rw [logTab_len]; decide) (logTab_get x) (by with_unfolding_all rfl) ?_
      walk_at "go"
      refine subBaN y.toNat (F.keep _ _ hL) rfl (by rw [logTab_len]; decide) (logTab_get y) (by with_unfolding_all rfl) ?_
      walk_at "go"
      dsimp only
      have hlt : ((glog x).toNat + (glog y).toNat) % 255 < 510 := by lia
      refine subBaN (((glog x).toNat + (glog y).toNat) % 255) (F.keep _ _ hE) ?_ (by rw [expL_len]; decide) (expL_get hlt) (by with_unfolding_all rfl) ?_
      · unfold iu; rw [Int.fmod_eq_emod_of_nonneg _ (by decide)]; lia
      · have e : gmul x y = alog (((glog x).toNat + (glog y).toNat) % 255) := by simp [gmul, hx, hy]
        rw [e] at h
        exact h _ _ _ F.keep

theorem gf_inverse_spec {w : World} {A : Around} {E : Value → Shared → Prop} {s : Shared} {mg : Str → Option Value} {a : Addr} {x : UInt8} {tx : Tok} {Q : Value → Shared → Prop}
    (hroom : A.depth < recursionLimit) (hf : FnAt s.heap 5 a .none) (G : Glo mg s.heap) (T : Tabs mg s.heap)
    (h : ∀ t h' tk, s.heap.StaysIn h' → Q (.int (iu (ginv x)) t) { s with heap := h', toks := tk }) :
    wpAny (model P w) A (call (.ref a) [.int (iu x) tx]) Q E s := by
  refine enter (binds := [("x", .int (iu x) tx)]) hroom hf G.nolimit (fun pm cdv => BindsTo.of_eq rfl) (fun L cdv h₁ F => ?_) (hloc := locs (by rfl))
  obtain ⟨aE, mE, hE⟩ := T.exp
  obtain ⟨aL, mL, hL⟩ := T.log
  obtain ⟨t, mF⟩ := T.fc
  refine wpAny_execs_cons ?_
  walk_at "go"
  refine subBaN x.toNat (F.keep _ _ hL) rfl (by rw [logTab_len]; decide) (logTab_get x) (by with_unfolding_all rfl) ?_
  walk_at "go"
  dsimp only
  have hlt := @glog_lt x
  refine subBaN (255 - (glog x).toNat) (F.keep _ _ hE) ?_ (by rw [expL_len]; decide) (expL_get (by lia)) (by with_unfolding_all rfl) ?_
  · unfold iu; lia
  · exact h _ _ _ F.keep
/- RSM2 -/
/-! the field's laws -/
theorem mul2_xor (a b : UInt8) : mul2 (a ^^^ b) = mul2 a ^^^ mul2 b := by
  have key : ∀ a : UInt8, mul2 a = (a <<< 1) ^^^ (if a >>> 7 = 0 then 0 else 29) := fun a =>
    eq_of_beq (all_u8 (p := fun a => mul2 a == (a <<< 1) ^^^ (if a >>> 7 = 0 then 0 else 29)) (by decide +kernel) a)
  have h1 : ∀ a : UInt8, a >>> 7 = 0 ∨ a >>> 7 = 1 := fun a => by
    have := all_u8 (p := fun a => decide (a >>> 7 = 0 ∨ a >>> 7 = 1)) (by decide +kernel) a
    simpa using this
  rw [key, key, key, UInt8.shiftLeft_xor, UInt8.shiftRight_xor]
  have fin : ∀ x y t u : UInt8, (x ^^^ y) ^^^ (t ^^^ u) = (x ^^^ t) ^^^ (y ^^^ u) := fun x y t u => by
    rw [UInt8.xor_assoc, UInt8.xor_assoc, ← UInt8.xor_assoc y, ← UInt8.xor_assoc t, UInt8.xor_comm y t]
  rw [← fin]
  congr 1
  rcases h1 a with h | h <;> rcases h1 b with h' | h' <;> rw [h, h'] <;> rfl
theorem step_xor : ∀ (n : Nat) (a b : UInt8), step n (a ^^^ b) = step n a ^^^ step n b
  | 0, _, _ => rfl
  | n + 1, a, b => by
    show step n (mul2 (a ^^^ b)) = step n (mul2 a) ^^^ step n (mul2 b)
    rw [mul2_xor, step_xor n]
theorem step_zero : ∀ n, step n 0 = 0
  | 0 => rfl
  | n + 1 => by show step n (mul2 0) = 0; rw [show mul2 0 = 0 by decide, step_zero n]
theorem glog_alog' (n : Nat) : (glog (alog n)).toNat = n % 255 := by
  rw [← alog_mod n]; exact glog_alog (Nat.mod_lt _ (by decide))
theorem gmul_zero_left (b : UInt8) : gmul 0 b = 0 := by simp [gmul]
theorem gmul_zero_right (a : UInt8) : gmul a 0 = 0 := by simp [gmul]
theorem gmul_alog (a b : Nat) : gmul (alog a) (alog b) = alog (a + b) := by
  unfold gmul
  rw [if_neg (by simp [alog_ne]), glog_alog', glog_alog', alog_mod]
  rw [← alog_mod (a % 255 + b % 255), ← alog_mod (a + b)]
  congr 1; lia
theorem ex_alog {u : UInt8} (h : u ≠ 0) : ∃ k, u = alog k := ⟨_, (alog_glog h).symm⟩
theorem gmul_comm (a b : UInt8) : gmul a b = gmul b a := by
  unfold gmul
  rw [Nat.add_comm]
  by_cases h : a = 0 ∨ b = 0
  · rw [if_pos h, if_pos (Or.comm.mp h)]
  · rw [if_neg h, if_neg (fun x => h (Or.comm.mp x))]
theorem gmul_assoc (a b c : UInt8) : gmul (gmul a b) c = gmul a (gmul b c) := by
  by_cases ha : a = 0
  · subst ha; simp only [gmul_zero_left]
  by_cases hb : b = 0
  · subst hb; simp only [gmul_zero_left, gmul_zero_right]
  by_cases hc : c = 0
  · subst hc; simp only [gmul_zero_right]
  obtain ⟨i, rfl⟩ := ex_alog ha
  obtain ⟨j, rfl⟩ := ex_alog hb
  obtain ⟨k, rfl⟩ := ex_alog hc
  rw [gmul_alog, gmul_alog, gmul_alog, gmul_alog, Nat.add_assoc]
theorem gmul_step (i : Nat) (b : UInt8) : gmul (alog i) b = step i b := by
  by_cases hb : b = 0
  · subst hb; rw [gmul_zero_right, step_zero]
  obtain ⟨j, rfl⟩ := ex_alog hb
  rw [gmul_alog, step_alog, Nat.add_comm]
theorem gmul_xor (a b c : UInt8) : gmul a (b ^^^ c) = gmul a b ^^^ gmul a c := by
  by_cases ha : a = 0
  · subst ha; simp only [gmul_zero_left]; rfl
  obtain ⟨i, rfl⟩ := ex_alog ha
  simp only [gmul_step, step_xor]
theorem xor_gmul (a b c : UInt8) : gmul (a ^^^ b) c = gmul a c ^^^ gmul b c := by
  rw [gmul_comm, gmul_xor, gmul_comm c a, gmul_comm c b]
theorem gmul_one (b : UInt8) : gmul 1 b = b := gmul_step 0 b
theorem gmul_one' (b : UInt8) : gmul b 1 = b := by rw [gmul_comm, gmul_one]
theorem gmul_ginv {x : UInt8} (h : x ≠ 0) : gmul x (ginv x) = 1 := by
  have e := alog_glog h
  have hl := @glog_lt x
  unfold ginv
  conv => lhs; arg 1; rw [← e]
  rw [gmul_alog, show (glog x).toNat + (255 - (glog x).toNat) = 255 by lia, alog_255]
theorem ginv_gmul {x : UInt8} (h : x ≠ 0) : gmul (ginv x) x = 1 := by rw [gmul_comm, gmul_ginv h]
theorem xself (a : UInt8) : a ^^^ a = 0 := UInt8.xor_self
theorem xzero (a : UInt8) : a ^^^ 0 = a := UInt8.xor_zero
theorem zerox (a : UInt8) : 0 ^^^ a = a := UInt8.zero_xor
theorem xac (a b c d : UInt8) : (a ^^^ b) ^^^ (c ^^^ d) = (a ^^^ c) ^^^ (b ^^^ d) := by
  rw [UInt8.xor_assoc, UInt8.xor_assoc, ← UInt8.xor_assoc b, ← UInt8.xor_assoc c, UInt8.xor_comm b c]
theorem x_eq {a b : UInt8} (h : a ^^^ b = 0) : a = b := by
  have : (a ^^^ b) ^^^ b = 0 ^^^ b := by rw [h]
  rwa [UInt8.xor_assoc, xself, xzero, zerox] at this
theorem gmul_ne {a b : UInt8} (ha : a ≠ 0) (hb : b ≠ 0) : gmul a b ≠ 0 := by
  obtain ⟨i, rfl⟩ := ex_alog ha
  obtain ⟨j, rfl⟩ := ex_alog hb
  rw [gmul_alog]; exact alog_ne _

/-! sums -/
noncomputable def xs (f : Nat → UInt8) : Nat → UInt8
  | 0 => 0
  | n + 1 => xs f n ^^^ f n
theorem xs_congr {f g : Nat → UInt8} : ∀ {n : Nat}, (∀ k, k < n → f k = g k) → xs f n = xs g n
  | 0, _ => rfl
  | n + 1, h => by
    show xs f n ^^^ f n = xs g n ^^^ g n
    rw [xs_congr fun k hk => h k (Nat.lt_succ_of_lt hk), h n (Nat.lt_succ_self n)]
theorem xs_zero : ∀ n, xs (fun _ => 0) n = 0
  | 0 => rfl
  | n + 1 => by show xs _ n ^^^ 0 = 0; rw [xs_zero n]; rfl
theorem xs_none {f : Nat → UInt8} {n : Nat} (h : ∀ k, k < n → f k = 0) : xs f n = 0 := by rw [xs_congr h, xs_zero]
theorem xs_xor (f g : Nat → UInt8) : ∀ n, xs (fun k => f k ^^^ g k) n = xs f n ^^^ xs g n
  | 0 => by show (0 : UInt8) = 0 ^^^ 0; decide
  | n + 1 => by
    show xs _ n ^^^ (f n ^^^ g n) = (xs f n ^^^ f n) ^^^ (xs g n ^^^ g n)
    rw [xs_xor f g n, xac]
theorem xs_mul (c : UInt8) (f : Nat → UInt8) : ∀ n, xs (fun k => gmul c (f k)) n = gmul c (xs f n)
  | 0 => (gmul_zero_right c).symm
  | n + 1 => by
    show xs _ n ^^^ gmul c (f n) = gmul c (xs f n ^^^ f n)
    rw [xs_mul c f n, gmul_xor]
theorem xs_swap (f : Nat → Nat → UInt8) : ∀ (m n : Nat), xs (fun i => xs (fun j => f i j) n) m = xs (fun j => xs (fun i => f i j) m) n
  | 0, n => (xs_zero n).symm
  | m + 1, n => by
    show xs _ m ^^^ xs (fun j => f m j) n = xs (fun j => xs (fun i => f i j) m ^^^ f m j) n
    rw [xs_swap f m n, xs_xor]
theorem xs_one {f : Nat → UInt8} {n k : Nat} (hk : k < n) (h : ∀ j, j < n → j ≠ k → f j = 0) : xs f n = f k := by
  induction n with
  | zero => exact absurd hk (Nat.not_lt_zero _)
  | succ n ih =>
    show xs f n ^^^ f n = f k
    by_cases e : k = n
    · subst e
      rw [xs_none fun j hj => h j (Nat.lt_succ_of_lt hj) (Nat.ne_of_lt hj), zerox]
    · rw [ih (by lia) fun j hj => h j (Nat.lt_succ_of_lt hj), h n (Nat.lt_succ_self n) (Ne.symm e), xzero]
theorem xs_first (f : Nat → UInt8) : ∀ n, xs f (n + 1) = f 0 ^^^ xs (fun k => f (k + 1)) n
  | 0 => by show (0 : UInt8) ^^^ f 0 = f 0 ^^^ 0; rw [zerox, xzero]
  | n + 1 => by
    show xs f (n + 1) ^^^ f (n + 1) = f 0 ^^^ (xs (fun k => f (k + 1)) n ^^^ f (n + 1))
    rw [xs_first f n, UInt8.xor_assoc]
theorem xs_more {f : Nat → UInt8} {n : Nat} : ∀ {m : Nat}, n ≤ m → (∀ k, n ≤ k → k < m → f k = 0) → xs f m = xs f n
  | 0, h, _ => by have : n = 0 := by lia
                  subst this; rfl
  | m + 1, h, hz => by
    by_cases e : n = m + 1
    · subst e; rfl
    · show xs f m ^^^ f m = xs f n
      rw [hz m (by lia) (Nat.lt_succ_self m), xzero]
      exact xs_more (by lia) fun k h1 h2 => hz k h1 (Nat.lt_succ_of_lt h2)
theorem xs_drop {f : Nat → UInt8} (j : Nat) (hz : ∀ k, k < j → f k = 0) : ∀ n, xs f (j + n) = xs (fun k => f (j + k)) n
  | 0 => xs_none hz
  | n + 1 => by
    show xs f (j + n) ^^^ f (j + n) = xs (fun k => f (j + k)) n ^^^ f (j + n)
    rw [xs_drop j hz n]

/-! Massey's lemma -/
/-- the value at place p of the recurrence c of length L -/
noncomputable def dsc (S c : Nat → UInt8) (L p : Nat) : UInt8 := xs (fun k => gmul (c k) (S (p - k))) (L + 1)
/-- c of length L runs through the first N places -/
noncomputable def Gen (S c : Nat → UInt8) (L N : Nat) : Prop := c 0 = 1 ∧ ∀ p, L ≤ p → p < N → dsc S c L p = 0
theorem Gen.less {S c : Nat → UInt8} {L N M : Nat} (h : Gen S c L N) (hm : M ≤ N) : Gen S c L M := ⟨h.1, fun p h1 h2 => h.2 p h1 (Nat.lt_of_lt_of_le h2 hm)⟩
theorem massey {S c c' : Nat → UInt8} {L L' N : Nat} (h : Gen S c L N) (hd : dsc S c L N ≠ 0) (h' : Gen S c' L' (N + 1)) : N + 1 ≤ L + L' := by
  rcases Nat.lt_or_ge N (L + L') with hlt | hge
  · exact hlt
  exfalso
  have t1 : xs (fun j => xs (fun k => gmul (c j) (gmul (c' k) (S (N - j - k)))) (L' + 1)) (L + 1) = 0 := by
    refine xs_none fun j hj => ?_
    rw [xs_mul (c j) (fun k => gmul (c' k) (S (N - j - k)))]
    have : xs (fun k => gmul (c' k) (S (N - j - k))) (L' + 1) = 0 := h'.2 (N - j) (by lia) (by lia)
    rw [this, gmul_zero_right]
  have t2 : xs (fun j => xs (fun k => gmul (c j) (gmul (c' k) (S (N - j - k)))) (L' + 1)) (L + 1) = dsc S c L N := by
    rw [xs_swap (fun j k => gmul (c j) (gmul (c' k) (S (N - j - k))))]
    have e : ∀ k, k < L' + 1 → xs (fun j => gmul (c j) (gmul (c' k) (S (N - j - k)))) (L + 1) = gmul (c' k) (dsc S c L (N - k)) := fun k hk => by
      unfold dsc
      rw [← xs_mul]
      refine xs_congr fun j hj => ?_
      rw [← gmul_assoc, ← gmul_assoc, gmul_comm (c j), show N - j - k = N - k - j by lia]
    rw [xs_congr e, xs_one (k := 0) (Nat.succ_pos _)]
    · rw [h'.1, gmul_one]; rfl
    · intro k hk hk0
      rw [h.2 (N - k) (by lia) (by lia), gmul_zero_right]
  rw [t1] at t2
  exact hd t2.symm
/-- two recurrences of the least length, at most half the places: one -/
theorem unique {S c c' : Nat → UInt8} {L N : Nat} (h : Gen S c L N) (h' : Gen S c' L N) (h2 : 2 * L ≤ N) (hmin : ∀ e M, M < L → ¬ Gen S e M N) : ∀ k, k ≤ L → c k = c' k := by
  suffices hs : ∀ k, k ≤ L → c k ^^^ c' k = 0 from fun k hk => x_eq (hs k hk)
  have hz : ∀ p, L ≤ p → p < N → xs (fun k => gmul (c k ^^^ c' k) (S (p - k))) (L + 1) = 0 := fun p h1 h3 => by
    have e1 := h.2 p h1 h3
    have e2 := h'.2 p h1 h3
    unfold dsc at e1 e2
    rw [xs_congr (g := fun k => gmul (c k) (S (p - k)) ^^^ gmul (c' k) (S (p - k))) fun k _ => xor_gmul .., xs_xor, e1, e2]; rfl
  have h0 : c 0 ^^^ c' 0 = 0 := by rw [h.1, h'.1]; rfl
  intro k
  induction k using Nat.strongRecOn with
  | ind j ih =>
    intro hj
    rcases Nat.eq_zero_or_pos j with rfl | hpos
    · exact h0
    apply Classical.byContradiction
    intro hne
    let v := c j ^^^ c' j
    let e : Nat → UInt8 := fun k => gmul (ginv v) (c (j + k) ^^^ c' (j + k))
    have he0 : e 0 = 1 := ginv_gmul hne
    have hd : ∀ q, L - j ≤ q → q + j < N → dsc S e (L - j) q = 0 := fun q h1 h3 => by
      have := hz (q + j) (by lia) h3
      have e1 : L + 1 = j + (L - j + 1) := by lia
      rw [e1, xs_drop j (fun k hk => by rw [ih k hk (by lia), gmul_zero_left])] at this
      unfold dsc
      rw [xs_congr (g := fun k => gmul (ginv v) (gmul (c (j + k) ^^^ c' (j + k)) (S (q + j - (j + k))))) fun k _ => by
        show gmul (gmul (ginv v) _) _ = _
        rw [gmul_assoc, show q + j - (j + k) = q - k by lia], xs_mul, this, gmul_zero_right]
    -- the first place where e fails
    have key : ∀ t, N - j + t ≤ N → Gen S e (L - j) (N - j + t) := fun t => by
      induction t with
      | zero => intro _; exact ⟨he0, fun q h1 h3 => hd q h1 (by lia)⟩
      | succ t iht =>
        intro ht
        have g := iht (by lia)
        refine ⟨he0, fun q h1 h3 => ?_⟩
        by_cases hq : q < N - j + t
        · exact g.2 q h1 hq
        have hq' : q = N - j + t := by lia
        apply Classical.byContradiction
        intro hne'
        have := massey g (hq' ▸ hne') (h.less (by lia : N - j + t + 1 ≤ N))
        lia
    refine hmin e (L - j) (by lia) ?_
    have := key j (by lia)
    rwa [show N - j + j = N by lia] at this
/- RSC2 -/
section
variable {α : Type} {M : Model} {A : Around} {E : Value → Shared → Prop} {s : Shared} {env : Env}
theorem execsC_nil {Q : Flow → Shared → Prop} (h : Q .next s) : wpC M A (execs [] env) Q E s := fun _ _ _ _ => h
theorem execsC_cons {st rest} {Q : Flow → Shared → Prop}
    (h : wpC M A (exec st env) (fun f s' => match f with | .next => wpC M A (execs rest env) Q E s' | f => Q f s') E s) :
    wpC M A (execs (st :: rest) env) Q E s := fun Γ p hΓ hc => by
  rw [execs_cons, Sem.wp_bind']
  refine Sem.wp_mono M Γ _ (fun f p' s' h' => ?_) (fun _ _ _ h' => h') _ _ (h Γ p hΓ hc)
  cases f <;> first | exact h' Γ p' hΓ hc | exact h'
/-- a statement told in the plain logic, at the head of a block told in the clean one -/
theorem execsA_cons {st rest} {Q : Flow → Shared → Prop}
    (h : wpAny M A (exec st env) (fun f s' => match f with | .next => wpC M A (execs rest env) Q E s' | f => Q f s') E s) :
    wpC M A (execs (st :: rest) env) Q E s := execsC_cons (wpC_of h)
theorem ifC {test body orelse pos} {Q : Flow → Shared → Prop}
    (h : wpC M A (isTrue test env (eval test env))
      (fun b s₂ => if b then wpC M A (execs body env) Q E s₂ else wpC M A (execs orelse env) Q E s₂) E s) :
    wpC M A (exec (.If test body orelse pos) env) Q E s := fun Γ p hΓ hc => by
  simp only [exec_If, Sem.wp_bind', Sem.wp_cmd_standAt]
  refine Sem.wp_mono M Γ _ (fun b p₂ s₂ h₂ => ?_) (fun _ _ _ h' => h') _ _ (h Γ _ hΓ hc)
  cases b <;> exact h₂ Γ p₂ hΓ hc
theorem ifA {test body orelse pos} {Q : Flow → Shared → Prop}
    (h : wpAny M A (isTrue test env (eval test env))
      (fun b s₂ => if b then wpC M A (execs body env) Q E s₂ else wpC M A (execs orelse env) Q E s₂) E s) :
    wpC M A (exec (.If test body orelse pos) env) Q E s := ifC (wpC_of h)
theorem assignC {x pos' value pos} {Q : Flow → Shared → Prop}
    (h : wpC M A (eval value env) (fun v s₁ => wpAny M A (storeName env x v) (fun _ => Q .next) E s₁) E s)
    (hs : swapsWith value (some (.Name x pos')) pos.line env = pure false := by rfl) :
    wpC M A (exec (.Assign [.Name x pos'] value pos) env) Q E s := fun Γ p hΓ hc => by
  simp only [exec_Assign_Name env x pos' value pos hs, Sem.wp_bind', Sem.wp_cmd_standAt, Sem.wp_bindName, Sem.wp_pure']
  exact Sem.wp_mono M Γ _ (fun v _ s₁ h₁ => h₁ Γ _ hΓ) (fun _ _ _ h' => h') _ _ (h Γ _ hΓ hc)
theorem returnC {e pos} {Q : Flow → Shared → Prop} (h : wpC M A (eval e env) (fun v => Q (.ret v)) E s) :
    wpC M A (exec (.Return (some e) pos) env) Q E s := fun Γ p hΓ hc => by
  simp only [exec_Return_some, Sem.wp_bind', Sem.wp_cmd_standAt, Sem.wp_pure']; exact h Γ _ hΓ hc
theorem binOpC {l op r pos} {Q : Value → Shared → Prop}
    (h : wpC M A (eval l env) (fun a s₁ => wpC M A (eval r env) (fun b s₂ => wpAny M A (binaryOp op a b) Q E s₂) E s₁) E s) :
    wpC M A (eval (.BinOp l op r pos) env) Q E s := fun Γ p hΓ hc => by
  simp only [eval_BinOp, Sem.wp_bind', Sem.wp_holding, Sem.wp_cmd_standAt, Sem.wp_operate]
  exact Sem.wp_mono M Γ _ (fun a p₁ s₁ h₁ => Sem.wp_mono M Γ _ (fun b _ s₂ h₂ => h₂ Γ _ hΓ) (fun _ _ _ h' => h') _ _ (h₁ Γ p₁ hΓ hc))
    (fun _ _ _ h' => h') _ _ (h Γ p hΓ hc)
/-- a call by a name: the name, the arguments, the call in the clean logic -/
theorem callNameC {id : Str} {p pos : Pos} {args : List Expr} {Q : Value → Shared → Prop}
    (h : wpAny M A (eval (.Name id p) env) (fun f s₁ => wpC M A (callWith pos f [] (backTo pos (starEach args env)) []) Q E s₁) E s) :
    wpC M A (eval (.Call (.Name id p) args [] pos) env) Q E s := by
  show wpC M A (do callWith pos (← eval (.Name id p) env) [] (backTo pos (starEach args env)) (backToKw pos (keywordEach [] env))) Q E s
  exact wpC_bind (wpC_of h)
theorem codeC_loop {c : Code} {R : Result → Shared → Prop} (hd : dec c = false) (hq : c.quiet = true) (I : Nat → Shared → Prop)
    (turn : ∀ n s, I n s → wpC M (A.under c) (M.den c)
      (fun fin s' => match fin with
        | .done f => R (.ok f) s'
        | .again c' => (c' = c ∧ ∃ m, m < n ∧ I m s') ∨ (c'.quiet = true ∧ codeC M A c' R s')) (fun e s' => R (.error e) s') s)
    (n : Nat) (h : I n s) : codeC M A c R s := by
  induction n using Nat.strongRecOn generalizing s with
  | ind n ih =>
    refine codeC_of_tree hd (wpC_mono (turn n s h) (fun fin s' hf => ?_) fun _ _ h' => h')
    cases fin with
    | done f => exact hf
    | again c' =>
      rcases hf with ⟨rfl, m, hm, hI⟩ | hf
      · exact ⟨hq, ih m hm hI⟩
      · exact hf
theorem wpC_noted {m : Sem α} {Q : α → Shared → Prop} (h : wpC M A m Q (fun _ _ => False) s) : wpC M A (m.onRaise fun x => do noteFrame x env; theTreesLotGoes x) Q E s :=
  wpC_onRaise (wpC_mono h (fun _ _ q => q) fun _ _ hx => hx.elim)
theorem wpC_runOwn {c : Code} {h : Option Value} {Q : Flow → Shared → Prop}
    (hc : codeC M (A.mark h) c (fun r s' => match r with | .ok f => Q f s' | .error _ => False) s) (hnb : h ≠ some byPass := by intro x; cases x) :
    wpC M A (runOwn c env h) Q E s := by
  unfold runOwn
  exact wpC_onRaise (wpC_mono (wpC_run (E := fun _ _ => False) hc hnb) (fun _ _ q => q) fun _ _ hx => hx.elim)
theorem whileC0 {test body orelse pos} {Q : Flow → Shared → Prop}
    (h : codeC M A (.whileLoop test body orelse env) (fun r s' => match r with | .ok f => Q f s' | .error _ => False) s) :
    wpC M A (exec (.While test body orelse pos) env) Q E s := by
  rw [exec_While]; exact wpC_bind (wpC_standAt (wpC_runOwn h))
theorem forC0 {target iter body orelse pos} {Q : Flow → Shared → Prop}
    (h : wpAny M A (eval iter env) (fun x s₁ => wpAny M A (pyIter x) (fun it s₂ =>
      codeC M A (.forLoop target it body orelse env) (fun r s' => match r with | .ok f => Q f s' | .error _ => False) s₂) E s₁) E s)
    (hs : ∀ x, foldedSetIterable iter env x = pure x := by intro _; rfl) :
    wpC M A (exec (.For target iter body orelse pos) env) Q E s := by
  rw [exec_For]
  exact wpC_bind (wpC_standAt (wpC_bind (wpC_mono (wpC_of h) (fun x s₁ h₁ => wpC_bind (wpC_of (wpAny_of_eq (hs x) (wpC_bind (wpC_standAt (wpC_bind (wpC_holding
    (wpC_mono (wpC_of h₁) (fun it s₂ h₂ => wpC_runOwn h₂) fun _ _ h' => h')))))))) fun _ _ h' => h')))
end
section
variable {prog : Program} {w : World} {A : Around} {E : Value → Shared → Prop} {R : Result → Shared → Prop} {s : Shared} {env : Env}
theorem forLoopC {target : Expr} {it : Value} {body : List Stmt} {Q : Flow → Shared → Prop} (n : Nat) (J : Nat → Shared → Prop) (h0 : J 0 s)
    (item : ∀ i s, i < n → J i s → wpAny (model prog w) A (pyNext it) (fun r s₁ => ∃ v, r = some v ∧ wpAny (model prog w) A (letOwnedTupleGo target it v) (fun _ s₁ => wpAny (model prog w) A (assign target env v) (fun _ s₂ =>
      wpC (model prog w) A (execs body env) (fun f s₃ => match f with | .next | .cont => J (i + 1) s₃ | .brk => Q .next s₃ | .ret v => Q (.ret v) s₃) (fun _ _ => False) s₂) (fun _ _ => False) s₁) (fun _ _ => False) s₁) (fun _ _ => False) s)
    (fin : ∀ s, J n s → wpAny (model prog w) A (pyNext it) (fun r s₁ => r = none ∧ Q .next s₁) (fun _ _ => False) s) :
    codeC (model prog w) A (.forLoop target it body [] env) (fun r s' => match r with | .ok f => Q f s' | .error _ => False) s := by
  refine codeC_loop rfl rfl (fun k s' => ∃ i, i ≤ n ∧ k = n - i ∧ J i s') ?_ n ⟨0, Nat.zero_le _, rfl, h0⟩
  rintro k s' ⟨i, hi, rfl, hJ⟩
  show wpC _ _ ((forTurn target it body [] env).onRaise (fun x => do noteFrame x env; theTreesLotGoes x)) _ _ s'
  refine wpC_noted ?_
  simp only [forTurn]
  by_cases hlt : i < n
  · refine wpC_bind (wpC_standAt (wpC_bind (wpC_onRaise (wpC_mono (wpC_of (item i s' hlt hJ)) (fun r s₁ h₁ => ?_) fun _ _ h' => h'.elim))))
    obtain ⟨v, rfl, h₁⟩ := h₁
    refine wpC_bind (wpC_mono (wpC_of h₁) (fun _ s₁' h₁ => ?_) fun _ _ h' => h')
    refine wpC_bind (wpC_mono (wpC_of h₁) (fun _ s₂ h₂ => wpC_bind (wpC_mono h₂ (fun f s₃ h₃ => ?_) fun _ _ h' => h')) fun _ _ h' => h')
    cases f with
    | next => exact wpC_pure (.inl ⟨rfl, n - (i + 1), by lia, i + 1, hlt, rfl, h₃⟩)
    | cont => exact wpC_pure (.inl ⟨rfl, n - (i + 1), by lia, i + 1, hlt, rfl, h₃⟩)
    | brk => exact wpC_pure h₃
    | ret v => exact wpC_pure h₃
  · have hin : i = n := by lia
    subst hin
    refine wpC_bind (wpC_standAt (wpC_bind (wpC_onRaise (wpC_mono (wpC_of (fin s' hJ)) (fun r s₁ h₁ => ?_) fun _ _ h' => h'.elim))))
    obtain ⟨rfl, h₁⟩ := h₁
    exact wpC_pure (.inr ⟨rfl, codeC_of (codeAny_block (wpAny_execs_nil h₁))⟩)
theorem whileLoopC {test : Expr} {body : List Stmt} {Q : Flow → Shared → Prop} (J : Nat → Shared → Prop)
    (turn : ∀ n s, J n s → wpAny (model prog w) A (isTrue test env (eval test env)) (fun b s₂ =>
        if b then wpC (model prog w) A (execs body env) (fun f s₃ => match f with
            | .next | .cont => ∃ m, m < n ∧ J m s₃
            | .brk => Q .next s₃
            | .ret v => Q (.ret v) s₃) (fun _ _ => False) s₂
        else Q .next s₂) (fun _ _ => False) s)
    (n : Nat) (h : J n s) : codeC (model prog w) A (.whileLoop test body [] env) (fun r s' => match r with | .ok f => Q f s' | .error _ => False) s := by
  refine codeC_loop rfl rfl J (fun n s' hJ => ?_) n h
  show wpC _ A ((whileTurn test body [] env).onRaise (fun x => do noteFrame x env; theTreesLotGoes x)) _ _ s'
  refine wpC_noted ?_
  simp only [whileTurn]
  refine wpC_bind (wpC_mono (wpC_of (turn n s' hJ)) (fun b s₂ h₂ => ?_) fun _ _ h' => h')
  cases b with
  | false =>
    simp only [Bool.false_eq_true, if_false] at h₂ ⊢
    exact wpC_bind (wpC_of (wpAny_execs_nil (wpC_pure h₂)))
  | true =>
    simp only [if_true] at h₂ ⊢
    refine wpC_bind (wpC_mono h₂ (fun f s₃ h₃ => ?_) fun _ _ h' => h')
    cases f with
    | next => exact wpC_pure (.inl ⟨rfl, h₃⟩)
    | cont => exact wpC_pure (.inl ⟨rfl, h₃⟩)
    | brk => exact wpC_pure h₃
    | ret v => exact wpC_pure h₃
theorem whileC {test : Expr} {body : List Stmt} {pos : Pos} {Q : Flow → Shared → Prop} (J : Nat → Shared → Prop) (n : Nat) (h : J n s)
    (turn : ∀ n s, J n s → wpAny (model prog w) A (isTrue test env (eval test env)) (fun b s₂ =>
        if b then wpC (model prog w) A (execs body env) (fun f s₃ => match f with
            | .next | .cont => ∃ m, m < n ∧ J m s₃
            | .brk => Q .next s₃
            | .ret v => Q (.ret v) s₃) (fun _ _ => False) s₂
        else Q .next s₂) (fun _ _ => False) s) :
    wpC (model prog w) A (exec (.While test body [] pos) env) Q E s := whileC0 (whileLoopC J turn n h)

noncomputable abbrev rIt (x left : Int) : Obj := { cls := .type "range_iterator", dict := none, data := .fields #[rawInt x, rawInt left, rawInt 1], slots := #[] }
noncomputable abbrev rObj (a b : Int) (t u v : Tok) : Obj := { cls := .type "range", dict := none, data := .fields #[.int a t, .int b u, .int 1 v], slots := #[] }

theorem Fr.extBut {h₀ h h' : Heap} {L I : Addr} {m : Str → Option Value} (F : Fr h₀ L h m) (hI : h₀.get? I = none) (hL : I ≠ L) (x : Heap.ExtBut I h h') : Fr h₀ L h' m :=
  ⟨F.ns.at' fun o e => x _ o (Ne.symm hL) e, fun b o e => x b o (fun q => by subst q; rw [hI] at e; cases e) (F.keep b o e), F.above⟩
theorem Led.extBut {h₀ h h' : Heap} {L I : Addr} {o : Obj} {news : List (Addr × Obj)} (N : Led h₀ L h ((I, o) :: news)) (x : Heap.ExtBut I h h') : Led h₀ L h' news :=
  ⟨fun p hp => ⟨x _ _ (fun q => (List.nodup_cons.mp N.nd).1 (List.mem_map.mpr ⟨p, hp, q⟩)) (N.n p (.tail _ hp)).1, (N.n p (.tail _ hp)).2⟩, (List.nodup_cons.mp N.nd).2⟩

/-- a turn's end: go on, break, or return -/
noncomputable abbrev LoopQ (next : Shared → Prop) (Q : Flow → Shared → Prop) (f : Flow) (s₃ : Shared) : Prop := match f with
  | .next | .cont => next s₃
  | .brk => Q .next s₃
  | .ret v => Q (.ret v) s₃
noncomputable abbrev NextQ (h₀ : Heap) (L : Addr) (s₁ : Shared) (p : Addr × Obj) (J : (Str → Option Value) → List (Addr × Obj) → Prop) (s₃ : Shared) : Prop :=
  ∃ h' tk' m₂ news₂, s₃ = { s₁ with heap := h', toks := tk' } ∧ Fr h₀ L h' m₂ ∧ Led h₀ L h' (p :: news₂) ∧ J m₂ news₂
/-- the loop over a range, with the ledger -/
theorem forRange {h₀ : Heap} {x : Str} {px pos : Pos} {iter : Expr} {body : List Stmt} {Q : Flow → Shared → Prop}
    (h : wpAny (model prog w) A (eval iter env) (fun xv s₁ => ∃ (r : Addr) (a b : Int) (t u v : Tok) (n : Nat) (m : Str → Option Value) (news : List (Addr × Obj)) (J : Nat → (Str → Option Value) → List (Addr × Obj) → Prop),
      xv = .ref r ∧ s₁.heap.get? r = some (rObj a b t u v) ∧ (-1000000 ≤ a ∧ a ≤ 1000000 ∧ -1000000 ≤ b ∧ b ≤ 1000000) ∧ n = (b - a).toNat ∧ Fr h₀ env.locals s₁.heap m ∧ Led h₀ env.locals s₁.heap news ∧ J 0 m news ∧
      (∀ i t m₁ news₁ I h tk, i < n → J i m₁ news₁ → Fr h₀ env.locals h (fun y => if y = x then some (.int (a + i) t) else m₁ y) → Led h₀ env.locals h ((I, rIt (a + i + 1) (n - i - 1)) :: news₁) →
        wpC (model prog w) A (execs body env) (LoopQ (NextQ h₀ env.locals s₁ (I, rIt (a + i + 1) (n - i - 1)) (J (i + 1))) Q) (fun _ _ => False) { s₁ with heap := h, toks := tk }) ∧
      (∀ h' tk m' news', J n m' news' → Fr h₀ env.locals h' m' → Led h₀ env.locals h' news' → Q .next { s₁ with heap := h', toks := tk })) E s)
    (hh : A.handled = none) (hx : (env.scope.names.lookup x == some NameKind.local) = true) (hk : (env.scope.kind == .function) = true)
    (hs : ∀ x, foldedSetIterable iter env x = pure x := by intro _; rfl) (ht : ∀ I v, letOwnedTupleGo (.Name x px) I v = pure () := by intro _ _; rfl) :
    wpC (model prog w) A (exec (.For (.Name x px) iter body [] pos) env) Q E s := by
  refine forC0 (wpAny_mono h (fun xv s₁ h₁ => ?_) fun _ _ e => e) hs
  obtain ⟨r, a, b, t, u, v, n, m, news, J, rfl, hr, ⟨ha1, ha2, hb1, hb2⟩, hn, F, N, h0, step, hQ⟩ := h₁
  have hsmall : Builtin.Range.small a b 1 = true := small_one (by lia) (by lia) (by lia) (by lia)
  have hsz : Builtin.Range.rangeSize a b 1 = (n : Int) := by rw [rangeSize_one]; split <;> lia
  refine wpAny_pyIter_range hr hsmall ?_
  rw [hsz]
  have N₁ := Led.push F N (rIt a n)
  have F₁ := Fr.stays F (stays_push s₁.heap (rIt a n))
  generalize s₁.heap.objs.size = I at N₁ ⊢
  refine forLoopC n (fun i s' => ∃ h' tk m' news', s' = { s₁ with heap := h', toks := tk } ∧ Fr h₀ env.locals h' m' ∧ Led h₀ env.locals h' ((I, rIt (a + i) (n - i)) :: news') ∧ J i m' news')
    ⟨_, _, m, news, rfl, F₁, by simpa using N₁, h0⟩ ?_ ?_
  · rintro i s' hi ⟨h', tk, m', news', rfl, F', N', hJ⟩
    refine wpAny_pyNext_range_item (N'.get (.head _)) (by lia) fun h₁ hit₁ hs₁ => ⟨_, rfl, wpAny_of_eq (ht _ _) ?_⟩
    obtain ⟨F₂, N₂⟩ := Led.upd F' N' .head hit₁ hs₁
    refine wpAny_assign_Name (stL F₂ N₂ hx hk fun h₂ F₃ N₃ => ?_)
    refine wpC_mono (step i _ m' news' I h₂ _ hi hJ F₃ N₃) (fun f s₃ h₃ => ?_) fun _ _ e => e
    have fin : (∃ h' tk' m₂ news₂, s₃ = { s₁ with heap := h', toks := tk' } ∧ Fr h₀ env.locals h' m₂ ∧ Led h₀ env.locals h' ((I, rIt (a + i + 1) (n - i - 1)) :: news₂) ∧ J (i + 1) m₂ news₂) →
        ∃ h' tk m' news', s₃ = { s₁ with heap := h', toks := tk } ∧ Fr h₀ env.locals h' m' ∧ Led h₀ env.locals h' ((I, rIt (a + (i + 1 : Nat)) (n - (i + 1 : Nat))) :: news') ∧ J (i + 1) m' news' := by
      rintro ⟨h', tk', m₂, news₂, e, F₄, N₄, J₄⟩
      refine ⟨h', tk', m₂, news₂, e, F₄, ?_, J₄⟩
      have e1 : (a + (i + 1 : Nat) : Int) = a + i + 1 := by lia
      have e2 : ((n : Int) - (i + 1 : Nat)) = n - i - 1 := by lia
      rw [e1, e2]; exact N₄
    cases f with
    | next => exact fin h₃
    | cont => exact fin h₃
    | brk => exact h₃
    | ret v => exact h₃
  · rintro s' ⟨h', tk, m', news', rfl, F', N', hJ⟩
    refine wpAny_pyNext_range_end hh (N'.get (.head _)) (by lia) fun h₁ hx₁ => ⟨rfl, ?_⟩
    exact hQ h₁ _ m' news' hJ (Fr.extBut F' (N'.fresh (.head _)) (N'.n _ (.head _)).2.1 hx₁) (Led.extBut N' hx₁)
end
/- RSF2 -/

theorem v_and (x : UInt8) : (Builtin.bitAnd (iu x * 2 ^ (1 : Int).toNat) 256 != 0) = decide (128 ≤ x) := by
  have := all_u8 (p := fun x => (Builtin.bitAnd (iu x * 2 ^ (1 : Int).toNat) 256 != 0) == decide (128 ≤ x)) (by decide +kernel) x
  exact eq_of_beq this
theorem v_big (x : UInt8) (h : 128 ≤ x) : Builtin.bitXor (iu x * 2 ^ (1 : Int).toNat) 285 = iu (mul2 x) := by
  have := all_u8 (p := fun x => !decide (128 ≤ x) || Builtin.bitXor (iu x * 2 ^ (1 : Int).toNat) 285 == iu (mul2 x)) (by decide +kernel) x
  simpa [h] using this
theorem v_small (x : UInt8) (h : ¬ 128 ≤ x) : iu x * 2 ^ (1 : Int).toNat = iu (mul2 x) := by
  have := all_u8 (p := fun x => decide (128 ≤ x) || iu x * 2 ^ (1 : Int).toNat == iu (mul2 x)) (by decide +kernel) x
  simpa [h] using this
theorem v_xor0 (x : UInt8) : Builtin.bitXor 0 (iu x) = iu x := by
  have := all_u8 (p := fun x => Builtin.bitXor 0 (iu x) == iu x) (by decide +kernel) x
  exact eq_of_beq this
theorem iu_small (x : UInt8) : (iu x).natAbs < 2 ^ 64 := by
  have := iu_lt x; have := iu_nonneg x; lia

theorem noLUT_spec {w : World} {A : Around} {E : Value → Shared → Prop} {s : Shared} {mg : Str → Option Value} {a d : Addr} {x : UInt8} {t1 t2 t3 t4 : Tok} {Q : Value → Shared → Prop} {d1 d2 : Value}
    (hroom : A.depth < recursionLimit) (hf : FnAt s.heap 7 a (.ref d)) (G : Glo mg s.heap) {od : Obj} {nd : Nat} (hd : s.heap.get? d = some od) (hd2 : od.data = .seq #[d1, d2, .bool true] nd)
    (h : ∀ t h' tk, s.heap.StaysIn h' → Q (.int (iu (mul2 x)) t) { s with heap := h', toks := tk }) :
    wpAny (model P w) A (call (.ref a) [.int (iu x) t1, .int 2 t2, .int 285 t3, .int 256 t4]) Q E s := by
  refine enter (binds := [("x", .int (iu x) t1), ("y", .int 2 t2), ("prim", .int 285 t3), ("field_charac_full", .int 256 t4), ("carryless", .bool true)]) hroom hf G.nolimit (fun pm cdv => BindsTo.of_defaults rfl hd hd2 rfl rfl) (fun L cdv h₁ F => ?_) (hloc := locs (by rfl))
  have N : Led s.heap L h₁ [] := Led.nil
  refine wpAny_execs_cons ?_
  walk_at "go"
  refine whl_start 3 (whl_turn (k := 2) (PassesOwn.never) ?_)
  walk_at "go"
  refine WhlIf.yes (by decide) ?_
  walk_at "go"
  rw [if_neg (by decide)]
  walk_at "go"
  refine lshift_int_small (by decide) (by decide) (iu_small x) ?_
  walk_at "go"
  rw [if_pos (by decide)]
  walk_at "go"
  rw [v_and]
  by_cases hb : 128 ≤ x
  · rw [if_pos (by simpa using hb)]
    walk_at "go"
    refine whl_turn (k := 1) PassesOwn.never ?_
    walk_at "go"
    refine WhlIf.yes (by decide) ?_
    walk_at "go"
    rw [if_pos (by decide)]
    walk_at "go"
    refine lshift_int_small (by decide) (by decide) (by rw [v_big x hb]; exact iu_small _) ?_
    walk_at "go"
    rw [if_pos (by decide)]
    walk_at "go"
    split
    all_goals
      walk_at "go"
      refine whl_turn (k := 0) PassesOwn.never ?_
      walk_at "go"
      refine WhlIf.no (by decide) ?_
      walk_at "go"
      rw [v_big x hb, v_xor0]
      refine h _ _ _ ?_
      exact Fr.keep (by assumption)
  · rw [if_neg (by simpa using hb)]
    walk_at "go"
    refine whl_turn (k := 1) PassesOwn.never ?_
    walk_at "go"
    refine WhlIf.yes (by decide) ?_
    walk_at "go"
    rw [if_pos (by decide)]
    walk_at "go"
    refine lshift_int_small (by decide) (by decide) (by rw [v_small x hb]; exact iu_small _) ?_
    walk_at "go"
    rw [if_pos (by decide)]
    walk_at "go"
    split
    all_goals
      walk_at "go"
      refine whl_turn (k := 0) PassesOwn.never ?_
      walk_at "go"
      refine WhlIf.no (by decide) ?_
      walk_at "go"
      rw [v_small x hb, v_xor0]
      refine h _ _ _ ?_
      exact Fr.keep (by assumption)
/- RSW2 -/
section
variable {M : Model} {A : Around} {E : Value → Shared → Prop} {s : Shared} {env : Env}
theorem splicedC_nil {Q : List Value → Shared → Prop} (h : Q [] s) : wpC M A (spliced []) Q E s := wpC_pure h
theorem splicedC_cons {x : Sem Value} {rest : List (Bool × Sem Value)} {Q : List Value → Shared → Prop}
    (h : wpC M A x (fun v s₁ => wpC M A (spliced rest) (fun vs s₂ => Q (v :: vs) s₂) E s₁) E s) : wpC M A (spliced ((false, x) :: rest)) Q E s := by
  rw [spliced]
  refine wpC_bind (wpC_mono h (fun v s₁ h₁ => ?_) fun _ _ x => x)
  simp only [Bool.false_eq_true, if_false]
  exact wpC_bind (wpC_pure (wpC_bind (wpC_holding (wpC_mono h₁ (fun vs s₂ h₂ => wpC_pure h₂) fun _ _ x => x))))
theorem evalArgsC_plain {f : Value} {x : Sem Value} {rest : List (Bool × Sem Value)} {Q : Args → Shared → Prop}
    (h : wpC M A (spliced ((false, x) :: rest)) (fun vs s' => Q ⟨vs, []⟩ s') E s) : wpC M A (evalArgs f true ((false, x) :: rest) []) Q E s := by
  unfold evalArgs
  show wpC M A (spliced ((false, x) :: rest) >>= _) Q E s
  refine wpC_bind (wpC_mono h (fun vs s' h' => ?_) fun _ _ x => x)
  refine wpC_holding ?_
  exact wpC_bind (wpC_pure (wpC_bind (wpC_pure (wpC_pure h'))))
theorem callWithC_type {pos : Pos} {T : String} {e : Expr} {rest : List Expr} {Q : Value → Shared → Prop}
    (h : wpC M A (spliced (backTo pos (starEach (e :: rest) env))) (fun vs s₁ => wpC M A (call (.type T) vs) Q E s₁) E s)
    (he : starEach (e :: rest) env = (false, eval e env) :: starEach rest env := by rfl)
    (hplain : (backTo pos (starEach rest env)).any (·.1) = false := by rfl) :
    wpC M A (callWith pos (.type T) [] (backTo pos (starEach (e :: rest) env)) []) Q E s := by
  rw [he] at h ⊢
  have hp : (backTo pos ((false, eval e env) :: starEach rest env)).any (·.1) = false := by show (false || (backTo pos (starEach rest env)).any (·.1)) = false; rw [hplain]; rfl
  unfold callWith
  refine wpC_bind (wpC_holding (wpC_mono (show wpC M A (evalArgs (.type T) true (backTo pos ((false, eval e env) :: starEach rest env)) []) (fun a s₁ => wpC M A (call (.type T) ([] ++ a.pos) a.kw) Q E s₁) E s from evalArgsC_plain (by exact h)) (fun a s₁ h₁ => wpC_bind (wpC_standAt ?_)) fun _ _ x => x))
  simp only [hp, List.any_nil, Bool.or_false]
  refine wpC_bind (wpC_pure ?_)
  exact wpC_bind (wpC_mono h₁ (fun r s₂ hr => wpC_bind (wpC_holding (wpC_point (wpC_pure hr)))) fun _ _ x => x)
theorem callWithC_fn {pos : Pos} {a : Addr} {o : Obj} {fd : FuncData} {e : Expr} {rest : List Expr} {Q : Value → Shared → Prop}
    (h : wpC M A (spliced (backTo pos (starEach (e :: rest) env))) (fun vs s₁ => (s₁.heap.get? a = some o ∧ o.data = .func fd) ∧ wpC M A (call (.ref a) vs) Q E s₁) E s)
    (he : starEach (e :: rest) env = (false, eval e env) :: starEach rest env := by rfl) :
    wpC M A (callWith pos (.ref a) [] (backTo pos (starEach (e :: rest) env)) []) Q E s := by
  rw [he] at h ⊢
  generalize hargs : backTo pos ((false, eval e env) :: starEach rest env) = args at h ⊢
  have h' : wpC M A (evalArgs (.ref a) true args []) (fun x s₁ => (s₁.heap.get? a = some o ∧ o.data = .func fd) ∧ wpC M A (call (.ref a) ([] ++ x.pos) x.kw) Q E s₁) E s := by
    subst hargs; exact evalArgsC_plain (by exact h)
  unfold callWith
  refine wpC_bind (wpC_holding (wpC_mono h' (fun x s₁ h₁ => wpC_bind (wpC_standAt ?_)) fun _ _ x => x))
  have tail : ∀ {t : Sem Value}, wpC M A t Q E s₁ → wpC M A (t >>= fun r => holding [r] point >>= fun _ => pure r) Q E s₁ :=
    fun ht => wpC_bind (wpC_mono ht (fun r s₂ hr => wpC_bind (wpC_holding (wpC_point (wpC_pure hr)))) fun _ _ x => x)
  cases hs : args.any (·.1) <;> simp only [List.any_nil, Bool.or_false] <;>
    refine wpC_bind (m := keeperOf (.ref a)) ?_ <;> unfold keeperOf <;>
    refine wpC_bind (wpC_of (wpAny_load h₁.1.1 ?_)) <;> rw [h₁.1.2] <;> refine wpC_pure ?_
  · show wpC M A (if args.length + 2 * ([] : List (Option Str × Sem Value)).length > 30 then _ else _) _ _ _
    by_cases hc : args.length + 2 * ([] : List (Option Str × Sem Value)).length > 30
    · rw [if_pos hc]; exact tail h₁.2
    · rw [if_neg hc]; exact tail (t := callMarked plainCall (Value.ref a) ([] ++ x.pos) x.kw) (by unfold callMarked; exact wpC_keep h₁.2)
  · exact tail (t := callMarked starredCall (Value.ref a) ([] ++ x.pos) x.kw) (by unfold callMarked; exact wpC_keep h₁.2)
theorem argC {pos : Pos} {e : Expr} {rest : List Expr} {Q : List Value → Shared → Prop}
    (h : wpC M A (eval e env) (fun v s₁ => wpC M A (spliced (backTo pos (starEach rest env))) (fun vs s₂ => Q (v :: vs) s₂) E s₁) E s)
    (he : starEach (e :: rest) env = (false, eval e env) :: starEach rest env := by rfl) :
    wpC M A (spliced (backTo pos (starEach (e :: rest) env))) Q E s := by
  rw [he]; exact splicedC_cons h
theorem argC_nil {pos : Pos} {Q : List Value → Shared → Prop} (h : Q [] s) : wpC M A (spliced (backTo pos (starEach [] env))) Q E s := splicedC_nil h
end
section
variable {prog : Program} {w : World} {A : Around} {E : Value → Shared → Prop} {s : Shared} {h₀ : Heap} {L : Addr} {m : Str → Option Value} {news : List (Addr × Obj)}
/-- the store of one octet, with the ledger -/
theorem setBa {a : Addr} {l : List UInt8} {i v : Int} {u t : Tok} (j : Nat) (c : UInt8) {news' : List (Addr × Obj)} {Q : Unit → Shared → Prop} (F : Fr h₀ L s.heap m) (N : Led h₀ L s.heap news) (hu : Upd1 a (baOf l) (baOf (l.set j c)) news news') (hz : l.length ≤ 100000)
    (hi : i = (j : Int)) (hj : j < l.length) (hv : v = iu c)
    (hq : ∀ h', Fr h₀ L h' m → Led h₀ L h' news' → Q () { s with heap := h' }) : wpAny (model prog w) A (setItem (.ref a) (.int i u) (.int v t)) Q E s := by
  have ha := N.get hu.mem
  refine ba_setItem ha (Nat.le_trans hz (by decide)) (fits_small (by lia) (by lia)) (seqIdx hi hj) hv ?_
  have e : (s.heap.update a (Obj.mapBytearray (·.setIfInBounds j c))).get? a = some (baOf (l.set j c)) := by
    rw [Heap.get?_update_self _ ha rfl]; simp [Obj.mapBytearray, baOf]
  obtain ⟨F', N'⟩ := Led.upd F N hu e (Heap.SameBut.update ..)
  exact hq _ F' N'
theorem mkBaInt {i : Int} {tk : Tok} (n : Nat) {Q : Value → Shared → Prop} (F : Fr h₀ L s.heap m) (N : Led h₀ L s.heap news) (hg : A.guards = some []) (hn : i = (n : Int)) (hz : n ≤ 1000000)
    (h : ∀ h' a, Fr h₀ L h' m → Led h₀ L h' ((a, baOf (List.replicate n 0)) :: news) → Q (.ref a) { s with heap := h' }) :
    wpC (model prog w) A (call (.type "bytearray") [.int i tk]) Q E s :=
  ba_ofInt hg hn hz fun h' hs e _ => h h' _ (Fr.stays F hs) (Led.new F N hs (get_size_none _) (size_le F) e)
theorem mkBaList {l : Addr} {vs : List Value} (us : List UInt8) {n : Nat} {Q : Value → Shared → Prop} (F : Fr h₀ L s.heap m) (N : Led h₀ L s.heap news) (hg : A.guards = some [])
    (hl : s.heap.get? l = some { cls := .type "list", data := .seq vs.toArray n }) (hi : IntsAre vs (us.map iu)) (hz : us.length ≤ sizeLine)
    (h : ∀ h' a, s.heap.StaysIn h' → Fr h₀ L h' m → Led h₀ L h' ((a, baOf us) :: news) → Q (.ref a) { s with heap := h' }) :
    wpC (model prog w) A (call (.type "bytearray") [.ref l]) Q E s :=
  ba_ofList hg hl hi hz fun h' hs e _ => h h' _ hs (Fr.stays F hs) (Led.new F N hs (get_size_none _) (size_le F) e)
end
section
variable {M : Model} {A : Around} {E : Value → Shared → Prop} {s : Shared} {env : Env} {h₀ : Heap}
/-- a call of one of the text's defs by position -/
theorem callFn {i : Nat} {dV : Value} {pos : Pos} {a : Addr} {e : Expr} {rest : List Expr} {Q : Value → Shared → Prop} (hf : FnAt h₀ i a dV)
    (h : wpAny M A (spliced (backTo pos (starEach (e :: rest) env))) (fun vs s₁ => h₀.StaysIn s₁.heap ∧ wpAny M A (call (.ref a) vs) Q E s₁) E s)
    (he : starEach (e :: rest) env = (false, eval e env) :: starEach rest env := by rfl) :
    wpAny M A (callWith pos (.ref a) [] (backTo pos (starEach (e :: rest) env)) []) Q E s :=
  let ⟨_, _, _, ho, hd, _⟩ := hf
  callWith_def hd (wpAny_mono h (fun _ _ x => ⟨x.1 _ _ ho, x.2⟩) fun _ _ x => x) he
theorem callFnC {i : Nat} {dV : Value} {pos : Pos} {a : Addr} {e : Expr} {rest : List Expr} {Q : Value → Shared → Prop} (hf : FnAt h₀ i a dV)
    (h : wpC M A (spliced (backTo pos (starEach (e :: rest) env))) (fun vs s₁ => h₀.StaysIn s₁.heap ∧ wpC M A (call (.ref a) vs) Q E s₁) E s)
    (he : starEach (e :: rest) env = (false, eval e env) :: starEach rest env := by rfl) :
    wpC M A (callWith pos (.ref a) [] (backTo pos (starEach (e :: rest) env)) []) Q E s :=
  let ⟨_, _, _, ho, hd, _⟩ := hf
  callWithC_fn (wpC_mono h (fun _ _ x => ⟨⟨x.1 _ _ ho, hd⟩, x.2⟩) fun _ _ x => x) he
end
/- RSF3 -/

noncomputable def fillLog : Nat → Nat → UInt8 → List UInt8 → List UInt8
  | 0, _, _, l => l
  | n + 1, i, x, l => fillLog n (i + 1) (mul2 x) (l.set x.toNat i.toUInt8)
theorem fillLog_all : fillLog 255 0 1 (List.replicate 256 0) = logTab := by decide +kernel

noncomputable abbrev JInit (aE aL : Addr) (t1 t2 : Tok) (i : Nat) (m : Str → Option Value) (news : List (Addr × Obj)) : Prop := ∃ lE lL t4 t5, m "x" = some (.int (iu (alog i)) t4) ∧ m "gf_exp" = some (.ref aE) ∧ m "gf_log" = some (.ref aL) ∧ m "generator" = some (.int 2 t2) ∧ m "prim" = some (.int 285 t1) ∧
    m "field_charac" = some (.int 255 t5) ∧ news = [(aL, baOf lL), (aE, baOf lE)] ∧ lE.length = 510 ∧ lL.length = 256 ∧ fillLog (255 - i) i (alog i) lL = logTab ∧ ∀ k, k < i → lE[k]? = some (alog k)
noncomputable abbrev JIni2 (aE aL : Addr) (t5 : Tok) (i : Nat) (m : Str → Option Value) (news : List (Addr × Obj)) : Prop := ∃ lE, m "gf_exp" = some (.ref aE) ∧ m "gf_log" = some (.ref aL) ∧
      m "field_charac" = some (.int 255 t5) ∧ news = [(aL, baOf logTab), (aE, baOf lE)] ∧ lE.length = 510 ∧ ∀ k, k < 255 + i → lE[k]? = some (alog k)
theorem init_spec {w : World} {A : Around} {R : Result → Shared → Prop} {s : Shared} {mg : Str → Option Value} {a d a7 d7 : Addr} {t1 t2 t3 : Tok} {d1 d2 : Value} {od od7 : Obj} {nd nd7 : Nat}
    (hroom : A.depth + 1 < recursionLimit) (hg : A.guards = some []) (hh : A.handled = none) (hf : FnAt s.heap 4 a (.ref d)) (hd : s.heap.get? d = some od) (hd2 : od.data = .seq #[.int 285 t1, .int 2 t2, .int 8 t3] nd)
    (hf7 : FnAt s.heap 7 a7 (.ref d7)) (hd7 : s.heap.get? d7 = some od7) (hd72 : od7.data = .seq #[d1, d2, .bool true] nd7) (G : Glo mg s.heap)
    (m1 : mg "xrange" = some (.type "range")) (m2 : mg "_bytearray" = some (.type "bytearray")) (m3 : mg "gf_mult_noLUT" = some (.ref a7)) (m4 : mg "int" = none)
    (h : ∀ h' tk r aL aE t n, s.heap.StaysIn h' → h'.get? r = some { cls := .type "list", data := .seq #[.ref aL, .ref aE, .int 255 t] n } → h'.get? aL = some (baOf logTab) → h'.get? aE = some (baOf expL) →
      R (.ok (.ret (.ref r))) { s with heap := h', toks := tk }) :
    codeC (model P w) A (.call (.ref a) ⟨[], []⟩) R s := by
  refine enterC (binds := [("prim", .int 285 t1), ("generator", .int 2 t2), ("c_exp", .int 8 t3)]) (by lia) hf G.nolimit (fun pm cdv => BindsTo.of_defaults rfl hd hd2 rfl rfl) (fun L cdv h₁ F => ?_) (hloc := locs (by rfl))
  refine wpC_mono (E := fun _ _ => False) ?_ (fun _ _ x => x) (fun _ _ x => x.elim)
  have N : Led s.heap L h₁ [] := Led.nil
  refine execsA_cons ?_
  walk_at "go"
  refine execsC_cons (assignC (callNameC ?_))
  walk_at "go"
  refine callWithC_type (argC (wpC_of ?_))
  walk_at "go"
  refine argC_nil (mkBaInt 510 (by assumption) (by assumption) hg (by decide) (by decide) fun h₂ aE F₂ N₂ => ?_)
  walk_at "go"
  refine execsC_cons (assignC (callNameC ?_))
  walk_at "go"
  refine callWithC_type (argC (wpC_of ?_))
  walk_at "go"
  refine argC_nil (mkBaInt 256 (by assumption) (by assumption) hg (by decide) (by decide) fun h₃ aL F₃ N₃ => ?_)
  walk_at "go"
  refine execsA_cons ?_
  walk_at "go"
  refine execsC_cons (forRange (h₀ := s.heap) ?_ hh (by kernel_rfl!) (by kernel_rfl!))
  walk_at "go"
  refine call_range_1 ?_
  refine ⟨_, 0, 255, _, _, _, 255, _, _, JInit aE aL t1 t2,
    rfl, Heap.get?_push_size _ rfl, by decide, rfl, Fr.stays (by assumption) (stays_push _ _), Led.stays (by assumption) (stays_push _ _), ?_, ?_, ?_⟩
  · refine ⟨_, _, _, _, rfl, rfl, rfl, rfl, rfl, rfl, rfl, ?_, ?_, ?_, fun k hk => absurd hk (Nat.not_lt_zero _)⟩
    · exact List.length_replicate
    · exact List.length_replicate
    · exact fillLog_all
  · rintro i t m₁ news₁ I h₅ tk hi ⟨lE, lL, t4, t5, x1, x2, x3, x4, x5, x6, rfl, hl1, hl2, hl3, hl4⟩ F₅ N₅
    refine execsA_cons ?_
    walk_at "go"
    refine setBa i (alog i) F₅ N₅ (.tail (.tail .head)) (by lia) (by lia) (by lia) rfl fun h₆ F₆ N₆ => ?_
    refine execsA_cons ?_
    walk_at "go"
    have hiu : iu i.toUInt8 = (i : Int) := by unfold iu; simp; lia
    refine setBa (alog i).toNat i.toUInt8 F₆ N₆ (.tail .head) (by lia) rfl (by rw [hl2]; exact (alog i).toNat_lt) (by rw [hiu]; lia) fun h₇ F₇ N₇ => ?_
    refine execsA_cons ?_
    walk_at "go"
    refine callFn hf7 ?_
    walk_at "go"
    refine ⟨F₇.keep, noLUT_spec (by show A.depth + 1 < _; lia) (hf7.keeps F₇.keep) (G.keeps F₇.keep) (F₇.keep _ _ hd7) hd72 fun t' h₈ tk' k₈ => ?_⟩
    have F₈ := Fr.stays F₇ k₈
    have N₈ := Led.stays N₇ k₈
    walk_at "go"
    refine execsC_nil ⟨_, _, _, _, rfl, by assumption, by assumption, ?_⟩
    refine ⟨_, _, _, _, rfl, x2, x3, x4, x5, x6, rfl, by simpa using hl1, by simpa using hl2, ?_, ?_⟩
    · have e : 255 - i = (255 - (i + 1)) + 1 := by lia
      rw [e] at hl3
      exact hl3
    · intro k hk
      rw [List.getElem?_set]
      by_cases hki : i = k
      · subst hki; rw [if_pos rfl, if_pos (by lia)]
      · rw [if_neg hki]; exact hl4 k (by lia)
  · rintro h₅ tk m₁ news₁ ⟨lE, lL, t4, t5, x1, x2, x3, x4, x5, x6, rfl, hl1, hl2, hl3, hl4⟩ F₅ N₅
    refine execsC_cons (forRange (h₀ := s.heap) ?_ hh (by kernel_rfl!) (by kernel_rfl!))
    walk_at "go"
    refine call_range_2 ?_
    refine ⟨_, 255, 510, _, _, _, 255, _, _, JIni2 aE aL t5,
      rfl, Heap.get?_push_size _ rfl, by decide, rfl, Fr.stays (by assumption) (stays_push _ _), Led.stays (by assumption) (stays_push _ _), ?_, ?_, ?_⟩
    · have : lL = logTab := hl3
      subst this
      exact ⟨lE, x2, x3, x6, rfl, hl1, hl4⟩
    · rintro i t m₁ news₁ I h₅ tk hi ⟨lE, x2, x3, x6, rfl, hl1, hl4⟩ F₅ N₅
      refine execsA_cons ?_
      walk_at "go"
      refine subBaN i (N₅.get (.tail _ (.tail _ (.head _)))) (by lia) (by lia) (hl4 i (by lia)) (by with_unfolding_all rfl) ?_
      walk_at "go"
      refine setBa (255 + i) (alog i) F₅ N₅ (.tail (.tail .head)) (by lia) (by lia) (by lia) rfl fun h₆ F₆ N₆ => ?_
      refine execsC_nil ⟨_, _, _, _, rfl, by assumption, by assumption, ?_⟩
      refine ⟨_, x2, x3, x6, rfl, by simpa using hl1, ?_⟩
      intro k hk
      rw [List.getElem?_set]
      by_cases hki : 255 + i = k
      · subst hki; rw [if_pos rfl, if_pos (by lia), Nat.add_comm, alog_per]
      · rw [if_neg hki]; exact hl4 k (by lia)
    · rintro h₅ tk m₁ news₁ ⟨lE, x2, x3, x6, rfl, hl1, hl4⟩ F₅ N₅
      have hE : lE = expL := by
        apply List.ext_getElem?
        intro k
        by_cases hk : k < 510
        · rw [hl4 k hk, expL_get hk]
        · rw [List.getElem?_eq_none (by lia), List.getElem?_eq_none (by rw [expL_len]; lia)]
      subst hE
      refine execsA_cons ?_
      walk_at "go"
      unfold newList
      refine wpAny_newObj_type ?_
      refine h _ _ _ aL aE t5 _ (fun b o e => stays_push _ _ _ _ (F₅.keep b o e)) (Heap.get?_push_size _ rfl) (stays_push _ _ _ _ (N₅.get (.head _))) (stays_push _ _ _ _ (N₅.get (.tail _ (.head _))))
/- RSC3 -/
noncomputable abbrev lsO (vs : List Value) (c : Nat) : Obj := { cls := .type "list", data := .seq vs.toArray c }

/-- a call of a def that has cells, its body in the clean logic -/
theorem enterCC {w : World} {A : Around} {s : Shared} {i : Nat} {a : Addr} {dV : Value} {args : List Value} {binds : List (Str × Value)} {R : Result → Shared → Prop}
    (hroom : A.depth < recursionLimit) (hf : FnAt s.heap i a dV) (hl : s.heap.NoLimit) (hbind : ∀ pm cdv, BindsTo s (fdAt i dV pm cdv) ⟨args, []⟩ binds)
    (h : ∀ L cdv h₁ tk cells, Fr s.heap L h₁ (bindL (envOfC (nameAt i) (scopeAt i) L a cdv).kindOf binds fun _ => none) → Led s.heap L h₁ cells →
      CellsAre (bindC (envOfC (nameAt i) (scopeAt i) L a cdv).kindOf binds fun _ => none) (cellsFrom (L + 1) (scopeAt i).names []) cells →
      wpC (model P w) (A.deeper (envOfC (nameAt i) (scopeAt i) L a cdv)) (execs (bodyAt i) (envOfC (nameAt i) (scopeAt i) L a cdv)) (fun f s' => R (.ok (.ret (match f with | .ret v => v | _ => .none))) s')
        (fun e s' => wpC (model P w) (A.deeper (envOfC (nameAt i) (scopeAt i) L a cdv)) (leaving (envOfC (nameAt i) (scopeAt i) L a cdv) e) (fun _ s'' => R (.error e) s'') (fun e' s'' => R (.error e') s'') s')
        { s with heap := h₁, toks := tk })
    (hkind : ∀ x ∈ binds, (scopeAt i).names.lookup x.1 = some .local ∨ ((scopeAt i).names.lookup x.1 = some .cell ∧ ((cellsFrom (s.heap.objs.size + 1) (scopeAt i).names []).lookup x.1).isSome = true))
    (hnd : ((cellsFrom 0 (scopeAt i).names []).map (·.1)).Nodup := by decide +kernel)
    (hco : (scopeAt i).isCoroutine = false := by decide +kernel) (hgen : (scopeAt i).isGenerator = false := by decide +kernel) (hk : (scopeAt i).kind = .function := by decide +kernel) :
    codeC (model P w) A (.call (.ref a) ⟨args, []⟩) R s := by
  obtain ⟨o, pm, cdv, ho, hd, hc⟩ := hf
  refine codeC_call_function (fd := fdAt i dV pm cdv) (body := bodyAt i) hroom ho hd hco hgen rfl hc (wpC_of (hbind pm cdv _ _ _ _ ?_))
  refine wpC_of (wpAny_newFunctionEnv_cells hk hkind fun env he s' x => ?_)
  subst he
  obtain ⟨h₁, tk, rfl⟩ := x.toInCall.same
  refine ⟨hl.keeps x.toInCall.keep, codeC_func ?_⟩
  obtain ⟨cells, N, Y⟩ := Cl.news (h₀ := s.heap) (L := s.heap.objs.size) (h := h₁) (Nat.le_refl _) (cs := cellsFrom (s.heap.objs.size + 1) (scopeAt i).names [])
    fun n c hm => ⟨x.cell n c (lookup_of_mem_nodup (cellsFrom_names (scopeAt i).names 0 (s.heap.objs.size + 1) [] [] rfl ▸ hnd) hm), x.above n c hm⟩
  refine h s.heap.objs.size cdv h₁ tk cells ⟨x.toInCall.ns, x.toInCall.keep, x.toInCall.fresh⟩ ⟨N, ?_⟩ Y
  have key : ∀ {cs : List (Str × Addr)} {cells : List (Addr × Obj)} {cm : Str → Option Value}, CellsAre cm cs cells → cells.map (·.1) = cs.map (·.2) := by
    intro cs cells cm Y
    induction Y with
    | nil => rfl
    | cons _ _ ih => simp [ih]
  rw [key Y]
  exact List.pairwise_map.mpr x.apart

theorem lookup_some_names : ∀ {l l' : List (Str × Addr)} {x : Str}, l.map (·.1) = l'.map (·.1) → (l.lookup x).isSome = (l'.lookup x).isSome
  | [], [], _, _ => rfl
  | [], _ :: _, _, h => by simp at h
  | _ :: _, [], _, h => by simp at h
  | (n, c) :: r, (n', c') :: r', x, h => by
    simp only [List.map_cons, List.cons.injEq] at h
    obtain ⟨rfl, h⟩ := h
    rw [List.lookup_cons, List.lookup_cons]
    cases x == n with
    | true => rfl
    | false => exact lookup_some_names h
theorem kinds_ok {names : List (Str × NameKind)} {binds : List (Str × Value)} (h : (binds.map (·.1)).all (fun x => names.lookup x == some .local || (names.lookup x == some .cell && ((cellsFrom 0 names []).lookup x).isSome)) = true) (n : Nat) :
    ∀ x ∈ binds, names.lookup x.1 = some .local ∨ (names.lookup x.1 = some .cell ∧ ((cellsFrom n names []).lookup x.1).isSome = true) := fun x hx => by
  have := List.all_eq_true.mp h x.1 (List.mem_map.mpr ⟨x, hx, rfl⟩)
  rcases Bool.or_eq_true_iff.mp this with e | e
  · exact .inl (eq_of_beq e)
  · obtain ⟨e1, e2⟩ := Bool.and_eq_true_iff.mp e
    refine .inr ⟨eq_of_beq e1, ?_⟩
    rw [lookup_some_names (cellsFrom_names names n 0 [] [] rfl)]; exact e2
theorem ints_get : ∀ {vs : List Value} {ns : List Int}, IntsAre vs ns → vs.length = ns.length ∧ ∀ (j : Nat) (n : Int), ns[j]? = some n → ∃ t, vs[j]? = some (.int n t) := by
  intro vs ns h
  induction h with
  | nil => exact ⟨rfl, fun j n e => by simp at e⟩
  | @cons n t vs ns h ih =>
    refine ⟨by simp [ih.1], fun j m e => ?_⟩
    cases j with
    | zero => simp at e; subst e; exact ⟨t, rfl⟩
    | succ j => simpa using ih.2 j m (by simpa using e)
theorem ints_of_paired {F : Value → Value → Prop} {p : Value → Bool} {q : Int → Bool} {f : Int → Int} (hF : ∀ n t y, F (.int n t) y → ∃ u, y = .int (f n) u) (hp : ∀ n t, p (.int n t) = q n) :
    ∀ {vs : List Value} {ns : List Int}, IntsAre vs ns → ∀ {ys : List Value}, Paired F (vs.filter p) ys → IntsAre ys ((ns.filter q).map f) := by
  intro vs ns h
  induction h with
  | nil => intro ys x; cases x; exact .nil
  | @cons n t vs ns h ih =>
    intro ys x
    rw [List.filter_cons, hp] at x
    rw [List.filter_cons]
    cases hq : q n with
    | false => rw [hq] at x; simpa using ih (by simpa using x)
    | true =>
      rw [hq] at x
      simp only [if_true] at x ⊢
      cases x with
      | cons hab r =>
        obtain ⟨u, rfl⟩ := hF _ _ _ hab
        exact .cons _ _ (ih r)

noncomputable def tests (cenv : Env) (ifs : List Expr) : Sem Bool := forIn ifs true fun c r => if r = true then do let ok ← isTrue c cenv (eval c cenv); pure (ForInStep.yield ok) else pure (ForInStep.yield r)
theorem tests_nil {prog : Program} {w : World} {A : Around} {E : Value → Shared → Prop} {s : Shared} {cenv : Env} {Q : Bool → Shared → Prop} (h : Q true s) : wpAny (model prog w) A (tests cenv []) Q E s := wpAny_tests_nil h
theorem tests_one {prog : Program} {w : World} {A : Around} {E : Value → Shared → Prop} {s : Shared} {cenv : Env} {c : Expr} {Q : Bool → Shared → Prop} (h : wpAny (model prog w) A (isTrue c cenv (eval c cenv)) Q E s) :
    wpAny (model prog w) A (tests cenv [c]) Q E s := wpAny_tests_one h

section
variable {prog : Program} {w : World} {A : Around} {E : Value → Shared → Prop} {s : Shared} {env : Env} {h₀ : Heap}
noncomputable def ofI (q : Int → Bool) : Value → Bool | .int n _ => q n | _ => false
noncomputable def toI (f : Int → Int) (v y : Value) : Prop := ∀ n t, v = .int n t → ∃ u, y = .int (f n) u

/-- what a comprehension over a range must show: the range's bounds, the tests and the elements -/
structure CompR (prog : Program) (w : World) (A : Around) (env : Env) (scope : Scope) (cl : List (Str × Addr)) (x : Str) (ifs : List Expr) (elt : Expr) (xv : Value) (s₁ : Shared) (a : Int) (n : Nat) (q : Int → Bool) (f : Int → Int) : Prop where
  rng : ∃ r b t u v, xv = .ref r ∧ s₁.heap.get? r = some (rObj a b t u v) ∧ (-1000000 ≤ a ∧ a ≤ 1000000 ∧ -1000000 ≤ b ∧ b ≤ 1000000) ∧ n = (b - a).toNat
  test : ∀ C i t (s₃ : Shared) m', i < n → Fr s₁.heap C s₃.heap m' → m' x = some (.int (a + (i : Nat)) t) →
    wpAny (model prog w) A (tests (compEnvC scope cl C env) ifs) (fun ok s₄ => ok = q (a + (i : Nat)) ∧ Keeps s₃ s₄) (fun _ _ => False) s₃
  elt : ∀ C i t (s₃ : Shared) m', i < n → q (a + (i : Nat)) = true → Fr s₁.heap C s₃.heap m' → m' x = some (.int (a + (i : Nat)) t) →
    wpAny (model prog w) A (eval elt (compEnvC scope cl C env)) (fun y s₄ => (∃ u, y = .int (f (a + (i : Nat))) u) ∧ Keeps s₃ s₄) (fun _ _ => False) s₃

theorem walksR (hh : A.handled = none) (I : Addr) (a : Int) (n : Nat) :
    Walks prog w A I [I] [I] n (fun i v => (∃ t, v = .int (a + (i : Nat)) t) ∧ i < n) (fun i h => h.get? I = some (rIt (a + (i : Nat)) ((n : Int) - (i : Nat)))) := by
  have W := Walks.range (prog := prog) (w := w) hh I a 1 n
  simp only [Int.mul_one] at W
  exact ⟨W.sub, W.frame, fun i s Q E hi hst hQ => W.item i s Q E hi hst fun v h' tk hP => hQ v h' tk ⟨hP, hi⟩, W.done, W.self⟩

theorem CompR.quiet {scope : Scope} {cl : List (Str × Addr)} {x : Str} {ifs : List Expr} {elt : Expr} {xv : Value} {s₁ s₂ : Shared} {a : Int} {n : Nat} {q : Int → Bool} {f : Int → Int} {I : Addr}
    (c : CompR prog w A env scope cl x ifs elt xv s₁ a n q f) (hst : s₁.heap.StaysIn s₂.heap) (hsz : s₁.heap.objs.size ≤ s₂.heap.objs.size) (hI : s₁.heap.get? I = none) :
    QuietOnC prog w A env scope cl x ifs elt [I] (fun i v => (∃ t, v = .int (a + (i : Nat)) t) ∧ i < n) (ofI q) (toI f) s₂ := by
  have fr : ∀ C (s₃ : Shared) m₃, s₂.heap.objs.size ≤ C → s₃.heap.Ns C m₃ → (∀ b o, b ∉ [I] → s₂.heap.get? b = some o → s₃.heap.get? b = some o) → Fr s₁.heap C s₃.heap m₃ := fun C s₃ m₃ hC hn hk =>
    ⟨hn, fun b o e => hk b o (fun hm => by rcases List.mem_cons.mp hm with rfl | hm; (rw [hI] at e; cases e); cases hm) (hst b o e), Nat.le_trans hsz hC⟩
  constructor
  · rintro C i v s₃ m₃ E' hC ⟨⟨t, rfl⟩, hi⟩ hn hm hk _
    exact wpAny_mono (c.test C i t s₃ m₃ hi (fr C s₃ m₃ hC hn hk) hm) (fun _ _ x => x) fun _ _ x => x.elim
  · rintro C i v s₃ m₃ E' hC ⟨⟨t, rfl⟩, hi⟩ hp hn hm hk _
    refine wpAny_mono (c.elt C i t s₃ m₃ hi hp (fr C s₃ m₃ hC hn hk) hm) (fun y s₄ x => ⟨fun n' t' e => ?_, x.2⟩) fun _ _ x => x.elim
    cases e; exact x.1

/-- the walk over the range, put the library's way -/
theorem CompR.go {scope : Scope} {cl : List (Str × Addr)} {x : Str} {ifs : List Expr} {elt : Expr} {xv : Value} {s₁ : Shared} {a : Int} {n : Nat} {q : Int → Bool} {f : Int → Int} {K : Value → Shared → Prop}
    (c : CompR prog w A env scope cl x ifs elt xv s₁ a n q f)
    (h : ∀ I, s₁.heap.get? I = none → s₁.heap.StaysIn (s₁.heap.push (rIt a n)) → (s₁.heap.push (rIt a n)).get? I = some (rIt (a + (0 : Nat)) ((n : Int) - (0 : Nat))) → I < (s₁.heap.push (rIt a n)).objs.size →
      K (.ref I) { s₁ with heap := s₁.heap.push (rIt a n) }) : wpAny (model prog w) A (pyIter xv) K E s₁ := by
  obtain ⟨r, b, t, u, v, rfl, hr, ⟨ha1, ha2, hb1, hb2⟩, hn⟩ := c.rng
  have hsmall : Builtin.Range.small a b 1 = true := small_one (by lia) (by lia) (by lia) (by lia)
  have hsz : Builtin.Range.rangeSize a b 1 = (n : Int) := by
    rw [rangeSize_one, hn]
    split <;> lia
  refine wpAny_pyIter_range hr hsmall ?_
  rw [hsz]
  refine h s₁.heap.objs.size (get_size_none _) (stays_push _ _) ?_ (by rw [Heap.size_push]; exact Nat.lt_succ_self _)
  have : (rIt (a + (0 : Nat)) ((n : Int) - (0 : Nat))) = rIt a n := by simp
  rw [this]; exact Heap.get?_push_size _ rfl
theorem ints_range {vs : List Value} {a : Int} {n : Nat} (hlen : vs.length = n) (hP : ∀ (j : Nat) v, vs[j]? = some v → (∃ t, v = Value.int (a + (j : Nat)) t) ∧ j < n) : IntsAre vs ((List.range n).map fun j : Nat => a + (j : Int)) := by
  refine ints_of_get (by simpa using hlen) fun j v e => ?_
  obtain ⟨⟨t, rfl⟩, hj⟩ := hP j v e
  exact ⟨_, t, by rw [List.getElem?_map, List.getElem?_range hj]; rfl, rfl⟩
theorem ints_done {vs : List Value} {ys : Array Value} {ns : List Int} {q : Int → Bool} {f : Int → Int} (h : IntsAre vs ns) (x : Paired (toI f) (vs.filter (ofI q)) ys.toList) : IntsAre ys.toList ((ns.filter q).map f) :=
  ints_of_paired (F := toI f) (p := ofI q) (fun n t _ hF => hF n t rfl) (fun _ _ => rfl) h x

theorem compR {elt iter : Expr} {x : Str} {px : Pos} {ifs : List Expr} {scope : Scope} {pos : Pos} {Q : Value → Shared → Prop} (cl : List (Str × Addr)) (q : Int → Bool) (f : Int → Int)
    (h : wpAny (model prog w) A (eval iter env) (fun xv s₁ => ∃ a n m news, Fr h₀ env.locals s₁.heap m ∧ Led h₀ env.locals s₁.heap news ∧ n ≤ 100000 ∧ CompR prog w A env scope cl x ifs elt xv s₁ a n q f ∧
      (∀ D h' tk vs c, s₁.heap.StaysIn h' → Fr h₀ env.locals h' m → Led h₀ env.locals h' ((D, lsO vs c) :: news) → IntsAre vs ((((List.range n).map fun j : Nat => a + (j : Int)).filter q).map f) → Q (.ref D) { s₁ with heap := h', toks := tk })) E s)
    (hh : A.handled = none) (hclos : closureFor scope env = pure cl) (hcell : ∀ y ∈ scope.names, y.2 ≠ .cell) (hkind : scope.kind = .function)
    (hnames : ∀ y ∈ scope.names, y.2 = .local → scope.names.lookup y.1 = some .local) (hx : scope.names.lookup x = some .local)
    (hs : ∀ x, foldedSetIterable iter env x = pure x := by intro _; rfl) :
    wpAny (model prog w) A (eval (.ListComp elt [⟨.Name x px, iter, ifs, 0⟩] scope pos) env) Q E s := by
  refine wpAny_ListComp_free (cl := cl) (ofI q) (toI f) hclos hcell hkind hnames hx (wpAny_mono h (fun xv s₁ h₁ => ?_) fun _ _ x => x) hs
  obtain ⟨a, n, m, news, F, N, hn, c, hQ⟩ := h₁
  refine c.go fun I hI hst hit hlt => ⟨I, [I], [I], n, _, _, rfl, walksR hh I a n, Nat.le_trans hn (by decide), hit, fun b hb => ?_, c.quiet hst (by rw [Heap.size_push]; exact Nat.le_succ _) hI, fun D h' tk ys vs hD hl hpl hlen hP hF hk => ?_⟩
  · rcases List.mem_cons.mp hb with rfl | hb
    · exact hlt
    · cases hb
  · obtain ⟨cc, hD'⟩ := hpl
    have stays : s₁.heap.StaysIn h' := fun b o e => hk b o (fun hm => by rcases List.mem_cons.mp hm with rfl | hm; (rw [hI] at e; cases e); cases hm) (hst b o e)
    have hDn : s₁.heap.get? D = none := by
      cases e : s₁.heap.get? D with
      | none => rfl
      | some o => have := hst _ _ e; rw [hD] at this; cases this
    exact hQ D h' tk ys.toList cc stays (Fr.stays F stays) (Led.new' F N stays hDn (by simpa using hD')) (ints_done (ints_range hlen hP) hF)
end
/- RSF4 -/

/-- the ground that the calls stand on: the tables, the names, the functions -/
structure Gs (mg : Str → Option Value) (h : Heap) : Prop where
  glo : Glo mg h
  tabs : Tabs mg h
  xr : mg "xrange" = some (.type "range")
  ba : mg "_bytearray" = some (.type "bytearray")
  len : mg "len" = none
  max : mg "max" = none
  list : mg "list" = none
  range : mg "range" = none
  zip : mg "zip" = none
  enum : mg "enumerate" = none
  f5 : ∃ a, mg "gf_inverse" = some (.ref a) ∧ FnAt h 5 a .none
  f6 : ∃ a, mg "gf_mul" = some (.ref a) ∧ FnAt h 6 a .none
  f8 : ∃ a, mg "gf_poly_scale" = some (.ref a) ∧ FnAt h 8 a .none
  f9 : ∃ a, mg "gf_poly_add" = some (.ref a) ∧ FnAt h 9 a .none
theorem fk {h h' : Heap} {i : Nat} {mg : Str → Option Value} {x : Str} (e : ∃ a, mg x = some (.ref a) ∧ FnAt h i a .none) (k : h.StaysIn h') : ∃ a, mg x = some (.ref a) ∧ FnAt h' i a .none :=
  let ⟨a, q, f⟩ := e; ⟨a, q, f.keeps k⟩
theorem Gs.keeps {mg : Str → Option Value} {h h' : Heap} (G : Gs mg h) (k : h.StaysIn h') : Gs mg h' :=
  ⟨G.glo.keeps k, G.tabs.keeps k, G.xr, G.ba, G.len, G.max, G.list, G.range, G.zip, G.enum, fk G.f5 k, fk G.f6 k, fk G.f8 k, fk G.f9 k⟩

theorem scale_spec {w : World} {A : Around} {R : Result → Shared → Prop} {s : Shared} {mg : Str → Option Value} {a ap : Addr} {l : List UInt8} {c : UInt8} {tc : Tok}
    (hroom : A.depth + 1 < recursionLimit) (hg : A.guards = some []) (hh : A.handled = none) (hf : FnAt s.heap 8 a .none) (G : Gs mg s.heap) (hp : s.heap.get? ap = some (baOf l)) (hl : l.length ≤ 1000)
    (h : ∀ r h' tk, s.heap.StaysIn h' → s.heap.get? r = none → h'.get? r = some (baOf (l.map (gmul · c))) → R (.ok (.ret (.ref r))) { s with heap := h', toks := tk }) :
    codeC (model P w) A (.call (.ref a) ⟨[.ref ap, .int (iu c) tc], []⟩) R s := by
  refine enterCC (binds := [("p", .ref ap), ("x", .int (iu c) tc)]) (by lia) hf G.glo.nolimit (fun pm cdv => BindsTo.of_eq rfl) (fun L cdv h₁ tk cells F N Y => ?_) (kinds_ok (by kernel_rfl!) _)
  refine wpC_mono (E := fun _ _ => False) ?_ (fun _ _ x => x) (fun _ _ x => x.elim)
  obtain ⟨o1, o2, he, d1, d2⟩ := CellsAre.two Y
  subst he
  have hx := N.get (.head _)
  obtain ⟨aG, mG, fG⟩ := G.f6
  have mX := G.xr
  have mB := G.ba
  have mL := G.len
  have GG := G.glo
  refine execsC_cons (returnC (callNameC ?_))
  walk_at "go"
  refine callWithC_type (argC (wpC_of ?_))
  refine compR (h₀ := s.heap) _ (fun _ => true) (fun i => iu (gmul (l.getD i.toNat 0) c)) ?_ hh (by rfl) (by decide +kernel) (by rfl) (by decide +kernel) (by rfl)
  walk_at "go"
  refine ba_len (F.keep _ _ hp) (by lia) ?_
  walk_at "go"
  refine call_range_1 ?_
  have k₁ := stays_push h₁ (rObj 0 l.length (tk + 1 + 1) (tk + 1) (tk + 1 + 1 + 1))
  have F₁ := Fr.stays F k₁
  have hcx : (h₁.push (rObj 0 l.length (tk + 1 + 1) (tk + 1) (tk + 1 + 1 + 1))).IsCell (L + 1 + 1) (some (.int (iu c) tc)) := ⟨_, k₁ _ _ (N.get (.head _)), d1⟩
  have hcp : (h₁.push (rObj 0 l.length (tk + 1 + 1) (tk + 1) (tk + 1 + 1 + 1))).IsCell (L + 1) (some (.ref ap)) := ⟨_, k₁ _ _ (N.get (.tail _ (.head _))), d2⟩
  have hp₁ := F₁.keep _ _ hp
  have G₁ := G.keeps F₁.keep
  have GG₁ := G₁.glo
  refine ⟨0, l.length, _, _, F₁, Led.stays N k₁, by lia, ⟨⟨_, _, _, _, _, rfl, Heap.get?_push_size _ rfl, by lia, by lia⟩, fun C i t s₃ m' hi F' hm => tests_nil ⟨rfl, _, _, rfl, fun _ _ e => e⟩, fun C i t s₃ m' hi _ F' hm => ?_⟩, ?_⟩
  · walk_at "go"
    refine callFn (fG.keeps F₁.keep) ?_
    walk_at "go"
    have ei : ((0 : Int) + (i : Int)).toNat = i := by lia
    have hli : l[i]? = some (l.getD i 0) := by rw [List.getD_eq_getElem?_getD, List.getElem?_eq_getElem hi]; rfl
    refine subBaN i (F'.keep _ _ hp₁) (by lia) (by lia) hli (by with_unfolding_all rfl) ?_
    walk_at "go"
    refine ⟨F'.keep, gf_mul_spec (by show A.depth + 1 < _; lia) (fG.keeps fun b o e => F'.keep b o (F₁.keep b o e)) (GG₁.keeps F'.keep) (G₁.tabs.keeps F'.keep) fun t h' tk k => ?_⟩
    rw [ei]
    exact ⟨⟨_, rfl⟩, _, _, rfl, k⟩
  · intro D h' tk' vs cc k' F' N' hi
    refine argC_nil (mkBaList (l.map (gmul · c)) F' N' hg (N'.get (.head _)) ?_ (by simp; exact Nat.le_trans hl (by decide)) fun h₂ r k₂ F₂ N₂ => ?_)
    · have e : (List.map iu (l.map (gmul · c))) = (List.map (fun i : Int => iu (gmul (l.getD i.toNat 0) c)) (List.filter (fun _ => true) (List.map (fun j : Nat => (0 : Int) + (j : Int)) (List.range l.length)))) := by
        have ft : ∀ (x : List Int), x.filter (fun _ => true) = x := fun x => List.filter_eq_self.mpr (fun _ _ => rfl)
        rw [ft]
        apply List.ext_getElem?
        intro k
        by_cases hk : k < l.length
        · simp [hk]
        · simp [hk]
      rw [e]; exact hi
    · exact h r h₂ _ F₂.keep (N₂.fresh (.head _)) (N₂.get (.head _))
/- RSF5 -/

theorem or_xor_and : ∀ (n x y : Nat), x ≤ n → (x ||| y) = (x ^^^ y) + (x &&& y)
  | 0, x, y, h => by
    have : x = 0 := by lia
    subst this; simp
  | n + 1, x, y, h => by
    by_cases hx : x = 0
    · subst hx; simp
    have ih := or_xor_and n (x / 2) (y / 2) (by lia)
    have h1 : (x ||| y) / 2 = x / 2 ||| y / 2 := Nat.or_div_two
    have h2 : (x ^^^ y) / 2 = x / 2 ^^^ y / 2 := Nat.xor_div_two
    have h3 : (x &&& y) / 2 = x / 2 &&& y / 2 := Nat.and_div_two
    have m1 : (x ||| y) % 2 ^ 1 = x % 2 ^ 1 ||| y % 2 ^ 1 := Nat.or_mod_two_pow
    have m2 : (x ^^^ y) % 2 ^ 1 = x % 2 ^ 1 ^^^ y % 2 ^ 1 := Nat.xor_mod_two_pow
    have m3 : (x &&& y) % 2 ^ 1 = x % 2 ^ 1 &&& y % 2 ^ 1 := Nat.and_mod_two_pow
    simp only [Nat.pow_one] at m1 m2 m3
    have b : (x % 2 ||| y % 2) = (x % 2 ^^^ y % 2) + (x % 2 &&& y % 2) := by
      rcases Nat.mod_two_eq_zero_or_one x with e | e <;> rcases Nat.mod_two_eq_zero_or_one y with e' | e' <;> rw [e, e'] <;> rfl
    lia
theorem bitXor_nat (x y : Nat) : Builtin.bitXor (x : Int) (y : Int) = ((x ^^^ y : Nat) : Int) := by
  have h := or_xor_and x x y (Nat.le_refl _)
  have e1 : Builtin.bitAnd (x : Int) (y : Int) = ((x &&& y : Nat) : Int) := by
    unfold Builtin.bitAnd
    simp
  have e2 : Builtin.bitOr (x : Int) (y : Int) = ((x ||| y : Nat) : Int) := by
    have a1 : ¬ (0 ≤ Builtin.bitNot (x : Int)) := by unfold Builtin.bitNot; lia
    have a2 : ¬ (0 ≤ Builtin.bitNot (y : Int)) := by unfold Builtin.bitNot; lia
    have b1 : (Builtin.bitNot (Builtin.bitNot (x : Int))).toNat = x := by unfold Builtin.bitNot; lia
    have b2 : (Builtin.bitNot (Builtin.bitNot (y : Int))).toNat = y := by unfold Builtin.bitNot; lia
    unfold Builtin.bitOr Builtin.bitAnd
    simp only [a1, a2, decide_false, b1, b2]
    unfold Builtin.bitNot
    lia
  unfold Builtin.bitXor
  rw [e1, e2, h]
  lia
theorem iu_xor (a b : UInt8) : Builtin.bitXor (iu a) (iu b) = iu (a ^^^ b) := by
  unfold iu
  rw [bitXor_nat, UInt8.toNat_xor]

noncomputable def padL (n : Nat) (l : List UInt8) : List UInt8 := List.replicate (n - l.length) 0 ++ l
noncomputable def padd (l k : List UInt8) : List UInt8 := (List.range (max l.length k.length)).map fun j => (padL (max l.length k.length) l).getD j 0 ^^^ (padL (max l.length k.length) k).getD j 0

theorem ba_lenN {prog : Program} {w : World} {A : Around} {E : Value → Shared → Prop} {s : Shared} {a : Addr} {l : List UInt8} {Q : Value → Shared → Prop} (i : Int) (h : s.heap.get? a = some (baOf l)) (hi : (l.length : Int) = i) (hfit : l.length < 1000000)
    (hq : Q (.int i (s.toks + 1)) { s with toks := s.toks + 1 + 1 }) : wpAny (model prog w) A (call (.builtin "len") [.ref a]) Q E s := by
  subst hi; exact ba_len h (by lia) hq

theorem add_spec {w : World} {A : Around} {R : Result → Shared → Prop} {s : Shared} {mg : Str → Option Value} {a ap aq : Addr} {l k : List UInt8}
    (hroom : A.depth + 1 < recursionLimit) (hg : A.guards = some []) (hh : A.handled = none) (hf : FnAt s.heap 9 a .none) (G : Gs mg s.heap) (hp : s.heap.get? ap = some (baOf l)) (hq : s.heap.get? aq = some (baOf k)) (hl : l.length ≤ 1000) (hk : k.length ≤ 1000)
    (h : ∀ r h' tk, s.heap.StaysIn h' → s.heap.get? r = none → h'.get? r = some (baOf (padd l k)) → R (.ok (.ret (.ref r))) { s with heap := h', toks := tk }) :
    codeC (model P w) A (.call (.ref a) ⟨[.ref ap, .ref aq], []⟩) R s := by
  refine enterC (binds := [("p", .ref ap), ("q", .ref aq)]) (by lia) hf G.glo.nolimit (fun pm cdv => BindsTo.of_eq rfl) (fun L cdv h₁ F => ?_) (hloc := locs (by rfl))
  refine wpC_mono (E := fun _ _ => False) ?_ (fun _ _ x => x) (fun _ _ x => x.elim)
  have N : Led s.heap L h₁ [] := Led.nil
  have mX := G.xr
  have mB := G.ba
  have mL := G.len
  have mM := G.max
  have GG := G.glo
  refine execsC_cons (assignC (callNameC ?_))
  walk_at "go"
  refine callWithC_type (argC (wpC_of ?_))
  walk_at "go"
  refine ba_len (F.keep _ _ hp) (by lia) ?_
  walk_at "go"
  refine ba_len (F.keep _ _ hq) (by lia) ?_
  walk_at "go"
  refine max_two_ints hh (fun h₂ tk₂ k₂ => ?_)
  have hmax : ∀ (t u : Tok), ∃ tm, (if (k.length : Int) > (l.length : Int) then Value.int k.length u else Value.int l.length t) = Value.int ((max l.length k.length : Nat) : Int) tm := fun t u => by
    by_cases hc : (k.length : Int) > (l.length : Int)
    · rw [if_pos hc]; exact ⟨u, by congr 1; lia⟩
    · rw [if_neg hc]; exact ⟨t, by congr 1; lia⟩
  obtain ⟨tm, em⟩ := hmax (s.toks + [((Str.ofString "p"), Value.ref ap), ((Str.ofString "q"), Value.ref aq)].length + 1) (s.toks + [((Str.ofString "p"), Value.ref ap), ((Str.ofString "q"), Value.ref aq)].length + 1 + 1 + 1)
  rw [em]
  have hnL : l.length ≤ max l.length k.length := Nat.le_max_left _ _
  have hnK : k.length ≤ max l.length k.length := Nat.le_max_right _ _
  have hn : max l.length k.length ≤ 1000 := Nat.max_le.mpr ⟨hl, hk⟩
  generalize hN : max l.length k.length = n at em hnL hnK hn ⊢
  have F₂ := Fr.stays F k₂
  have N₂ := Led.stays N k₂
  refine argC_nil (mkBaInt n F₂ N₂ hg rfl (by lia) fun h₃ r F₃ N₃ => ?_)
  walk_at "go"
  rename_i h₄ F₄ N₄
  refine execsA_cons ?_
  walk_at "go"
  refine ba_lenN n (N₄.get (.head _)) (by simp) (by simp; lia) ?_
  walk_at "go"
  refine ba_lenN l.length (F₄.keep _ _ hp) rfl (by lia) ?_
  walk_at "go"
  refine ba_lenN n (N₄.get (.head _)) (by simp) (by simp; lia) ?_
  walk_at "go"
  dsimp only
  have hrp : r ≠ ap := fun e => by have := N₄.fresh (.head _); rw [e, hp] at this; cases this
  refine ba_setSlice (j := n - l.length) (stays_push _ _ _ _ (N₄.get (.head _))) (stays_push _ _ _ _ (F₄.keep _ _ hp)) hrp (Heap.get?_push_size _ rfl) (by lia) (by simp) (by simp; lia) (by simp; exact Nat.le_trans hn (by decide)) fun h₅ e₅ hs₅ => ?_
  obtain ⟨F₅, N₅⟩ := Led.upd (Fr.stays F₄ (stays_push _ _)) (Led.stays N₄ (stays_push _ _)) .head e₅ hs₅
  have epad : (List.replicate n (0 : UInt8)).take (n - l.length) ++ l = padL n l := by
    unfold padL; rw [List.take_replicate]; congr 2; lia
  rw [epad] at N₅
  refine execsC_cons (forRange (h₀ := s.heap) ?_ hh (by kernel_rfl!) (by kernel_rfl!))
  walk_at "go"
  refine ba_lenN k.length (F₅.keep _ _ hq) rfl (by lia) ?_
  walk_at "go"
  refine call_range_1 ?_
  refine ⟨_, 0, k.length, _, _, _, k.length, _, _, fun i m news => m "r" = some (.ref r) ∧ m "q" = some (.ref aq) ∧
    news = [(r, baOf ((List.range n).map fun j => (padL n l).getD j 0 ^^^ (if j < n - k.length + i then (padL n k).getD j 0 else 0)))],
    rfl, Heap.get?_push_size _ rfl, by lia, by lia, Fr.stays F₅ (stays_push _ _), Led.stays N₅ (stays_push _ _), ?_, ?_, ?_⟩
  · refine ⟨rfl, rfl, ?_⟩
    congr 3
    have hlp : (padL n l).length = n := by unfold padL; simp; lia
    apply List.ext_getElem?
    intro j
    by_cases hj : j < n
    · have h0 : (if j < n - k.length + 0 then (padL n k).getD j 0 else 0) = 0 := by
        by_cases hc : j < n - k.length + 0
        · rw [if_pos hc]; unfold padL; rw [List.getD_eq_getElem?_getD, List.getElem?_append_left (by simp; lia), List.getElem?_replicate]; split <;> rfl
        · rw [if_neg hc]
      rw [List.getElem?_map, List.getElem?_range hj, Option.map_some, h0, UInt8.xor_zero, List.getD_eq_getElem?_getD, List.getElem?_eq_getElem (by lia)]
      rfl
    · rw [List.getElem?_eq_none (by lia), List.getElem?_eq_none (by simp; lia)]
  · rintro i t m₁ news₁ I h₆ tk₆ hi ⟨x1, x2, rfl⟩ F₆ N₆
    refine execsA_cons ?_
    walk_at "go"
    refine ba_lenN n (N₆.get (.tail _ (.head _))) (by simp) (by simp; lia) ?_
    walk_at "go"
    refine ba_lenN k.length (F₆.keep _ _ hq) rfl (by lia) ?_
    walk_at "go"
    have hjn : n - k.length + i < n := by lia
    have hg₆ := N₆.get (.tail _ (.head _))
    refine ba_getItem (j := n - k.length + i) hg₆ (fits_small (by lia) (by lia)) (seqIdx (by lia) (by rw [List.length_map, List.length_range]; exact hjn)) (by rw [List.getElem?_map, List.getElem?_range hjn]; rfl) ?_
    walk_at "go"
    have hki : k[i]? = some (k.getD i 0) := by rw [List.getD_eq_getElem?_getD, List.getElem?_eq_getElem hi]; rfl
    refine subBaN i (F₆.keep _ _ hq) (by lia) (by lia) hki (by with_unfolding_all rfl) ?_
    walk_at "go"
    rw [iu_xor]
    refine setBa (n - k.length + i) _ F₆ N₆ (.tail .head) (by rw [List.length_map, List.length_range]; lia) (by lia) (by rw [List.length_map, List.length_range]; lia) rfl fun h₇ F₇ N₇ => ?_
    refine execsC_nil ⟨_, _, _, _, rfl, by assumption, by assumption, ?_⟩
    refine ⟨x1, x2, ?_⟩
    congr 3
    apply List.ext_getElem?
    intro j
    rw [List.getElem?_set]
    by_cases hjj : n - k.length + i = j
    · subst hjj
      rw [if_pos rfl, if_pos (by simp; lia), List.getElem?_map, List.getElem?_range hjn, Option.map_some]
      dsimp only
      rw [if_neg (by lia), if_pos (by lia), UInt8.xor_zero]
      have : (padL n k).getD (n - k.length + i) 0 = k.getD i 0 := by
        unfold padL
        rw [List.getD_eq_getElem?_getD, List.getElem?_append_right (by simp), List.getD_eq_getElem?_getD]
        congr 2
        simp
      rw [this]
    · rw [if_neg hjj]
      by_cases hj : j < n
      · rw [List.getElem?_map, List.getElem?_map, List.getElem?_range hj, Option.map_some, Option.map_some]
        have : (j < n - k.length + i) ↔ (j < n - k.length + (i + 1)) := by lia
        simp only [this]
      · rw [List.getElem?_eq_none (by simp; lia), List.getElem?_eq_none (by simp; lia)]
  · rintro h₆ tk₆ m₁ news₁ ⟨x1, x2, rfl⟩ F₆ N₆
    refine execsA_cons ?_
    walk_at "go"
    refine h r h₆ _ F₆.keep (N₆.fresh (.head _)) ?_
    have e := N₆.get (.head _)
    rw [e]
    congr 2
    unfold padd
    rw [hN]
    apply List.map_congr_left
    intro j hj
    rw [List.mem_range] at hj
    rw [if_pos (by lia)]
/- RSW3 -/
theorem Led.subl {h₀ h : Heap} {L : Addr} {news news' : List (Addr × Obj)} (N : Led h₀ L h news) (hs : news'.Sublist news) : Led h₀ L h news' :=
  ⟨fun p hp => N.n p (hs.subset hp), (hs.map _).nodup N.nd⟩
section
variable {prog : Program} {w : World} {A : Around} {E : Value → Shared → Prop} {s : Shared} {h₀ : Heap} {L a : Addr} {m : Str → Option Value} {news : List (Addr × Obj)} {vs : List Value} {c : Nat}
theorem isL (h : s.heap.get? a = some (lsO vs c)) : s.heap.IsList a vs.toArray := ⟨_, h, rfl, c, rfl⟩
theorem lenL {Q : Value → Shared → Prop} (i : Int) (h : s.heap.get? a = some (lsO vs c)) (hi : (vs.length : Int) = i) (hz : vs.length ≤ 1000000)
    (hq : Q (.int i (s.toks + 1)) { s with toks := s.toks + 1 + 1 }) : wpAny (model prog w) A (call (.builtin "len") [.ref a]) Q E s := by
  subst hi
  have := call_len_list (prog := prog) (w := w) (A := A) (E := E) (Q := Q) (isL h) (by rw [List.size_toArray]; lia)
  rw [List.size_toArray] at this
  exact this hq
theorem mkListL {Q : Value → Shared → Prop}
    (F : Fr h₀ L s.heap m) (N : Led h₀ L s.heap news) (hz : vs.length ≤ 100000)
    (h : ∀ h' a, s.heap.StaysIn h' → Fr h₀ L h' m → Led h₀ L h' ((a, lsO vs 0) :: news) → Q (.ref a) { s with heap := h' }) : wpAny (model prog w) A (newList vs) Q E s := by
  unfold newList
  exact wpAny_newObj_type (h _ _ (stays_push _ _) (Fr.stays F (stays_push _ _)) (Led.push F N (lsO vs 0))) (by show vs.toArray.size ≤ sizeLine; rw [List.size_toArray]; exact Nat.le_trans hz (by decide))
theorem getL {Q : Value → Shared → Prop} {i : Int} {u : Tok} {x : Value} (j : Nat) (h : s.heap.get? a = some (lsO vs c)) (hi : i = (j : Int)) (hb : vs.length ≤ 1000000) (hx : vs[j]? = some x) (hq : Q x s) :
    wpAny (model prog w) A (getItem (.ref a) (.int i u)) Q E s := by
  obtain ⟨hj, _⟩ := List.getElem?_eq_some_iff.mp hx
  refine wpAny_getItem_list (isL h) (by lia) (by lia) (x := x) ?_ hq
  rw [hi, Int.toNat_natCast]; simpa using hx
theorem getLneg {Q : Value → Shared → Prop} {i : Int} {u : Tok} {x : Value} (j : Nat) (h : s.heap.get? a = some (lsO vs c)) (hi : i = (j : Int) - (vs.length : Int)) (hb : vs.length ≤ 1000000) (hx : vs[j]? = some x) (hq : Q x s) :
    wpAny (model prog w) A (getItem (.ref a) (.int i u)) Q E s := by
  obtain ⟨hj, _⟩ := List.getElem?_eq_some_iff.mp hx
  refine wpAny_getItem_list_neg (isL h) (by lia) (by simp; lia) (by lia) (x := x) ?_ hq
  have e : (i + (vs.toArray.size : Int)).toNat = j := by rw [List.size_toArray]; lia
  rw [e]; simpa using hx
theorem setL0 {Q : Unit → Shared → Prop} {i : Int} {u : Tok} {x : Value} (j : Nat) (h : s.heap.get? a = some (lsO vs c)) (hi : i = (j : Int)) (hj : j < vs.length) (hb : vs.length ≤ 1000000)
    (hq : Q () { s with heap := s.heap.update a (Obj.mapSeq (·.setIfInBounds j x)) }) : wpAny (model prog w) A (setItem (.ref a) (.int i u) x) Q E s := by
  have hl := isL h
  unfold setItem
  try with_reducible refine wpAny_holding ?_
  first | refine wpAny_bind (wpAny_pure ?_) | skip
  refine wpAny_bind (wpAny_sequenceKey hl.typeIs (by decide) ?_)
  refine wpAny_bind (wpAny_callSpecial?_slot (name := Str.ofString "__setitem__") hl.typeIs slot_list_setitem
    (wpAny_call_entry slot_list_setitem hl.typeIs entry_list_setitem ?_ (args_list_setitem _ _ _)))
  show wpAny _ _ (Builtin.List.listSubscript? (.int i u) >>= _) _ _ s
  refine wpAny_bind (wpAny_listSubscript_int (fitsIndex_of (by lia) (by lia)) ?_)
  clear hb
  subst hi
  have hx' : vs.toArray[j]? = some vs[j] := by simp [hj]
  show wpAny _ _ ((seqItemAt a j >>= fun r => pure (r.map (j, ·))) >>= _) _ _ s
  refine wpAny_bind (wpAny_bind (wpAny_seqItemAt h rfl (wpAny_pure ?_)))
  rw [hx']
  show wpAny _ _ (setSeqItemAt a j x >>= _) _ _ s
  refine wpAny_bind (wpAny_setSeqItemAt h rfl ?_)
  first
    | exact wpAny_bind (wpAny_pure (wpAny_pure ⟨.none, rfl, wpAny_pure hq⟩))
    | exact wpAny_pure ⟨.none, rfl, wpAny_pure hq⟩
theorem setL {Q : Unit → Shared → Prop} {i : Int} {u : Tok} {x : Value} (j : Nat) {news' : List (Addr × Obj)} (F : Fr h₀ L s.heap m) (N : Led h₀ L s.heap news) (hu : Upd1 a (lsO vs c) (lsO (vs.set j x) c) news news')
    (hi : i = (j : Int)) (hj : j < vs.length) (hb : vs.length ≤ 1000000)
    (hq : ∀ h', Fr h₀ L h' m → Led h₀ L h' news' → Q () { s with heap := h' }) : wpAny (model prog w) A (setItem (.ref a) (.int i u) x) Q E s := by
  have ha := N.get hu.mem
  refine setL0 j ha hi hj hb ?_
  have e : (s.heap.update a (Obj.mapSeq (·.setIfInBounds j x))).get? a = some (lsO (vs.set j x) c) := by
    rw [Heap.get?_update_self _ ha rfl]; simp [Obj.mapSeq]
  obtain ⟨F', N'⟩ := Led.upd F N hu e (Heap.SameBut.update ..)
  exact hq _ F' N'
theorem appL {pos : Pos} {Q : Value → Shared → Prop} {x : Sem Value}
    (h : wpAny (model prog w) A x (fun v s₁ => ∃ vs c h₀ L m news news', Fr h₀ L s₁.heap m ∧ Led h₀ L s₁.heap news ∧ Upd1 a (lsO vs c) (lsO (vs ++ [v]) (c + 1)) news news' ∧ vs.length ≤ 100000 ∧
      ∀ h', Fr h₀ L h' m → Led h₀ L h' news' → Q .none { s₁ with heap := h' }) E s) :
    wpAny (model prog w) A (callWith pos (.builtin "list.append") [.ref a] [(false, x)] []) Q E s := by
  refine P.append_list (wpAny_mono h (fun v s₁ h₁ => ?_) fun _ _ e => e)
  obtain ⟨vs, c, h₀, L, m, news, news', F, N, hu, hz, hq⟩ := h₁
  have ha := N.get hu.mem
  refine ⟨vs.toArray, c, by rw [List.size_toArray]; exact Nat.le_trans hz (by decide), ha, ?_⟩
  have e : (s₁.heap.update a (Obj.mapSeq (fun xs => xs.push v))).get? a = some (lsO (vs ++ [v]) (c + 1)) := by
    rw [Heap.get?_update_self _ ha rfl]; simp [Obj.mapSeq]
  obtain ⟨F', N'⟩ := Led.upd F N hu e (Heap.SameBut.update ..)
  exact hq _ F' N'
theorem popL {pos : Pos} {Q : Value → Shared → Prop} {x : Sem Value}
    (h : wpAny (model prog w) A x (fun v s₁ => ∃ y ys c u h₀ L m news news', v = .int 0 u ∧ Fr h₀ L s₁.heap m ∧ Led h₀ L s₁.heap news ∧ Upd1 a (lsO (y :: ys) c) (lsO ys (c + 1)) news news' ∧ ys.length ≤ 100000 ∧
      ∀ h', Fr h₀ L h' m → Led h₀ L h' news' → Q y { s₁ with heap := h' }) E s) :
    wpAny (model prog w) A (callWith pos (.builtin "list.pop") [.ref a] [(false, x)] []) Q E s := by
  refine P.pop_at_list (wpAny_mono h (fun v s₁ h₁ => ?_) fun _ _ e => e)
  obtain ⟨y, ys, c, u, h₀, L, m, news, news', rfl, F, N, hu, hz, hq⟩ := h₁
  have ha := N.get hu.mem
  refine ⟨(y :: ys).toArray, c, 0, u, 0, y, by simp; exact Nat.le_trans (Nat.succ_le_succ hz) (by decide), rfl, ha, by decide, seqIdx rfl (by simp), by simp, ?_⟩
  have e : (s₁.heap.update a (Obj.mapSeq (fun xs => xs.eraseIdxIfInBounds 0))).get? a = some (lsO ys (c + 1)) := by
    rw [Heap.get?_update_self _ ha rfl]; simp [Obj.mapSeq]
  obtain ⟨F', N'⟩ := Led.upd F N hu e (Heap.SameBut.update ..)
  exact hq _ F' N'
theorem subL {value slice : Expr} {Q : Value → Shared → Prop} {i : Int} {u : Tok} {x : Value} (j : Nat) (h : s.heap.get? a = some (lsO vs c)) (hi : i = (j : Int)) (hb : vs.length ≤ 1000000) (hx : vs[j]? = some x)
    (hs : subscripted slice false (.ref a) (.int i u) = operate [.ref a, .int i u] (getItem (.ref a) (.int i u))) (hq : Q x s) : wpAny (model prog w) A (subscriptTail value slice (.ref a) (.int i u)) Q E s :=
  tail_any (T := "list") (isL h).typeIs F.slot_list_getitem.lookup (getL j h hi hb hx hq) hs
theorem subLneg {value slice : Expr} {Q : Value → Shared → Prop} {i : Int} {u : Tok} {x : Value} (j : Nat) (h : s.heap.get? a = some (lsO vs c)) (hi : i = (j : Int) - (vs.length : Int)) (hb : vs.length ≤ 1000000) (hx : vs[j]? = some x)
    (hs : subscripted slice false (.ref a) (.int i u) = operate [.ref a, .int i u] (getItem (.ref a) (.int i u))) (hq : Q x s) : wpAny (model prog w) A (subscriptTail value slice (.ref a) (.int i u)) Q E s :=
  tail_any (T := "list") (isL h).typeIs F.slot_list_getitem.lookup (getLneg j h hi hb hx hq) hs
end
/- RSF6 -/

/-! Berlekamp and Massey's steps, in plain Lean -/
noncomputable def dsum (S : Nat → UInt8) (i : Nat) (err : List UInt8) : Nat → UInt8
  | 0 => S i
  | j + 1 => dsum S i err j ^^^ gmul (err.getD (err.length - 2 - j) 0) (S (i - (j + 1)))
noncomputable def delta (S : Nat → UInt8) (i : Nat) (err : List UInt8) : UInt8 := dsum S i err (err.length - 1)
noncomputable def bmStep (S : Nat → UInt8) (i : Nat) (p : List UInt8 × List UInt8) : List UInt8 × List UInt8 :=
  let d := delta S i p.1
  let old := p.2 ++ [0]
  if d = 0 then (p.1, old)
  else if p.1.length < old.length then (padd (old.map (gmul · d)) ((p.1.map (gmul · (ginv d))).map (gmul · d)), p.1.map (gmul · (ginv d)))
  else (padd p.1 (old.map (gmul · d)), old)
noncomputable def bm (S : Nat → UInt8) : Nat → List UInt8 × List UInt8
  | 0 => ([1], [1])
  | i + 1 => bmStep S i (bm S i)
noncomputable def bmOut (S : Nat → UInt8) (n : Nat) : List UInt8 := (bm S n).1.dropWhile (· == 0)

theorem padd_len (l k : List UInt8) : (padd l k).length = max l.length k.length := by unfold padd; simp
theorem bmStep_len (S : Nat → UInt8) (i : Nat) (p : List UInt8 × List UInt8) (h : 1 ≤ p.1.length ∧ p.1.length ≤ i + 1 ∧ 1 ≤ p.2.length ∧ p.2.length ≤ i + 1) :
    1 ≤ (bmStep S i p).1.length ∧ (bmStep S i p).1.length ≤ i + 2 ∧ 1 ≤ (bmStep S i p).2.length ∧ (bmStep S i p).2.length ≤ i + 2 := by
  unfold bmStep
  dsimp only
  split
  · simp only [List.length_append, List.length_cons, List.length_nil]; lia
  · split
    · simp only [padd_len, List.length_map, List.length_append, List.length_cons, List.length_nil]; lia
    · simp only [padd_len, List.length_map, List.length_append, List.length_cons, List.length_nil]; lia
theorem bm_len (S : Nat → UInt8) : ∀ i, 1 ≤ (bm S i).1.length ∧ (bm S i).1.length ≤ i + 1 ∧ 1 ≤ (bm S i).2.length ∧ (bm S i).2.length ≤ i + 1
  | 0 => ⟨Nat.le_refl _, Nat.le_refl _, Nat.le_refl _, Nat.le_refl _⟩
  | i + 1 => bmStep_len S i (bm S i) (bm_len S i)

noncomputable def forBody (s : Option Stmt) : List Stmt := match s with | some (Stmt.For _ _ b _ _) => b | _ => []
noncomputable def ifBody (s : Option Stmt) : List Stmt := match s with | some (Stmt.If _ b _ _) => b | _ => []
noncomputable def loopBody : List Stmt := forBody ((bodyAt 10)[3]?)

theorem subBaNeg {w : World} {A : Around} {E : Value → Shared → Prop} {s : Shared} {a : Addr} {l : List UInt8} {value slice : Expr} {Q : Value → Shared → Prop} {i : Int} {u : Tok} (j : Nat) {c : UInt8} (h : s.heap.get? a = some (baOf l)) (hi : i = (j : Int) - (l.length : Int)) (hb : l.length ≤ 1000000) (hc : l[j]? = some c)
    (hs : subscripted slice false (.ref a) (.int i u) = operate [.ref a, .int i u] (getItem (.ref a) (.int i u)))
    (hq : Q (.int (iu c) s.toks) { s with toks := s.toks + 1 }) : wpAny (model P w) A (subscriptTail value slice (.ref a) (.int i u)) Q E s := by
  obtain ⟨hj, _⟩ := List.getElem?_eq_some_iff.mp hc
  exact subBa h (fits_small (by lia) (by lia)) (seqIdxNeg hi hj) hc hs hq
theorem ldL {M : Model} {A : Around} {E : Value → Shared → Prop} {s : Shared} {h₀ : Heap} {m : Str → Option Value} {x : Str} {Q : Value → Shared → Prop} {env : Env} {v : Value} (F : Fr h₀ env.locals s.heap m) (hl : (env.scope.names.lookup x == some NameKind.local) = true) (hk : (env.scope.kind == .function) = true) (hv : m x = some v) (h : Q v s) :
    wpAny M A (loadName env x) Q E s := wpAny_loadName_local (eq_of_beq hk) (eq_of_beq hl) F.ns hv h
theorem getD_some {l : List UInt8} {j : Nat} (h : j < l.length) : l[j]? = some (l.getD j 0) := by
  rw [List.getD_eq_getElem?_getD, List.getElem?_eq_getElem h]; rfl

theorem Led.swap {h₀ h : Heap} {L : Addr} {p q : Addr × Obj} {news : List (Addr × Obj)} (N : Led h₀ L h (p :: q :: news)) : Led h₀ L h (q :: p :: news) :=
  N.sub (fun x hx => by simp at hx ⊢; rcases hx with h | h | h <;> simp [h]) (by have := N.nd; simp [not_or] at this ⊢; exact ⟨⟨fun e => this.1.1 e.symm, this.2.1⟩, this.1.2, this.2.2⟩)
section
variable {w : World} {A : Around} {E : Value → Shared → Prop} {s : Shared} {mg : Str → Option Value} {h₀ : Heap} {L a ap aq : Addr} {m : Str → Option Value} {news : List (Addr × Obj)} {l k : List UInt8} {c : UInt8} {tc : Tok} {Q : Value → Shared → Prop}
theorem addBaL (F : Fr h₀ L s.heap m) (N : Led h₀ L s.heap news) (hp : s.heap.get? ap = some (baOf l)) (hq : s.heap.get? aq = some (baOf k)) (hz : l.length + k.length ≤ 100000)
    (h : ∀ h' r, Fr h₀ L h' m → Led h₀ L h' ((r, baOf (l ++ k)) :: news) → Q (.ref r) { s with heap := h' }) : wpAny (model P w) A (binaryOp .Add (.ref ap) (.ref aq)) Q E s :=
  ba_add hp hq (Nat.le_trans hz (by decide)) (h _ _ (Fr.stays F (stays_push _ _)) (Led.push F N _))
theorem scaleL (F : Fr h₀ L s.heap m) (N : Led h₀ L s.heap news) (hroom : A.depth + 1 < recursionLimit) (hg : A.guards = some []) (hh : A.handled = none) (hf : FnAt h₀ 8 a .none) (G : Gs mg h₀) (hp : s.heap.get? ap = some (baOf l)) (hl : l.length ≤ 1000)
    (h : ∀ h' r tk, Fr h₀ L h' m → Led h₀ L h' ((r, baOf (l.map (gmul · c))) :: news) → Q (.ref r) { s with heap := h', toks := tk }) :
    wpC (model P w) A (call (.ref a) [.ref ap, .int (iu c) tc]) Q E s :=
  wpC_call (scale_spec hroom hg hh (hf.keeps F.keep) (G.keeps F.keep) hp hl fun r h' tk k hr e => h h' r tk (Fr.stays F k) (Led.new' F N k hr e))
theorem addL (F : Fr h₀ L s.heap m) (N : Led h₀ L s.heap news) (hroom : A.depth + 1 < recursionLimit) (hg : A.guards = some []) (hh : A.handled = none) (hf : FnAt h₀ 9 a .none) (G : Gs mg h₀) (hp : s.heap.get? ap = some (baOf l)) (hq : s.heap.get? aq = some (baOf k)) (hl : l.length ≤ 1000) (hk : k.length ≤ 1000)
    (h : ∀ h' r tk, Fr h₀ L h' m → Led h₀ L h' ((r, baOf (padd l k)) :: news) → Q (.ref r) { s with heap := h', toks := tk }) :
    wpC (model P w) A (call (.ref a) [.ref ap, .ref aq]) Q E s :=
  wpC_call (add_spec hroom hg hh (hf.keeps F.keep) (G.keeps F.keep) hp hq hl hk fun r h' tk kk hr e => h h' r tk (Fr.stays F kk) (Led.new' F N kk hr e))
end

theorem find_turn {w : World} {A : Around} {s : Shared} {mg : Str → Option Value} {a aS aO aE : Addr} {vs : List Value} {c : Nat} {n sh : Nat} {S : Nat → UInt8} {h₀ : Heap} {L : Addr} {cdv : Value} {m : Str → Option Value} {pI : Addr × Obj} {i : Nat} {iv : Int} {ti ts : Tok} {shv : Int} {err old : List UInt8} {Q : Flow → Shared → Prop}
    (hroom : A.depth + 2 < recursionLimit) (hg : A.guards = some []) (hh : A.handled = none) (G : Gs mg h₀)
    (hS : h₀.get? aS = some (lsO vs c)) (hlen : vs.length = n + sh) (hvs : ∀ j, j < n → ∃ t, vs[j + sh]? = some (.int (iu (S j)) t)) (hn : n ≤ 100) (hsh : sh ≤ 100) (hi : i < n)
    (F : Fr h₀ L s.heap m) (N : Led h₀ L s.heap [pI, (aO, baOf old), (aE, baOf err)])
    (x1 : m "synd" = some (.ref aS)) (x2 : m "synd_shift" = some (.int shv ts)) (x3 : m "erase_loc" = some .none) (x4 : m "err_loc" = some (.ref aE)) (x5 : m "old_loc" = some (.ref aO)) (x6 : m "i" = some (.int iv ti))
    (hiv : iv = (i : Int)) (hshv : shv = (sh : Int)) (hl : 1 ≤ err.length ∧ err.length ≤ i + 1 ∧ 1 ≤ old.length ∧ old.length ≤ i + 1)
    (hQ : ∀ h' tk m' aO' aE', Fr h₀ L h' m' → Led h₀ L h' [pI, (aO', baOf (bmStep S i (err, old)).2), (aE', baOf (bmStep S i (err, old)).1)] →
      (∀ y : Str, y ≠ "K" → y ≠ "delta" → y ≠ "j" → y ≠ "old_loc" → y ≠ "new_loc" → y ≠ "err_loc" → m' y = m y) → m' "err_loc" = some (.ref aE') → m' "old_loc" = some (.ref aO') → Q .next { s with heap := h', toks := tk }) :
    wpC (model P w) (A.deeper (envOf (nameAt 10) (scopeAt 10) L a cdv)) (execs loopBody (envOf (nameAt 10) (scopeAt 10) L a cdv)) Q (fun _ _ => False) s := by
  have mX := G.xr
  have mB := G.ba
  have mL := G.len
  have GG := G.glo
  obtain ⟨a5, m5, f5⟩ := G.f5
  obtain ⟨a6, m6, f6⟩ := G.f6
  obtain ⟨a8, m8, f8⟩ := G.f8
  obtain ⟨a9, m9, f9⟩ := G.f9
  refine execsA_cons ?_
  walk_at "go"
  rename_i h₂ F₂ N₂
  refine execsA_cons ?_
  walk_at "go"
  obtain ⟨tv, hv⟩ := hvs i hi
  refine subL (i + sh) (F₂.keep _ _ hS) (by lia) (by lia) hv (by with_unfolding_all rfl) ?_
  walk_at "go"
  rename_i h₃ F₃ N₃
  refine execsC_cons (forRange (h₀ := h₀) ?_ hh (by kernel_rfl!) (by kernel_rfl!))
  walk_at "go"
  refine ba_lenN err.length (N₃.get (.tail _ (.tail _ (.head _)))) rfl (by lia) ?_
  walk_at "go"
  refine call_range_2 ?_
  refine ⟨_, 1, err.length, _, _, _, err.length - 1, _, _, fun j m' news => (∃ t, m' "delta" = some (.int (iu (dsum S i err j)) t)) ∧ (∃ t, m' "K" = some (.int (iv + shv) t)) ∧ (∀ y : Str, y ≠ "K" → y ≠ "delta" → y ≠ "j" → m' y = m y) ∧
    news = [pI, (aO, baOf old), (aE, baOf err)],
    rfl, Heap.get?_push_size _ rfl, by lia, by lia, Fr.stays F₃ (stays_push _ _), Led.stays N₃ (stays_push _ _), ?_, ?_, ?_⟩
  · refine ⟨⟨_, rfl⟩, ⟨_, rfl⟩, fun y h1 h2 h3 => ?_, rfl⟩
    dsimp only
    rw [if_neg h2, if_neg h1]
  · rintro j t m₁ news₁ I h₄ tk₄ hj ⟨⟨t4, y1⟩, ⟨t5, y2⟩, yr, rfl⟩ F₄ N₄
    have y3 : m₁ "err_loc" = some (.ref aE) := (yr _ (by decide) (by decide) (by decide)).trans x4
    have y4 : m₁ "synd" = some (.ref aS) := (yr _ (by decide) (by decide) (by decide)).trans x1
    refine execsA_cons ?_
    walk_at "go"
    refine ldL F₄ (by kernel_rfl!) (by kernel_rfl!) y1 ?_
    walk_at "go"
    refine callFn f6 ?_
    walk_at "go"
    have hjl : err.length - 2 - j < err.length := by lia
    refine subBaNeg (err.length - 2 - j) (N₄.get (.tail _ (.tail _ (.tail _ (.head _))))) (by lia) (by lia) (getD_some hjl) (by with_unfolding_all rfl) ?_
    walk_at "go"
    obtain ⟨tw, hw⟩ := hvs (i - (j + 1)) (by lia)
    refine subL (i - (j + 1) + sh) (F₄.keep _ _ hS) (by lia) (by lia) hw (by with_unfolding_all rfl) ?_
    walk_at "go"
    refine ⟨F₄.keep, gf_mul_spec (by show A.depth + 1 < _; lia) (f6.keeps F₄.keep) (GG.keeps F₄.keep) (G.tabs.keeps F₄.keep) fun t' h₅ tk₅ k₅ => ?_⟩
    have F₅ := Fr.stays F₄ k₅
    have N₅ := Led.stays N₄ k₅
    walk_at "go"
    rename_i h₆ F₆ N₆
    rw [iu_xor] at F₆
    refine execsC_nil ⟨_, _, _, _, rfl, F₆, N₆, ?_⟩
    refine ⟨⟨_, rfl⟩, ⟨_, y2⟩, fun y h1 h2 h3 => ?_, rfl⟩
    dsimp only
    rw [if_neg h2, if_neg h3]
    exact yr y h1 h2 h3
  · rintro h₄ tk₄ m₁ news₁ ⟨⟨t4, y1⟩, ⟨t5, y2⟩, yr, rfl⟩ F₄ N₄
    have y3 : m₁ "err_loc" = some (.ref aE) := (yr _ (by decide) (by decide) (by decide)).trans x4
    have y4 : m₁ "old_loc" = some (.ref aO) := (yr _ (by decide) (by decide) (by decide)).trans x5
    refine execsC_cons (assignC (binOpC (wpC_of ?_)))
    walk_at "go"
    refine callNameC ?_
    walk_at "go"
    refine callWithC_type (argC (wpC_of ?_))
    walk_at "go"
    refine mkListL F₄ N₄ (by simp) fun h₅ b₅ k₅ F₅ N₅ => ?_
    refine argC_nil (mkBaList [0] F₅ N₅ hg (N₅.get (.head _)) (.cons _ _ .nil) (by decide) fun h₆ aZ k₆ F₆ N₆ => ?_)
    refine addBaL F₆ N₆ (N₆.get (.tail _ (.tail _ (.tail _ (.head _))))) (N₆.get (.head _)) (by simp; lia) fun h₇ aN F₇ N₇ => ?_
    walk_at "go"
    rename_i h₈ F₈ N₈
    have N₉ : Led h₀ L h₈ [pI, (aN, baOf (old ++ [0])), (aE, baOf err)] := (N₈.subl (news' := [(aN, baOf (old ++ [0])), pI, (aE, baOf err)]) (.cons_cons _ (.cons _ (.cons _ (.cons_cons _ (.cons _ (.cons_cons _ .slnil))))))).swap
    clear N₈ N₇ N₆ N₅
    refine execsC_cons (ifA ?_)
    walk_at "go"
    have hm8 : ∀ y : Str, y ≠ "K" → y ≠ "delta" → y ≠ "j" → y ≠ "old_loc" → (if y = "old_loc" then some (Value.ref aN) else m₁ y) = m y := fun y h1 h2 h3 h4 => by rw [if_neg h4]; exact yr y h1 h2 h3
    have fin : ∀ (h' : Heap) tk m' aO' aE' (e o : List UInt8), e.length ≤ 500 → o.length ≤ 500 → Fr h₀ L h' m' → Led h₀ L h' [pI, (aO', baOf o), (aE', baOf e)] → m' "err_loc" = some (.ref aE') → m' "old_loc" = some (.ref aO') → m' "delta" = some (.int (iu (delta S i err)) t4) →
        (∀ y : Str, y ≠ "K" → y ≠ "delta" → y ≠ "j" → y ≠ "old_loc" → y ≠ "new_loc" → y ≠ "err_loc" → m' y = m y) → bmStep S i (err, old) = (padd e (o.map (gmul · (delta S i err))), o) →
        wpC (model P w) (A.deeper (envOf (nameAt 10) (scopeAt 10) L a cdv)) (execs ((ifBody loopBody[4]?).drop 1) (envOf (nameAt 10) (scopeAt 10) L a cdv)) Q (fun _ _ => False) { s with heap := h', toks := tk } := by
      intro h' tk m' aO' aE' e o he ho F' N' z1 z2 z3 zr eb
      refine execsC_cons (assignC (callNameC ?_))
      walk_at "go"
      refine callFnC f9 (argC (wpC_of ?_))
      walk_at "go"
      refine argC (callNameC ?_)
      walk_at "go"
      refine callFnC f8 (argC (wpC_of ?_))
      walk_at "go"
      refine argC (wpC_of ?_)
      walk_at "go"
      refine argC_nil ⟨F'.keep, scaleL F' N' (by show A.depth + 1 + 1 < _; lia) hg hh f8 G (N'.get (.tail _ (.head _))) (by lia) fun h₂ r₂ tk₂ F₂ N₂ => ?_⟩
      refine argC_nil ⟨F₂.keep, addL F₂ N₂ (by show A.depth + 1 + 1 < _; lia) hg hh f9 G (N₂.get (.tail _ (.tail _ (.tail _ (.head _))))) (N₂.get (.head _)) (by lia) (by simp; lia) fun h₃ r₃ tk₃ F₃ N₃ => ?_⟩
      walk_at "go"
      rename_i h₅ F₅ N₅
      refine execsC_nil (hQ _ _ _ aO' r₃ F₅ ?_ (fun y h1 h2 h3 h4 h5 h6 => ?_) rfl z2)
      · rw [eb]
        have N₆ := N₅.subl (news' := [(r₃, _), pI, (aO', _)]) (.cons_cons _ (.cons _ (.cons_cons _ (.cons_cons _ (.cons _ .slnil)))))
        have N₇ := N₆.swap
        exact N₇.sub (fun x hx => by simp at hx ⊢; rcases hx with h | h | h <;> simp [h]) (by have := N₇.nd; simp [not_or] at this ⊢; exact ⟨⟨this.1.2, this.1.1⟩, fun e => this.2 e.symm⟩)
      · rw [if_neg h6]; exact zr y h1 h2 h3 h4 h5 h6
    have hdd : (iu (dsum S i err (err.length - 1)) != 0) = !decide (delta S i err = 0) := by rw [bne, iu_eq0]; rfl
    rw [hdd]
    by_cases hd : delta S i err = 0
    · rw [if_neg (by simp [hd])]
      have eb : bmStep S i (err, old) = (err, old ++ [0]) := by unfold bmStep; simp [hd]
      refine execsC_nil (execsC_nil (hQ _ _ _ aN aE F₈ (by rw [eb]; exact N₉) (fun y h1 h2 h3 h4 _ _ => hm8 y h1 h2 h3 h4) y3 rfl))
    · rw [if_pos (by simp [hd])]
      have y1' : m₁ "delta" = some (.int (iu (delta S i err)) t4) := y1
      refine execsC_cons (ifA ?_)
      walk_at "go"
      refine ba_lenN (old.length + 1) (N₉.get (.tail _ (.head _))) (by simp) (by simp; lia) ?_
      walk_at "go"
      refine ba_lenN err.length (N₉.get (.tail _ (.tail _ (.head _)))) rfl (by lia) ?_
      walk_at "go"
      by_cases hc : err.length < old.length + 1
      · rw [if_pos (by simp; lia)]
        refine execsC_cons (assignC (callNameC ?_))
        walk_at "go"
        refine callFnC f8 (argC (wpC_of ?_))
        walk_at "go"
        refine argC (wpC_of ?_)
        walk_at "go"
        refine argC_nil ⟨F₈.keep, scaleL F₈ N₉ (by show A.depth + 1 + 1 < _; lia) hg hh f8 G (N₉.get (.tail _ (.head _))) (by simp; lia) fun h₁₀ aW tk₁₀ F₁₀ N₁₀ => ?_⟩
        walk_at "go"
        rename_i h₁₁ F₁₁ N₁₁
        refine execsC_cons (assignC (callNameC ?_))
        walk_at "go"
        refine callFnC f8 (argC (wpC_of ?_))
        walk_at "go"
        refine argC (wpC_of ?_)
        walk_at "go"
        refine callFn f5 ?_
        walk_at "go"
        refine ⟨F₁₁.keep, gf_inverse_spec (by show A.depth + 1 < _; lia) (f5.keeps F₁₁.keep) (GG.keeps F₁₁.keep) (G.tabs.keeps F₁₁.keep) fun t' h₁₂ tk₁₂ k₁₂ => ?_⟩
        have F₁₂ := Fr.stays F₁₁ k₁₂
        have N₁₂ := Led.stays N₁₁ k₁₂
        refine argC_nil ⟨F₁₂.keep, scaleL F₁₂ N₁₂ (by show A.depth + 1 + 1 < _; lia) hg hh f8 G (N₁₂.get (.tail _ (.tail _ (.tail _ (.head _))))) (by lia) fun h₁₃ aV tk₁₃ F₁₃ N₁₃ => ?_⟩
        walk_at "go"
        rename_i h₁₄ F₁₄ N₁₄
        refine execsA_cons ?_
        walk_at "go"
        rename_i h₁₅ F₁₅ N₁₅
        refine execsC_nil ?_
        refine wpC_mono (Q := Q) ?_ (fun f s' hf => by cases f <;> first | exact execsC_nil hf | exact hf) (fun _ _ x => x)
        refine fin _ _ _ aV aW ((old ++ [0]).map (gmul · (delta S i err))) (err.map (gmul · (ginv (delta S i err)))) (by simp; lia) (by simp; lia) F₁₅ ?_ rfl rfl y1' (fun y h1 h2 h3 h4 h5 h6 => ?_) ?_
        · have N₁₆ := N₁₅.subl (news' := [(aV, _), (aW, _), pI]) (.cons_cons _ (.cons_cons _ (.cons_cons _ (.cons _ (.cons _ .slnil)))))
          exact N₁₆.sub (fun x hx => by simp at hx ⊢; rcases hx with h | h | h <;> simp [h]) (by have := N₁₆.nd; simp [not_or] at this ⊢; exact ⟨⟨fun e => this.1.2 e.symm, fun e => this.2 e.symm⟩, this.1.1⟩)
        · rw [if_neg h6, if_neg h4, if_neg h5]; exact hm8 y h1 h2 h3 h4
        · unfold bmStep; simp [hd]; lia
      · rw [if_neg (by simp; lia)]
        refine execsC_nil ?_
        refine wpC_mono (Q := Q) ?_ (fun f s' hf => by cases f <;> first | exact execsC_nil hf | exact hf) (fun _ _ x => x)
        refine fin _ _ _ aN aE err (old ++ [0]) (by lia) (by simp; lia) F₈ N₉ y3 rfl y1' (fun y h1 h2 h3 h4 h5 h6 => hm8 y h1 h2 h3 h4) ?_
        unfold bmStep; simp [hd]; lia
/- RSF7 -/

noncomputable abbrev ownBm : List Value := [.type "Exception", .type "BaseException", .type "object"]
noncomputable abbrev Own (C : Addr) (mg : Str → Option Value) (h : Heap) : Prop := OwnClsQ "ReedSolomonError" C ownBm "Exception.__new__" mg h

theorem getPop {M : Model} {A : Around} {E : Value → Shared → Prop} {s : Shared} {a : Addr} {vs : List Value} {c : Nat} {pl : Sem Bool} {Q : Value × List Value → Shared → Prop} (h : s.heap.get? a = some (lsO vs c)) (hq : Q (.builtin "list.pop", [.ref a]) s) :
    wpAny M A (getMethod (.ref a) "pop" pl) Q E s := getMethod_builtin (isL h).typeIs F.plainAttrs_list F.slot_list_pop F.type_list_pop (fun b e => by cases e; exact ⟨_, h, rfl⟩) hq
theorem getAppend {M : Model} {A : Around} {E : Value → Shared → Prop} {s : Shared} {a : Addr} {vs : List Value} {c : Nat} {pl : Sem Bool} {Q : Value × List Value → Shared → Prop} (h : s.heap.get? a = some (lsO vs c)) (hq : Q (.builtin "list.append", [.ref a]) s) :
    wpAny M A (getMethod (.ref a) "append" pl) Q E s := getMethod_builtin (isL h).typeIs F.plainAttrs_list F.slot_list_append F.type_list_append (fun b e => by cases e; exact ⟨_, h, rfl⟩) hq
theorem find_rest {w : World} {A : Around} {s : Shared} {mg : Str → Option Value} {a aS aO aE C : Addr} {vs : List Value} {c : Nat} {n sh : Nat} {S : Nat → UInt8} {h₀ : Heap} {L : Addr} {cdv : Value} {m : Str → Option Value} {ti ts td : Tok} {shv nv : Int} {Q : Flow → Shared → Prop} {E : Value → Shared → Prop}
    (hroom : A.depth + 2 < recursionLimit) (hg : A.guards = some []) (hh : A.handled = none) (G : Gs mg h₀) (O : Own C mg h₀)
    (hS : h₀.get? aS = some (lsO vs c)) (hlen : vs.length = n + sh) (hvs : ∀ j, j < n → ∃ t, vs[j + sh]? = some (.int (iu (S j)) t)) (hn : n ≤ 100) (hsh : sh ≤ 100)
    (F : Fr h₀ L s.heap m) (N : Led h₀ L s.heap [(aO, baOf [1]), (aE, baOf [1])])
    (x1 : m "synd" = some (.ref aS)) (x2 : m "synd_shift" = some (.int shv ts)) (x3 : m "erase_loc" = some .none) (x4 : m "err_loc" = some (.ref aE)) (x5 : m "old_loc" = some (.ref aO)) (x6 : m "nsym" = some (.int nv ti)) (x7 : m "erase_count" = some (.int 0 td))
    (hnv : nv = (n : Int)) (hshv : shv = (sh : Int))
    (hQ : 2 * ((bmOut S n).length - 1) ≤ n → ∀ h' tk r ws cw, h₀.StaysIn h' → h₀.get? r = none → h'.get? r = some (lsO ws cw) → IntsAre ws ((bmOut S n).map iu) → Q (.ret (.ref r)) { s with heap := h', toks := tk })
    (hE : n < 2 * ((bmOut S n).length - 1) → ∀ h₁ h' m' tk e as, Fr h₀ L h₁ m' → Heap.MadeExcOf h₁ h' e (.ref C) as → E (.ref e) { s with heap := h', toks := tk }) :
    wpC (model P w) (A.deeper (envOf (nameAt 10) (scopeAt 10) L a cdv)) (execs ((bodyAt 10).drop 3) (envOf (nameAt 10) (scopeAt 10) L a cdv)) Q E s := by
  have mX := G.xr
  have mL := G.len
  have mLi := G.list
  have GG := G.glo
  refine execsC_cons (forRange (h₀ := h₀) ?_ hh (by kernel_rfl!) (by kernel_rfl!))
  walk_at "go"
  refine call_range_1 ?_
  refine ⟨_, 0, nv - 0, _, _, _, n, _, _, fun i m' news => ∃ aO' aE', news = [(aO', baOf (bm S i).2), (aE', baOf (bm S i).1)] ∧ m' "err_loc" = some (.ref aE') ∧ m' "old_loc" = some (.ref aO') ∧
      (∀ y : Str, y ≠ "i" → y ≠ "K" → y ≠ "delta" → y ≠ "j" → y ≠ "old_loc" → y ≠ "new_loc" → y ≠ "err_loc" → m' y = m y),
    rfl, Heap.get?_push_size _ rfl, by lia, by lia, Fr.stays F (stays_push _ _), Led.stays N (stays_push _ _), ?_, ?_, ?_⟩
  · exact ⟨aO, aE, rfl, x4, x5, fun _ _ _ _ _ _ _ _ => rfl⟩
  · rintro i t m₁ news₁ I h₂ tk₂ hi ⟨aO', aE', rfl, y1, y2, yr⟩ F₂ N₂
    have z1 : m₁ "synd" = some (.ref aS) := (yr _ (by decide) (by decide) (by decide) (by decide) (by decide) (by decide) (by decide)).trans x1
    have z2 : m₁ "synd_shift" = some (.int shv ts) := (yr _ (by decide) (by decide) (by decide) (by decide) (by decide) (by decide) (by decide)).trans x2
    have z3 : m₁ "erase_loc" = some .none := (yr _ (by decide) (by decide) (by decide) (by decide) (by decide) (by decide) (by decide)).trans x3
    refine find_turn (i := i) hroom hg hh G hS hlen hvs hn hsh hi F₂ N₂ z1 z2 z3 y1 y2 rfl (by lia) hshv (bm_len S i) fun h₃ tk₃ m₃ aO₃ aE₃ F₃ N₃ zr w1 w2 => ?_
    refine ⟨_, _, _, _, rfl, F₃, N₃, aO₃, aE₃, rfl, w1, w2, fun y h1 h2 h3 h4 h5 h6 h7 => ?_⟩
    rw [zr y h2 h3 h4 h5 h6 h7, if_neg h1]
    exact yr y h1 h2 h3 h4 h5 h6 h7
  · rintro h₂ tk₂ m₁ news₁ ⟨aO', aE', rfl, y1, y2, yr⟩ F₂ N₂
    have z1 : m₁ "nsym" = some (.int nv ti) := (yr _ (by decide) (by decide) (by decide) (by decide) (by decide) (by decide) (by decide)).trans x6
    have z2 : m₁ "erase_count" = some (.int 0 td) := (yr _ (by decide) (by decide) (by decide) (by decide) (by decide) (by decide) (by decide)).trans x7
    have hbl := bm_len S n
    refine execsA_cons ?_
    walk_at "go"
    refine list_ba hh (N₂.get (.tail _ (.head _))) (Nat.le_trans (by lia : _ ≤ 1000) (by decide)) fun h₃ tk₃ ws cw k₃ e₃ hws => ?_
    have F₃ := Fr.stays F₂ k₃
    have N₃ := Led.new' F₂ N₂ k₃ (get_size_none _) e₃
    generalize Array.size _ = r at e₃ N₃ ⊢
    have N₄ := N₃.subl (news' := [(r, lsO ws cw)]) (.cons_cons _ (.cons _ (.cons _ .slnil)))
    clear N₃
    walk_at "go"
    rename_i h₄ F₄ N₅
    have fin : ∀ h' tk ws cw, Fr h₀ L h' (fun y => if y = "err_loc" then some (.ref r) else m₁ y) → Led h₀ L h' [(r, lsO ws cw)] → IntsAre ws ((bmOut S n).map iu) → (bmOut S n).length ≤ 200 →
        wpC (model P w) (A.deeper (envOf (nameAt 10) (scopeAt 10) L a cdv)) (execs ((bodyAt 10).drop 6) (envOf (nameAt 10) (scopeAt 10) L a cdv)) Q E { s with heap := h', toks := tk } := by
      intro h' tk ws cw F' N' hws hz
      have hwl : ws.length = (bmOut S n).length := by have := (ints_get hws).1; simpa using this
      refine execsA_cons ?_
      walk_at "go"
      refine lenL ((bmOut S n).length : Int) (N'.get (.head _)) (by lia) (by lia) ?_
      walk_at "go"
      rename_i h₅ F₅ N₅
      refine execsA_cons ?_
      walk_at "go"
      by_cases hc : n < 2 * ((bmOut S n).length - 1)
      · rw [if_pos (by simp; lia)]
        refine wpAny_execs_cons (Raise_own F₅ GG.g O.own PySem.F.excBase_Exception hh ?_)
        walk_at "go"
        refine ⟨by simp [sizeLine], F₅.keep, fun h₆ e hm => ?_⟩
        exact hE hc _ h₆ _ _ e _ F₅ hm
      · rw [if_neg (by simp; lia)]
        walk_at "go"
        refine execsA_cons ?_
        walk_at "go"
        exact hQ (by lia) _ _ r ws cw F₅.keep (N₅.fresh (.head _)) (N₅.get (.head _)) hws
    refine execsC_cons (whileC (fun k s' => ∃ h' tk us ws cw, s' = { s with heap := h', toks := tk } ∧ Fr h₀ L h' (fun y => if y = "err_loc" then some (.ref r) else m₁ y) ∧ Led h₀ L h' [(r, lsO ws cw)] ∧ IntsAre ws (us.map iu) ∧
      us.dropWhile (· == 0) = bmOut S n ∧ us.length = k ∧ us.length ≤ 200) _ ⟨_, _, (bm S n).1, ws, cw, rfl, F₄, N₅, hws, rfl, rfl, by lia⟩ ?_)
    rintro k s' ⟨h₅, tk₅, us, ws₅, cw₅, rfl, F₅, N₅', hws₅, hus, hk, hkz⟩
    have hwl : ws₅.length = us.length := by have := (ints_get hws₅).1; simpa using this
    walk_at "go"
    refine wpAny_truthy_list (isL (N₅'.get (.head _))) (by rw [List.size_toArray]; lia) ?_
    cases us with
    | nil =>
      have : ws₅ = [] := List.length_eq_zero_iff.mp (by simpa using hwl)
      subst this
      rw [if_neg (by decide)]
      walk_at "go"
      have hb : bmOut S n = [] := hus.symm
      refine fin _ _ [] cw₅ F₅ N₅' (by rw [hb]; exact .nil) (by rw [hb]; simp)
    | cons u us =>
      cases hws₅ with
      | cons _ tu hws₆ =>
      rename_i ws₆
      rw [if_pos (by rfl)]
      walk_at "go"
      refine subL 0 (N₅'.get (.head _)) (by rfl) (by simp only [List.length_cons] at *; lia) (by rfl) (by with_unfolding_all rfl) ?_
      walk_at "go"
      rw [iu_eq0]
      by_cases hu : u = 0
      · rw [if_pos (by simp [hu])]
        walk_at "go"
        refine execsA_cons ?_
        walk_at "go"
        refine getPop (N₅'.get (.head _)) ?_
        refine popL (a := r) ?_
        show wpAny _ _ (eval _ _) _ _ _
        walk_at "go"
        refine ⟨_, _, _, _, h₀, L, _, _, [(r, lsO ws₆ (cw₅ + 1))], rfl, F₅, N₅', .head, ?_, fun h₆ F₆ N₆ => ?_⟩
        · simp only [List.length_cons] at *; lia
        · dsimp only
          refine execsC_nil ⟨k - 1, ?_, _, _, us, ws₆, _, rfl, F₆, N₆, hws₆, ?_, ?_, ?_⟩
          · simp only [List.length_cons] at *; lia
          · rw [← hus]; simp [hu]
          · simp only [List.length_cons] at *; lia
          · simp only [List.length_cons] at *; lia
      · rw [if_neg (by simp [hu])]
        walk_at "go"
        have hb : bmOut S n = u :: us := by rw [← hus]; simp [hu]
        refine fin _ _ _ cw₅ F₅ N₅' (by rw [hb]; exact .cons _ _ hws₆) (by rw [hb]; lia)
/- RSF8 -/

theorem find_spec {w : World} {A : Around} {R : Result → Shared → Prop} {s : Shared} {mg : Str → Option Value} {a d aS C : Addr} {vs : List Value} {c : Nat} {n sh : Nat} {S : Nat → UInt8} {i : Int} {ti td : Tok} {od : Obj} {nd : Nat} {B : Heap} {outer : List Env}
    (hroom : A.depth + 2 < recursionLimit) (hg : A.guards = some []) (hh : A.handled = none) (hf : FnAt s.heap 10 a (.ref d)) (hd : s.heap.get? d = some od) (hd2 : od.data = .seq #[.none, .int 0 td] nd) (G : Gs mg s.heap) (O : Own C mg s.heap) (K : Below A B outer s.heap)
    (hS : s.heap.get? aS = some (lsO vs c)) (hlen : vs.length = n + sh) (hvs : ∀ j, j < n → ∃ t, vs[j + sh]? = some (.int (iu (S j)) t)) (hi : i = (n : Int)) (hn : n ≤ 100) (hsh : sh ≤ 100)
    (h : 2 * ((bmOut S n).length - 1) ≤ n → ∀ h' tk r ws cw, s.heap.StaysIn h' → s.heap.get? r = none → h'.get? r = some (lsO ws cw) → IntsAre ws ((bmOut S n).map iu) → R (.ok (.ret (.ref r))) { s with heap := h', toks := tk })
    (hE : n < 2 * ((bmOut S n).length - 1) → ∀ h' tk e t as, Heap.FlyingW B outer e (.ref C) (.ref t) h' → h'.TupAt t as → B.get? t = none → s.heap.UpToSlots h' → R (.error (.ref e)) { s with heap := h', toks := tk }) :
    codeC (model P w) A (.call (.ref a) ⟨[.ref aS, .int i ti], []⟩) R s := by
  refine enterC (binds := [("synd", .ref aS), ("nsym", .int i ti), ("erase_loc", .none), ("erase_count", .int 0 td)]) (by lia) hf G.glo.nolimit (fun pm cdv => BindsTo.of_defaults rfl hd hd2 rfl rfl) (fun L cdv h₁ F => ?_) (hloc := locs (by rfl))
  have N : Led s.heap L h₁ [] := Led.nil
  have mX := G.xr
  have mB := G.ba
  have mL := G.len
  have GG := G.glo
  refine execsC_cons (ifA ?_)
  walk_at "go"
  refine execsC_cons (assignC (callNameC ?_))
  walk_at "go"
  refine callWithC_type (argC (wpC_of ?_))
  walk_at "go"
  refine mkListL F N (by simp) fun h₂ b₂ k₂ F₂ N₂ => ?_
  refine argC_nil (mkBaList [1] F₂ N₂ hg (N₂.get (.head _)) (.cons _ _ .nil) (by decide) fun h₃ aE k₃ F₃ N₃ => ?_)
  walk_at "go"
  rename_i h₄ F₄ N₄
  refine execsC_cons (assignC (callNameC ?_))
  walk_at "go"
  refine callWithC_type (argC (wpC_of ?_))
  walk_at "go"
  refine mkListL F₄ N₄ (by simp) fun h₅ b₅ k₅ F₅ N₅ => ?_
  refine argC_nil (mkBaList [1] F₅ N₅ hg (N₅.get (.head _)) (.cons _ _ .nil) (by decide) fun h₆ aO k₆ F₆ N₆ => ?_)
  walk_at "go"
  rename_i h₇ F₇ N₇
  refine execsC_nil ?_
  dsimp only
  have N₈ := N₇.subl (news' := [(aO, baOf [1]), (aE, baOf [1])]) (.cons_cons _ (.cons _ (.cons_cons _ (.cons _ .slnil))))
  clear N₇ N₆ N₅ N₄ N₃ N₂
  refine execsA_cons ?_
  walk_at "go"
  rename_i h₉ F₉ N₉
  refine execsA_cons ?_
  walk_at "go"
  refine lenL (n + sh) (F₉.keep _ _ hS) (by lia) (by lia) ?_
  walk_at "go"
  have fin : ∀ h' tk m' ts, Fr s.heap L h' m' → Led s.heap L h' [(aO, baOf [1]), (aE, baOf [1])] → m' "synd" = some (.ref aS) → m' "synd_shift" = some (.int (sh : Int) ts) → m' "erase_loc" = some .none → m' "err_loc" = some (.ref aE) → m' "old_loc" = some (.ref aO) →
      m' "nsym" = some (.int i ti) → m' "erase_count" = some (.int 0 td) →
      wpC (model P w) (A.deeper (envOf (nameAt 10) (scopeAt 10) L a cdv)) (execs ((bodyAt 10).drop 3) (envOf (nameAt 10) (scopeAt 10) L a cdv)) (fun f s' => R (.ok (.ret (match f with | .ret v => v | _ => .none))) s')
        (fun e s' => wpC (model P w) (A.deeper (envOf (nameAt 10) (scopeAt 10) L a cdv)) (leaving (envOf (nameAt 10) (scopeAt 10) L a cdv) e) (fun _ s'' => R (.error e) s'') (fun e' s'' => R (.error e') s'') s') { s with heap := h', toks := tk } := by
    intro h' tk m' ts F' N' z1 z2 z3 z4 z5 z6 z7
    refine find_rest hroom hg hh G O hS hlen hvs hn hsh F' N' z1 z2 z3 z4 z5 z6 z7 hi rfl h (fun hc h₂ h₃ m₂ tk₂ e as F₂ hm => ?_)
    have K' := K.push (name := nameAt 10) (scope := scopeAt 10) (a := a) (cd := cdv) F₂ (by rfl)
    refine wpC_of (wpAny_leaves_madeW K'.stack rfl K'.stays K'.frames hm fun h₄ t x1 x2 x3 x4 => ?_)
    refine hE hc _ _ e t as x1 x2 x3 (((Heap.UpToSlots.of_keeps F₂.keep).trans (Heap.UpToSlots.of_keeps hm.keeps)).trans x4)
  by_cases hc : sh = 0
  · subst hc
    rw [if_neg (by simp; lia)]
    walk_at "go"
    exact fin _ _ _ _ F₉ N₉ rfl rfl rfl rfl rfl rfl rfl
  · rw [if_pos (by simp; lia)]
    walk_at "go"
    refine lenL (n + sh) (F₉.keep _ _ hS) (by lia) (by lia) ?_
    walk_at "go"
    rename_i h₁₀ F₁₀ N₁₀
    have e : ((n : Int) + (sh : Int) - i) = (sh : Int) := by lia
    rw [e] at F₁₀
    exact fin _ _ _ _ F₁₀ N₁₀ rfl rfl rfl rfl rfl rfl rfl
/- RSF9 -/

theorem ints_set : ∀ {vs : List Value} {ns : List Int} (j : Nat) (n : Int) (t : Tok), IntsAre vs ns → IntsAre (vs.set j (.int n t)) (ns.set j n) := by
  intro vs ns j n t h
  induction h generalizing j with
  | nil => exact .nil
  | cons n' t' h ih =>
    cases j with
    | zero => exact .cons _ _ h
    | succ j => exact .cons _ _ (ih j)
theorem ints_snoc {vs : List Value} {ns : List Int} {n : Int} {t : Tok} (h : IntsAre vs ns) : IntsAre (vs ++ [.int n t]) (ns ++ [n]) := by
  induction h with
  | nil => exact .cons _ _ .nil
  | cons _ _ _ ih => exact .cons _ _ ih
theorem ints_len {vs : List Value} {ns : List Int} (h : IntsAre vs ns) : vs.length = ns.length := (ints_get h).1
theorem ints_at {vs : List Value} {l : List UInt8} (h : IntsAre vs (l.map iu)) {j : Nat} (hj : j < l.length) : ∃ t, vs[j]? = some (.int (iu (l.getD j 0)) t) :=
  (ints_get h).2 j _ (by rw [List.getElem?_map, getD_some hj]; rfl)
theorem fillLog_all' : fillLog 254 1 2 (List.replicate 256 0) = logTab := by decide +kernel
noncomputable def powL : List UInt8 := (List.range 255).map alog
theorem pow_at {vs : List Value} (h : IntsAre vs (powL.map iu)) {j : Nat} (hj : j < 255) : ∃ t, vs[j]? = some (.int (iu (alog j)) t) :=
  (ints_get h).2 j _ (by unfold powL; rw [List.getElem?_map, List.getElem?_map, List.getElem?_range hj]; rfl)

theorem fold_rep (v : Value) : ∀ (k : Nat) (acc : Array Value), List.foldl (fun x1 x2 => x1 ++ x2) acc (List.replicate k #[v]) = acc ++ (List.replicate k v).toArray
  | 0, acc => by simp
  | k + 1, acc => by
    rw [List.replicate_succ, List.foldl_cons, fold_rep v k]
    rw [List.replicate_succ]
    apply Array.ext'
    simp
theorem mulOne {prog : Program} {w : World} {A : Around} {E : Value → Shared → Prop} {s : Shared} {h₀ : Heap} {L : Addr} {m : Str → Option Value} {news : List (Addr × Obj)} {l : Addr} {v : Value} {c : Nat} {x : Int} {u : Tok} {Q : Value → Shared → Prop} (k : Nat)
    (Fm : Fr h₀ L s.heap m) (N : Led h₀ L s.heap news) (hl : s.heap.get? l = some (lsO [v] c)) (hx : x = (k : Int)) (hk : k ≤ 1000)
    (h : ∀ h' a, s.heap.StaysIn h' → Fr h₀ L h' m → Led h₀ L h' ((a, lsO (List.replicate k v) 0) :: news) → Q (.ref a) { s with heap := h' }) :
    wpAny (model prog w) A (binaryOp .Mult (.ref l) (.int x u)) Q E s := by
  refine wpAny_binaryOp_repeat_ref (T := "list") (U := "int") (by decide) ⟨_, hl, rfl⟩ (fun s' => typeIs_int s' x u) noFill_list_mul F.fills_int_mul F.slot_int_rmul repeat_list F.slot_int_index.lookup
    (call_meets F.slot_int_rmul (typeIs_int s x u) F.entry_int_rmul (F.args_int_rmul_2 _ _) (int___rmul___int_list x u l #[v] c)
      ⟨hl, rfl, ⟨_, hl, rfl⟩, call_meets F.slot_list_mul ⟨_, hl, rfl⟩ F.entry_list_mul (F.args_list_mul_2 _ _)
        (AutoListH.list___mul___list_int_3 l #[v] c x u (by simp [Builtin.List.listFitsIndex]; lia) (by have e1 : (#[v] : Array Value).size = 1 := rfl; rw [e1]; lia) (by simp [Builtin.List.listTooLong, sizeLine]; lia))
        ⟨hl, ?_⟩⟩)
  have e : (List.foldl (fun x1 x2 => x1 ++ x2) #[] (List.replicate (if (#[v] : Array Value).isEmpty = true then 0 else x.toNat) #[v])) = (List.replicate k v).toArray := by
    rw [if_neg (by simp), fold_rep, hx, Int.toNat_natCast]; simp
  rw [e]
  exact h _ _ (stays_push _ _) (Fr.stays Fm (stays_push _ _)) (Led.push Fm N (lsO (List.replicate k v) 0))
theorem ints_rep (n : Int) (t : Tok) : ∀ k, IntsAre (List.replicate k (.int n t)) (List.replicate k n)
  | 0 => .nil
  | k + 1 => .cons _ _ (ints_rep n t k)

theorem w_big (x : UInt8) : decide (255 < 2 * iu x) = decide (128 ≤ x) := by
  have := all_u8 (p := fun x => decide (255 < 2 * iu x) == decide (128 ≤ x)) (by decide +kernel) x
  exact eq_of_beq this
theorem w_xor (x : UInt8) (h : 128 ≤ x) : Builtin.bitXor (2 * iu x) 285 = iu (mul2 x) := by
  have := all_u8 (p := fun x => !decide (128 ≤ x) || Builtin.bitXor (2 * iu x) 285 == iu (mul2 x)) (by decide +kernel) x
  simpa [h] using this
theorem w_small (x : UInt8) (h : ¬ 128 ≤ x) : 2 * iu x = iu (mul2 x) := by
  have := all_u8 (p := fun x => decide (128 ≤ x) || 2 * iu x == iu (mul2 x)) (by decide +kernel) x
  simpa [h] using this

theorem field_spec {w : World} {A : Around} {R : Result → Shared → Prop} {s : Shared} {mg : Str → Option Value} {a : Addr}
    (hroom : A.depth + 1 < recursionLimit) (hh : A.handled = none) (hf : FnAt s.heap 13 a .none) (G : Glo mg s.heap) (mR : mg "range" = none)
    (h : ∀ h' tk r aP aL ps cp ls cl ct, s.heap.StaysIn h' → h'.get? r = some { cls := .type "tuple", data := .seq #[.ref aP, .ref aL] ct } → s.heap.get? aP = none → s.heap.get? aL = none → h'.get? aP = some (lsO ps cp) → h'.get? aL = some (lsO ls cl) → IntsAre ps (powL.map iu) → IntsAre ls (logTab.map iu) →
      R (.ok (.ret (.ref r))) { s with heap := h', toks := tk }) :
    codeC (model P w) A (.call (.ref a) ⟨[], []⟩) R s := by
  refine enterC (binds := []) (by lia) hf G.nolimit (fun pm cdv => BindsTo.of_eq rfl) (fun L cdv h₁ F => ?_) (hloc := locs (by rfl))
  refine wpC_mono (E := fun _ _ => False) ?_ (fun _ _ x => x) (fun _ _ x => x.elim)
  have N : Led s.heap L h₁ [] := Led.nil
  refine execsA_cons ?_
  walk_at "go"
  refine mkListL F N (by simp) fun h₂ aP k₂ F₂ N₂ => ?_
  walk_at "go"
  rename_i h₃ F₃ N₃
  refine execsA_cons ?_
  walk_at "go"
  refine mkListL F₃ N₃ (by simp) fun h₄ b₄ k₄ F₄ N₄ => ?_
  walk_at "go"
  refine mulOne 256 F₄ N₄ (N₄.get (.head _)) (by rfl) (by decide) fun h₅ aL k₅ F₅ N₅ => ?_
  have N₆ := N₅.subl (news' := [(aL, _), (aP, _)]) (.cons_cons _ (.cons _ (.cons_cons _ .slnil)))
  clear N₅ N₄
  walk_at "go"
  rename_i h₇ F₇ N₇
  refine execsC_cons (forRange (h₀ := s.heap) ?_ hh (by kernel_rfl!) (by kernel_rfl!))
  walk_at "go"
  refine call_range_2 ?_
  refine ⟨_, 1, 255, _, _, _, 254, _, _, fun i m news => ∃ ps cp ls l, m "powers" = some (.ref aP) ∧ m "logs" = some (.ref aL) ∧ news = [(aL, lsO ls 0), (aP, lsO ps cp)] ∧
      IntsAre ps (((List.range (i + 1)).map alog).map iu) ∧ IntsAre ls (l.map iu) ∧ l.length = 256 ∧ fillLog (254 - i) (i + 1) (alog (i + 1)) l = logTab,
    rfl, Heap.get?_push_size _ rfl, by decide, rfl, Fr.stays F₇ (stays_push _ _), Led.stays N₇ (stays_push _ _), ?_, ?_, ?_⟩
  · refine ⟨_, _, _, List.replicate 256 0, rfl, rfl, rfl, .cons _ _ .nil, ?_, List.length_replicate, fillLog_all'⟩
    rw [List.map_replicate]
    exact ints_rep 0 _ 256
  · rintro i t m₁ news₁ I h₈ tk₈ hi ⟨ps, cp, ls, l, x1, x2, rfl, hps, hls, hll, hfill⟩ F₈ N₈
    have hpl : ps.length = i + 1 := by have := ints_len hps; simpa using this
    have hlsl : ls.length = 256 := by have := ints_len hls; simpa [hll] using this
    refine execsA_cons ?_
    walk_at "go"
    have hlast : ∃ t, ps[i]? = some (.int (iu (alog i)) t) := (ints_get hps).2 i _ (by rw [List.getElem?_map, List.getElem?_map, List.getElem?_range (Nat.lt_succ_self i)]; rfl)
    obtain ⟨t', hlast⟩ := hlast
    refine subLneg i (N₈.get (.tail _ (.tail _ (.head _)))) (by lia) (by lia) hlast (by with_unfolding_all rfl) ?_
    walk_at "go"
    rename_i h₉ F₉ N₉
    have fin : ∀ (Q : Flow → Shared → Prop) h tk m' t8 t9, Fr s.heap L h m' → Led s.heap L h [(I, rIt (1 + i + 1) ((254 : Nat) - (i : Int) - 1)), (aL, lsO ls 0), (aP, lsO ps cp)] → m' "octet" = some (.int (iu (alog (i + 1))) t8) → m' "powers" = some (.ref aP) → m' "logs" = some (.ref aL) → m' "power" = some (.int (1 + (i : Int)) t9) →
        (∀ h' tk' m₂ news₂, Fr s.heap L h' m₂ → Led s.heap L h' ((I, rIt (1 + i + 1) ((254 : Nat) - (i : Int) - 1)) :: news₂) →
              (∃ ps cp ls l, m₂ "powers" = some (.ref aP) ∧ m₂ "logs" = some (.ref aL) ∧ news₂ = [(aL, lsO ls 0), (aP, lsO ps cp)] ∧ IntsAre ps (((List.range (i + 1 + 1)).map alog).map iu) ∧ IntsAre ls (l.map iu) ∧ l.length = 256 ∧ fillLog (254 - (i + 1)) (i + 1 + 1) (alog (i + 1 + 1)) l = logTab) →
              Q .next { s with heap := h', toks := tk' }) →
        wpC (model P w) (A.deeper (envOf (nameAt 13) (scopeAt 13) L a cdv)) (execs ((forBody ((bodyAt 13)[2]?)).drop 2) (envOf (nameAt 13) (scopeAt 13) L a cdv)) Q (fun _ _ => False) { s with heap := h, toks := tk } := by
      intro Q h tk m' t8 t9 F' N' z1 z2 z3 z4 hQ
      refine execsA_cons ?_
      walk_at "go"
      refine getAppend (N'.get (.tail _ (.tail _ (.head _)))) ?_
      refine appL (a := aP) ?_
      show wpAny _ _ (eval _ _) _ _ _
      walk_at "go"
      refine ⟨_, _, s.heap, L, _, _, _, F', N', .tail (.tail .head), by lia, fun h₂ F₂ N₂ => ?_⟩
      dsimp only
      refine execsA_cons ?_
      walk_at "go"
      refine setL (alog (i + 1)).toNat F₂ N₂ (.tail .head) rfl (by rw [hlsl]; exact (alog (i + 1)).toNat_lt) (by lia) fun h₃ F₃ N₃ => ?_
      refine execsC_nil (hQ _ _ _ _ F₃ N₃ ⟨_, _, _, l.set (alog (i + 1)).toNat (i + 1).toUInt8, z2, z3, rfl, ?_, ?_, by simpa using hll, ?_⟩)
      · rw [List.range_succ, List.map_append, List.map_append]; exact ints_snoc hps
      · have e : (1 + (i : Int)) = iu (i + 1).toUInt8 := by unfold iu; simp; lia
        rw [List.map_set, e]
        exact ints_set _ _ _ hls
      · have e : 254 - i = (254 - (i + 1)) + 1 := by lia
        rw [e] at hfill
        exact hfill
    refine execsA_cons ?_
    walk_at "go"
    rw [w_big]
    by_cases hb : 128 ≤ alog i
    · rw [if_pos (by simpa using hb)]
      walk_at "go"
      rename_i h₁₀ F₁₀ N₁₀
      rw [w_xor _ hb] at F₁₀
      exact fin _ _ _ _ _ _ F₁₀ N₁₀ rfl x1 x2 rfl fun h' tk' m₂ news₂ F₂ N₂ hJ => ⟨_, _, _, _, rfl, F₂, N₂, hJ⟩
    · rw [if_neg (by simpa using hb)]
      walk_at "go"
      rw [w_small _ hb] at F₉
      exact fin _ _ _ _ _ _ F₉ N₉ rfl x1 x2 rfl fun h' tk' m₂ news₂ F₂ N₂ hJ => ⟨_, _, _, _, rfl, F₂, N₂, hJ⟩
  · rintro h₈ tk₈ m₁ news₁ ⟨ps, cp, ls, l, x1, x2, rfl, hps, hls, hll, hfill⟩ F₈ N₈
    have : l = logTab := hfill
    subst this
    refine execsA_cons ?_
    walk_at "go"
    unfold newTuple
    refine wpAny_newObj_type ?_
    have k := stays_push h₈ { cls := .type "tuple", data := .seq [Value.ref aP, Value.ref aL].toArray }
    exact h _ _ _ aP aL ps cp ls 0 _ (fun b o e => k _ _ (F₈.keep b o e)) (Heap.get?_push_size _ rfl) (N₈.fresh (.tail _ (.head _))) (N₈.fresh (.head _)) (k _ _ (N₈.get (.tail _ (.head _)))) (k _ _ (N₈.get (.head _))) hps hls
/- RSF10 -/

/-- the law's own tables, as lists on the heap -/
structure LTabs (h : Heap) (aP aL : Addr) : Prop where
  pow : ∃ ps c, h.get? aP = some (lsO ps c) ∧ IntsAre ps (powL.map iu)
  log : ∃ ls c, h.get? aL = some (lsO ls c) ∧ IntsAre ls (logTab.map iu)
theorem LTabs.keeps {h h' : Heap} {aP aL : Addr} (T : LTabs h aP aL) (k : h.StaysIn h') : LTabs h' aP aL :=
  ⟨let ⟨ps, c, e, i⟩ := T.pow; ⟨ps, c, k _ _ e, i⟩, let ⟨ps, c, e, i⟩ := T.log; ⟨ps, c, k _ _ e, i⟩⟩
theorem log_at {ls : List Value} (h : IntsAre ls (logTab.map iu)) (x : UInt8) : ∃ t, ls[x.toNat]? = some (.int (iu (glog x)) t) :=
  (ints_get h).2 x.toNat _ (by rw [List.getElem?_map, logTab_get]; rfl)

theorem product_spec {w : World} {A : Around} {E : Value → Shared → Prop} {s : Shared} {mg : Str → Option Value} {a aP aL : Addr} {x y : UInt8} {tx ty : Tok} {Q : Value → Shared → Prop}
    (hroom : A.depth < recursionLimit) (hf : FnAt s.heap 14 a .none) (G : Glo mg s.heap) (T : LTabs s.heap aP aL)
    (h : ∀ t h' tk, s.heap.StaysIn h' → Q (.int (iu (gmul x y)) t) { s with heap := h', toks := tk }) :
    wpAny (model P w) A (call (.ref a) [.ref aP, .ref aL, .int (iu x) tx, .int (iu y) ty]) Q E s := by
  refine enter (binds := [("powers", .ref aP), ("logs", .ref aL), ("a", .int (iu x) tx), ("b", .int (iu y) ty)]) hroom hf G.nolimit (fun pm cdv => BindsTo.of_eq rfl) (fun L cdv h₁ F => ?_) (hloc := locs (by rfl))
  obtain ⟨ps, cp, hP, ips⟩ := T.pow
  obtain ⟨ls, cl, hL, ils⟩ := T.log
  have hpl : ps.length = 255 := by have := ints_len ips; simpa [powL] using this
  have hll : ls.length = 256 := by have := ints_len ils; rw [List.length_map, logTab_len] at this; exact this
  refine wpAny_execs_cons ?_
  walk_at "go"
  rw [iu_eq0]
  by_cases hx : x = 0
  · rw [if_pos (by simp [hx]), if_pos rfl]
    walk_at "go"
    have : gmul x y = 0 := by simp [gmul, hx]
    rw [this] at h
    exact h _ _ _ F.keep
  · rw [if_neg (by simp [hx])]
    walk_at "go"
    rw [iu_eq0]
    by_cases hy : y = 0
    · rw [if_pos (by simp [hy]), if_pos rfl]
      walk_at "go"
      have : gmul x y = 0 := by simp [gmul, hy]
      rw [this] at h
      exact h _ _ _ F.keep
    · rw [if_neg (by simp [hy])]
      walk_at "go"
      obtain ⟨t1, e1⟩ := log_at ils x
      refine subL x.toNat (F.keep _ _ hL) rfl (by lia) e1 (by with_unfolding_all rfl) ?_
      walk_at "go"
      obtain ⟨t2, e2⟩ := log_at ils y
      refine subL y.toNat (F.keep _ _ hL) rfl (by lia) e2 (by with_unfolding_all rfl) ?_
      walk_at "go"
      dsimp only
      have hlt : ((glog x).toNat + (glog y).toNat) % 255 < 255 := by lia
      obtain ⟨t3, e3⟩ := pow_at ips hlt
      refine subL (((glog x).toNat + (glog y).toNat) % 255) (F.keep _ _ hP) ?_ (by lia) e3 (by with_unfolding_all rfl) ?_
      · unfold iu; rw [Int.fmod_eq_emod_of_nonneg _ (by decide)]; lia
      · have e : gmul x y = alog (((glog x).toNat + (glog y).toNat) % 255) := by simp [gmul, hx, hy]
        rw [e] at h
        exact h _ _ _ F.keep
/- RSC4 -/
section
variable {prog : Program} {w : World} {A : Around} {E : Value → Shared → Prop} {R : Result → Shared → Prop} {s : Shared} {env : Env}
theorem compLoopA {elt target iter : Expr} {ifs : List Expr} {scope : Scope} {pos : Pos} {it acc : Value} {cenv : Env} (n : Nat) (J : Nat → Shared → Prop) (h0 : J 0 s)
    (item : ∀ i s, i < n → J i s → wpAny (model prog w) A (pyNext it) (fun r s₁ => ∃ v, r = some v ∧ wpAny (model prog w) A (letOwnedTupleGo target it v) (fun _ s₁' => wpAny (model prog w) A (assign target cenv v) (fun _ s₂ =>
      wpAny (model prog w) A (tests cenv ifs) (fun ok s₃ => if ok = true then wpAny (model prog w) A (eval elt cenv) (fun x s₄ => wpAny (model prog w) A (call (.builtin "list.append") [acc, x]) (fun _ s₅ => J (i + 1) s₅) (fun _ _ => False) s₄) (fun _ _ => False) s₃
        else J (i + 1) s₃) (fun _ _ => False) s₂) (fun _ _ => False) s₁') (fun _ _ => False) s₁) (fun _ _ => False) s)
    (fin : ∀ s, J n s → wpAny (model prog w) A (pyNext it) (fun r s₁ => r = none ∧ R (.ok .next) s₁) (fun _ _ => False) s) :
    codeAny (model prog w) A (.compLoop (.ListComp elt [⟨target, iter, ifs, 0⟩] scope pos) 0 it acc cenv) R s := by
  refine codeAny_loop rfl (fun k s' => ∃ i, i ≤ n ∧ k = n - i ∧ J i s') ?_ n ⟨0, Nat.zero_le _, rfl, h0⟩
  rintro k s' ⟨i, hi, rfl, hJ⟩
  show wpAny _ A ((compTurn (.ListComp elt [⟨target, iter, ifs, 0⟩] scope pos) 0 it acc cenv).onRaise (fun x => do noteFrame x cenv; theTreesLotGoes x)) _ _ s'
  refine wpAny_onRaise (wpAny_mono (E := fun _ _ => False) ?_ (fun _ _ x => x) fun _ _ x => x.elim)
  rw [compTurn_list]
  by_cases hlt : i < n
  · refine wpAny_bind (wpAny_standAt (wpAny_bind (wpAny_mono (item i s' hlt hJ) (fun r s₁ h₁ => ?_) fun _ _ h' => h')))
    obtain ⟨v, rfl, h₁⟩ := h₁
    refine wpAny_bind (wpAny_mono h₁ (fun _ s₁' h₁' => ?_) fun _ _ h' => h')
    refine wpAny_bind (wpAny_mono h₁' (fun _ s₂ h₂ => wpAny_bind (wpAny_mono (show wpAny (model prog w) A (tests cenv ifs) _ _ s₂ from h₂) (fun ok s₃ h₃ => ?_) fun _ _ h' => h')) fun _ _ h' => h')
    cases ok with
    | false => exact wpAny_pure ⟨rfl, n - (i + 1), by omega, i + 1, hlt, rfl, h₃⟩
    | true =>
      exact wpAny_bind (wpAny_bind (wpAny_mono h₃ (fun x s₄ h₄ => wpAny_bind (wpAny_mono h₄ (fun _ s₅ h₅ => wpAny_pure (wpAny_pure ⟨rfl, n - (i + 1), by omega, i + 1, hlt, rfl, h₅⟩)) fun _ _ h' => h')) fun _ _ h' => h'))
  · have hin : i = n := by omega
    subst hin
    refine wpAny_bind (wpAny_standAt (wpAny_bind (wpAny_mono (fin s' hJ) (fun r s₁ h₁ => ?_) fun _ _ h' => h')))
    obtain ⟨rfl, h₁⟩ := h₁
    exact wpAny_pure h₁

theorem newFunctionEnv_some {scope : Scope} {globals : Addr} {cl : List (Str × Addr)} {qual : Str} {Q : Env → Shared → Prop}
    (hQ : Q (newEnv scope s.heap.objs.size globals (cellsFrom (s.heap.objs.size + 1) scope.names cl) qual none .none (some env) env.builtins)
      { s with heap := pushCells (s.heap.push { cls := .type "dict", data := .dict #[] }) scope.names }) :
    wpAny (model prog w) A (newFunctionEnv scope globals cl [] qual none .none (some env)) Q E s := by
  simp only [newFunctionEnv, Option.isSome_some, if_true]
  refine wpAny_bind (wpAny_alloc ?_)
  refine wpAny_bind (wpAny_layCells _ (fun name kind cells => by cases hkc : kind == NameKind.cell <;> simp [hkc]) _ _ _ _ ?_)
  rw [show ({ s with heap := s.heap.push { cls := .type "dict", data := .dict #[] } } : Shared).heap.objs.size = s.heap.objs.size + 1 from Heap.size_push ..]
  refine wpAny_bind ?_
  rw [List.forIn_nil]
  exact wpAny_pure (wpAny_pure hQ)

/-- one append to the accumulator, with the ledger -/
theorem accL {h₀ : Heap} {L a : Addr} {m : Str → Option Value} {news news' : List (Addr × Obj)} {vs : List Value} {c : Nat} {x : Value} {Q : Value → Shared → Prop} (F : Fr h₀ L s.heap m) (N : Led h₀ L s.heap news) (hu : Upd1 a (lsO vs c) (lsO (vs ++ [x]) (c + 1)) news news') (hz : vs.length ≤ 100000)
    (hq : ∀ h', Fr h₀ L h' m → Led h₀ L h' news' → Q .none { s with heap := h' }) : wpAny (model prog w) A (call (.builtin "list.append") [.ref a, x]) Q E s := by
  have ha := N.get hu.mem
  refine call_meets PySem.F.slot_list_append ⟨_, ha, rfl⟩ PySem.F.entry_list_append (PySem.F.args_list_append_2 _ _) (list_append a vs.toArray c x (by rw [List.size_toArray]; exact Nat.le_trans hz (by decide))) ⟨ha, ?_⟩
  have e : (s.heap.update a (Obj.mapSeq (fun xs => xs.push x))).get? a = some (lsO (vs ++ [x]) (c + 1)) := by
    rw [Heap.get?_update_self _ ha rfl]; simp [Obj.mapSeq]
  obtain ⟨F', N'⟩ := Led.upd F N hu e (Heap.SameBut.update ..)
  exact hq _ F' N'
end
/- RSF11 -/

noncomputable def RowsIn (objs : List (Addr × Obj)) (vs : List Value) (rws : List (List UInt8)) : Prop :=
  vs.length = rws.length ∧ ∀ (k : Nat) (r : List UInt8), rws[k]? = some r → ∃ a ws c, vs[k]? = some (.ref a) ∧ (a, lsO ws c) ∈ objs ∧ IntsAre ws (r.map iu)
theorem RowsIn.nil {objs : List (Addr × Obj)} : RowsIn objs [] [] := ⟨rfl, fun k r e => by simp at e⟩
theorem RowsIn.snoc {objs : List (Addr × Obj)} {vs : List Value} {rws : List (List UInt8)} {a : Addr} {ws : List Value} {c : Nat} {r : List UInt8} (x : RowsIn objs vs rws) (h : IntsAre ws (r.map iu)) : RowsIn ((a, lsO ws c) :: objs) (vs ++ [.ref a]) (rws ++ [r]) := by
  refine ⟨by simp [x.1], fun k r' e => ?_⟩
  by_cases hk : k < rws.length
  · rw [List.getElem?_append_left hk] at e
    obtain ⟨a', ws', c', h1, h2, h3⟩ := x.2 k r' e
    refine ⟨a', ws', c', ?_, .tail _ h2, h3⟩
    rw [List.getElem?_append_left (by rw [x.1]; exact hk)]; exact h1
  · rw [List.getElem?_append_right (by lia)] at e
    have hk0 : k - rws.length = 0 := by
      rcases Nat.eq_zero_or_pos (k - rws.length) with h0 | h0
      · exact h0
      · rw [List.getElem?_eq_none (by simp; lia)] at e; cases e
    rw [hk0] at e
    simp only [List.getElem?_cons_zero, Option.some.injEq] at e
    subst e
    refine ⟨a, ws, c, ?_, .head _, h⟩
    rw [List.getElem?_append_right (by rw [x.1]; lia), x.1, hk0]; rfl
noncomputable def rows0 (sl : List UInt8) (sz : Nat) : List (List UInt8) := (List.range (sl.length - sz)).map fun k => ((List.range sz).map fun st => sl.getD (sz + k - 1 - st) 0) ++ [sl.getD (sz + k) 0]
noncomputable def rowsExpr : Expr := match (bodyAt 15)[0]? with | some (Stmt.Assign _ e _) => e | _ => .Constant .none 0 default

noncomputable abbrev dictO : Obj := { cls := .type "dict", data := .dict #[] }
noncomputable abbrev cellO (v : Option Value) : Obj := { cls := .type "cell", data := .cell v }
/-- the heap as a comprehension with a cell of its own begins -/
theorem compInit (hb : Heap) (it : Obj) (hf : it.isFreed = false) :
    let h2 := hb.push it
    let h3 := h2.push (lsO [] 0)
    let h4 := (h3.push dictO).push (cellO none)
    Fr hb h3.objs.size h4 (fun _ => none) ∧ Led hb h3.objs.size h4 [(h3.objs.size + 1, cellO none), (h2.objs.size, lsO [] 0), (hb.objs.size, it)] := by
  intro h2 h3 h4
  have s2 : h2.objs.size = hb.objs.size + 1 := Heap.size_push ..
  have s3 : h3.objs.size = hb.objs.size + 2 := by show (h2.push _).objs.size = _; rw [Heap.size_push, s2]
  have s3' : (h3.push dictO).objs.size = h3.objs.size + 1 := Heap.size_push ..
  have k1 : hb.StaysIn h2 := stays_push _ _
  have k2 : h2.StaysIn h3 := stays_push _ _
  have k3 : h3.StaysIn (h3.push dictO) := stays_push _ _
  have k4 : (h3.push dictO).StaysIn h4 := stays_push _ _
  have l12 : hb.objs.size ≠ h2.objs.size := Nat.ne_of_lt (by lia)
  have l23 : h2.objs.size ≠ h3.objs.size := Nat.ne_of_lt (by lia)
  have l13 : hb.objs.size ≠ h3.objs.size := Nat.ne_of_lt (by lia)
  have l24 : h2.objs.size ≠ h3.objs.size + 1 := Nat.ne_of_lt (by lia)
  have l14 : hb.objs.size ≠ h3.objs.size + 1 := Nat.ne_of_lt (by lia)
  have none_of : ∀ a, hb.objs.size ≤ a → hb.get? a = none := fun a ha => by
    cases e : hb.get? a with
    | none => rfl
    | some o => exact absurd (Heap.lt_size e) (Nat.not_lt.mpr ha)
  refine ⟨⟨(Heap.Ns.new h3 (.type "dict")).keeps k4, fun b o e => k4 _ _ (k3 _ _ (k2 _ _ (k1 _ _ e))), by lia⟩, fun p hp => ?_, ?_⟩
  · simp only [List.mem_cons, List.not_mem_nil, or_false] at hp
    rcases hp with rfl | rfl | rfl
    · refine ⟨?_, Nat.ne_of_gt (Nat.lt_succ_self _), none_of _ (by dsimp only; lia)⟩
      show h4.get? (h3.objs.size + 1) = _
      rw [← s3']; exact Heap.get?_push_size _ rfl
    · exact ⟨k4 _ _ (k3 _ _ (Heap.get?_push_size _ rfl)), l23, none_of _ (by dsimp only; lia)⟩
    · exact ⟨k4 _ _ (k3 _ _ (k2 _ _ (Heap.get?_push_size _ hf))), l13, none_of _ (Nat.le_refl _)⟩
  · simp only [List.map_cons, List.map_nil, List.nodup_cons, List.mem_cons, List.not_mem_nil, or_false, not_or, List.nodup_nil, and_true, not_false_eq_true]
    exact ⟨⟨Ne.symm l24, Ne.symm l14⟩, Ne.symm l12⟩

theorem range_true (n : Nat) (a : Int) (f : Int → Int) : (((List.range n).map fun j : Nat => a + (j : Int)).filter (fun _ => true)).map f = (List.range n).map fun j : Nat => f (a + (j : Int)) := by
  rw [List.filter_eq_self.mpr (fun _ _ => rfl), List.map_map]; rfl
theorem Led.perm {h₀ h : Heap} {L : Addr} {news news' : List (Addr × Obj)} (N : Led h₀ L h news) (p : news.Perm news') : Led h₀ L h news' :=
  ⟨fun x hx => N.n x (p.mem_iff.mpr hx), (p.map _).nodup_iff.mp N.nd⟩
/-- what an inner frame has made joins the outer ledger -/
theorem Led.join {h₀ hb h' : Heap} {L C : Addr} {m : Str → Option Value} {news news' : List (Addr × Obj)} (F : Fr h₀ L hb m) (N : Led h₀ L hb news) (N' : Led hb C h' news') (k : hb.StaysIn h') : Led h₀ L h' (news' ++ news) := by
  refine ⟨fun p hp => ?_, ?_⟩
  · rcases List.mem_append.mp hp with hp | hp
    · obtain ⟨e, _, hn⟩ := N'.n p hp
      refine ⟨e, fun q => ?_, ?_⟩
      · obtain ⟨oL, _, _, hL, _⟩ := F.ns
        rw [q, hL] at hn; cases hn
      · cases q : h₀.get? p.1 with
        | none => rfl
        | some o => have := F.keep _ _ q; rw [hn] at this; cases this
    · exact ⟨k _ _ (N.n p hp).1, (N.n p hp).2⟩
  · rw [List.map_append, List.nodup_append]
    refine ⟨N'.nd, N.nd, fun x hx y hy e => ?_⟩
    obtain ⟨p, hp, rfl⟩ := List.mem_map.mp hx
    obtain ⟨q, hq, rfl⟩ := List.mem_map.mp hy
    have h1 := (N'.n p hp).2.2
    rw [e, (N.n q hq).1] at h1; cases h1
theorem addListL {prog : Program} {w : World} {A : Around} {E : Value → Shared → Prop} {s : Shared} {h₀ : Heap} {L a b : Addr} {m : Str → Option Value} {news : List (Addr × Obj)} {vs ws : List Value} {c d : Nat} {Q : Value → Shared → Prop} (F : Fr h₀ L s.heap m) (N : Led h₀ L s.heap news)
    (ha : s.heap.get? a = some (lsO vs c)) (hb : s.heap.get? b = some (lsO ws d)) (hz : vs.length + ws.length ≤ 100000)
    (h : ∀ h' r, s.heap.StaysIn h' → Fr h₀ L h' m → Led h₀ L h' ((r, lsO (vs ++ ws) 0) :: news) → Q (.ref r) { s with heap := h' }) : wpAny (model prog w) A (binaryOp .Add (.ref a) (.ref b)) Q E s := by
  refine P.add_list ha hb ?_ (by rw [List.size_toArray, List.size_toArray]; exact Nat.le_trans hz (by decide))
  rw [List.append_toArray]
  exact h _ _ (stays_push _ _) (Fr.stays F (stays_push _ _)) (Led.push F N (lsO (vs ++ ws) 0))
noncomputable def compScope : Expr → Scope | .ListComp _ _ sc _ => sc | _ => default
theorem rows_loop {w : World} {A : Around} {s : Shared} {mg : Str → Option Value} {a aS : Addr} {vs : List Value} {c sz n : Nat} {sl : List UInt8} {szv : Int} {t₀ : Tok} {hb : Heap} {L I D C : Addr} {cdv : Value} {R : Result → Shared → Prop}
    (hh : A.handled = none) (G : Glo mg hb) (mR : mg "range" = none) (mL : mg "len" = none)
    (hc1 : hb.IsCell (L + 1 + 1 + 1) (some (.ref aS))) (hc2 : hb.IsCell (L + 1 + 1 + 1 + 1) (some (.int szv t₀))) (hS : hb.get? aS = some (lsO vs c)) (hvs : IntsAre vs (sl.map iu)) (hsl : sl.length ≤ 100) (hszv : szv = (sz : Int)) (hsz : sz ≤ 100) (hn : n = sl.length - sz)
    (F : Fr hb C s.heap (fun _ => none)) (N : Led hb C s.heap [(C + 1, cellO none), (D, lsO [] 0), (I, rIt szv n)])
    (hR : ∀ h' tk rvs rc objs o, Fr hb C h' (fun _ => none) → Led hb C h' ((C + 1, o) :: (D, lsO rvs rc) :: objs) → RowsIn objs rvs (rows0 sl sz) → R (.ok .next) { s with heap := h', toks := tk }) :
    codeAny (model P w) A (.compLoop rowsExpr 0 (.ref I) (.ref D) (compEnvC (compScope rowsExpr) [("place", C + 1), ("sums", L + 1 + 1 + 1), ("size", L + 1 + 1 + 1 + 1)] C (envOfC (nameAt 15) (scopeAt 15) L a cdv))) R s := by
  have hvl : vs.length = sl.length := by have := ints_len hvs; simpa using this
  refine compLoopA n (fun i s' => ∃ h' tk rvs rc objs o wv, s' = { s with heap := h', toks := tk } ∧ Fr hb C h' (fun _ => none) ∧ Led hb C h' ((C + 1, o) :: (D, lsO rvs rc) :: (I, rIt (szv + (i : Nat)) ((n : Int) - (i : Nat))) :: objs) ∧ o.data = .cell wv ∧ RowsIn objs rvs ((rows0 sl sz).take i))
    ⟨_, _, _, _, [], _, none, rfl, F, by simpa using N, rfl, by simpa using RowsIn.nil⟩ ?_ ?_
  · rintro i s' hi ⟨h', tk, rvs, rc, objs, o, wv, rfl, F', N', hd, hr⟩
    refine wpAny_pyNext_range_item (N'.get (.tail _ (.tail _ (.head _)))) (by lia) fun h₁ hit₁ hs₁ => ⟨_, rfl, wpAny_of_eq rfl ?_⟩
    obtain ⟨F₂, N₂⟩ := Led.upd F' N' (.tail (.tail .head)) hit₁ hs₁
    refine wpAny_assign_Name (stC F₂ N₂ (by rfl) hd (fun _ => .head) (by kernel_rfl!) (by kernel_rfl!) fun h₃ o₃ d₃ F₃ N₃ => ?_)
    refine tests_nil ?_
    rw [if_pos rfl]
    walk_at "go"
    have hcp : h₃.IsCell (C + 1) (some (.int (szv + (i : Nat)) tk)) := ⟨_, N₃.get (.head _), d₃⟩
    refine compR (h₀ := hb) _ (fun _ => true) (fun st => iu (sl.getD (sz + i - 1 - st.toNat) 0)) ?_ hh (by rfl) (by decide +kernel) (by rfl) (by decide +kernel) (by rfl)
    walk_at "go"
    refine call_range_1 ?_
    generalize hg₄ : h₃.push _ = h₄
    have k₄ : h₃.StaysIn h₄ := hg₄ ▸ stays_push _ _
    have F₄ := Fr.stays F₃ k₄
    have N₄ := Led.stays N₃ k₄
    have hcp₄ := hcp.keeps k₄
    have hc1₄ := hc1.keeps F₄.keep
    have hS₄ := F₄.keep _ _ hS
    refine ⟨0, sz, _, _, F₄, N₄, by lia, ⟨⟨_, _, _, _, _, rfl, hg₄ ▸ Heap.get?_push_size _ rfl, by lia, by lia⟩, fun C' i' t' s₃ m' hi' F' hm => tests_nil ⟨rfl, _, _, rfl, fun _ _ e => e⟩, fun C' i' t' s₃ m' hi' _ F' hm => ?_⟩, ?_⟩
    · walk_at "go"
      obtain ⟨tx, hx⟩ := ints_at hvs (j := sz + i - 1 - i') (by lia)
      refine subL (sz + i - 1 - i') (F'.keep _ _ hS₄) (by lia) (by lia) hx (by with_unfolding_all rfl) ?_
      have ei : ((0 : Int) + (i' : Int)).toNat = i' := by lia
      rw [ei]
      exact ⟨⟨_, rfl⟩, _, _, rfl, fun _ _ e => e⟩
    · intro D₅ h₅ tk₅ ws c₅ k₅ F₅ N₅ hws
      clear hc1₄
      have hcp₅ := hcp₄.keeps k₅
      walk_at "go"
      obtain ⟨tx, hx⟩ := ints_at hvs (j := sz + i) (by lia)
      refine subL (sz + i) (F₅.keep _ _ hS) (by lia) (by lia) hx (by with_unfolding_all rfl) ?_
      walk_at "go"
      refine mkListL F₅ N₅ (by simp) fun h₆ b₆ k₆ F₆ N₆ => ?_
      rw [range_true] at hws
      have hwsl : ws.length = sz := by have := ints_len hws; simpa using this
      refine addListL F₆ N₆ (N₆.get (.tail _ (.head _))) (N₆.get (.head _)) (by simp; lia) fun h₇ r k₇ F₇ N₇ => ?_
      have N₈ := N₇.subl (news' := (r, lsO (ws ++ [.int (iu (sl.getD (sz + i) 0)) tx]) 0) :: (C + 1, o₃) :: (D, lsO rvs rc) :: (I, rIt (szv + (i : Nat) + 1) ((n : Int) - (i : Nat) - 1)) :: objs) (.cons_cons _ (.cons _ (.cons _ (List.Sublist.refl _))))
      have hrl : rvs.length = i := by rw [hr.1]; simp [rows0]; lia
      refine accL F₇ N₈ (.tail (.tail .head)) (by lia) fun h₉ F₉ N₉ => ?_
      refine ⟨_, _, rvs ++ [.ref r], rc + 1, (r, lsO (ws ++ [.int (iu (sl.getD (sz + i) 0)) tx]) 0) :: objs, o₃, _, rfl, F₉, ?_, d₃, ?_⟩
      · have e1 : (szv + ((i + 1 : Nat) : Int)) = szv + (i : Nat) + 1 := by lia
        have e2 : ((n : Int) - ((i + 1 : Nat) : Int)) = (n : Int) - (i : Nat) - 1 := by lia
        rw [e1, e2]
        refine N₉.perm ?_
        exact (List.perm_middle (l₁ := [(C + 1, o₃), (D, lsO (rvs ++ [.ref r]) (rc + 1)), (I, rIt (szv + (i : Nat) + 1) ((n : Int) - (i : Nat) - 1))])).symm
      · have et : (rows0 sl sz).take (i + 1) = (rows0 sl sz).take i ++ [((List.range sz).map fun st => sl.getD (sz + i - 1 - st) 0) ++ [sl.getD (sz + i) 0]] := by
          rw [List.take_add_one]
          congr 1
          unfold rows0
          rw [List.getElem?_map, List.getElem?_range (by lia)]; rfl
        rw [et]
        refine hr.snoc ?_
        rw [List.map_append]
        have hws' : IntsAre ws (((List.range sz).map fun st => sl.getD (sz + i - 1 - st) 0).map iu) := by
          have e : (List.range sz).map (fun j : Nat => iu (sl.getD (sz + i - 1 - ((0 : Int) + (j : Int)).toNat) 0)) = ((List.range sz).map fun st => sl.getD (sz + i - 1 - st) 0).map iu := by
            rw [List.map_map]
            apply List.map_congr_left
            intro x _
            simp
          rw [← e]; exact hws
        exact ints_snoc hws'
  · rintro s' ⟨h', tk, rvs, rc, objs, o, wv, rfl, F', N', hd, hr⟩
    refine wpAny_pyNext_range_end hh (N'.get (.tail _ (.tail _ (.head _)))) (by lia) fun h₁ hx₁ => ⟨rfl, ?_⟩
    have N₂ : Led hb C h' ((I, rIt (szv + (n : Nat)) ((n : Int) - (n : Nat))) :: (C + 1, o) :: (D, lsO rvs rc) :: objs) := N'.perm (List.perm_middle (l₁ := [(C + 1, o), (D, lsO rvs rc)]))
    have et : (rows0 sl sz).take n = rows0 sl sz := by rw [List.take_of_length_le]; unfold rows0; simp; lia
    rw [et] at hr
    exact hR _ _ rvs rc objs o (Fr.extBut F' (N₂.fresh (.head _)) (N₂.n _ (.head _)).2.1 hx₁) (Led.extBut N₂ hx₁) hr

theorem rows_spec {w : World} {A : Around} {E : Value → Shared → Prop} {s : Shared} {mg : Str → Option Value} {a aS : Addr} {vs : List Value} {c sz : Nat} {sl : List UInt8} {szv : Int} {t₀ : Tok} {h₀ : Heap} {L : Addr} {cdv : Value} {m : Str → Option Value} {news : List (Addr × Obj)} {Q : Value → Shared → Prop}
    (hh : A.handled = none) (G : Glo mg h₀) (mR : mg "range" = none) (mL : mg "len" = none)
    (F : Fr h₀ L s.heap m) (N : Led h₀ L s.heap news) (hc1 : s.heap.IsCell (L + 1 + 1 + 1) (some (.ref aS))) (hc2 : s.heap.IsCell (L + 1 + 1 + 1 + 1) (some (.int szv t₀))) (hS : s.heap.get? aS = some (lsO vs c)) (hvs : IntsAre vs (sl.map iu)) (hsl : sl.length ≤ 100) (hszv : szv = (sz : Int)) (hsz : sz ≤ 100)
    (h : ∀ D h' tk rvs rc objs, Fr h₀ L h' m → Led h₀ L h' ((D, lsO rvs rc) :: (objs ++ news)) → RowsIn objs rvs (rows0 sl sz) → Q (.ref D) { s with heap := h', toks := tk }) :
    wpAny (model P w) A (eval rowsExpr (envOfC (nameAt 15) (scopeAt 15) L a cdv)) Q E s := by
  have hvl : vs.length = sl.length := by have := ints_len hvs; simpa using this
  rw [show rowsExpr = rowsExpr from rfl]
  unfold rowsExpr
  refine wpAny_mono (E := fun _ _ => False) ?_ (fun _ _ x => x) (fun _ _ x => x.elim)
  show wpAny _ _ (eval (.ListComp _ _ _ _) _) _ _ _
  rw [eval_ListComp]
  refine wpAny_comprehension_free (use := none) rfl (by intro _; rfl) (by rfl) (by rfl) (by decide +kernel) ?_
  show wpAny _ _ (eval (.Call _ _ _ _) _) _ _ _
  walk_at "go"
  refine lenL sl.length hS (by lia) (by lia) ?_
  walk_at "go"
  refine call_range_2 ?_
  have hsmall : Builtin.Range.small szv sl.length 1 = true := small_one (by lia) (by lia) (by lia) (by lia)
  refine wpAny_pyIter_range (Heap.get?_push_size _ rfl) hsmall ?_
  have hrs : Builtin.Range.rangeSize szv sl.length 1 = ((sl.length - sz : Nat) : Int) := by rw [rangeSize_one]; split <;> lia
  rw [hrs]
  unfold newList
  refine wpAny_newObj_type ?_ (by size_fits)
  refine newFunctionEnv_some ?_
  generalize hhb : s.heap.push _ = hb
  have kb : s.heap.StaysIn hb := hhb ▸ stays_push _ _
  obtain ⟨F₁, N₁⟩ := compInit hb (rIt szv ((sl.length - sz : Nat) : Int)) rfl
  generalize hI : hb.objs.size = I at F₁ N₁ ⊢
  have hit := N₁.get (.tail _ (.tail _ (.head _)))
  have Fb := Fr.stays F kb
  have Nb := Led.stays N kb
  have loop : ∀ s₄ : Shared, (∃ tk, s₄ = { s with heap := (((hb.push (rIt szv ((sl.length - sz : Nat) : Int))).push (lsO [] 0)).push dictO).push (cellO none), toks := tk }) →
      codeAny (model P w) A (.compLoop rowsExpr 0 (.ref I) (.ref (hb.push (rIt szv ((sl.length - sz : Nat) : Int))).objs.size) (compEnvC (compScope rowsExpr) [("place", ((hb.push (rIt szv ((sl.length - sz : Nat) : Int))).push (lsO [] 0)).objs.size + 1), ("sums", L + 1 + 1 + 1), ("size", L + 1 + 1 + 1 + 1)] ((hb.push (rIt szv ((sl.length - sz : Nat) : Int))).push (lsO [] 0)).objs.size (envOfC (nameAt 15) (scopeAt 15) L a cdv)))
        (compPost (model P w) A (fun _ _ => False) none Q (.ref (hb.push (rIt szv ((sl.length - sz : Nat) : Int))).objs.size) ((hb.push (rIt szv ((sl.length - sz : Nat) : Int))).push (lsO [] 0)).objs.size) s₄ := by
    rintro s₄ ⟨tk₄, rfl⟩
    refine rows_loop hh (G.keeps Fb.keep) mR mL (hc1.keeps kb) (hc2.keeps kb) (kb _ _ hS) hvs hsl hszv hsz rfl F₁ N₁ fun h' tk rvs rc objs o F' N' hr => ?_
    refine ⟨_, F'.ns, fun h'' hs => ?_⟩
    have N₂ := (N'.tail).set hs
    have k₂ : hb.StaysIn h'' := fun b o e => (hs.2 b (fun q => absurd (Heap.lt_size e) (Nat.not_lt.mpr (q ▸ F'.above)))).trans (F'.keep _ _ e)
    exact h _ _ _ rvs rc objs (Fr.stays Fb k₂) (Led.join Fb Nb N₂ k₂) hr
  have e0 : rIt (szv + ((0 : Nat) : Int)) (((sl.length - sz : Nat) : Int) - ((0 : Nat) : Int)) = rIt szv ((sl.length - sz : Nat) : Int) := by simp
  exact codeAny_compStart_list (loop _ ⟨_, rfl⟩) ((walksR hh I szv (sl.length - sz)).self 0 _ _ _ (e0 ▸ hit) (loop _ ⟨_, rfl⟩))
/- RSC5 -/
section
variable {prog : Program} {w : World} {A : Around} {E : Value → Shared → Prop} {s : Shared} {env : Env} {h₀ : Heap}
theorem not_mem_one {b I : Addr} (h : b ≠ I) : b ∉ [I] := fun hm => by
  rcases List.mem_cons.mp hm with e | hm
  · exact h e
  · cases hm
/-- the frame and the ledger behind a comprehension whose list goes into a local name -/
theorem after_assign {s₁h h' : Heap} {L I D : Addr} {m : Str → Option Value} {y : Str} {news : List (Addr × Obj)} {o : Obj} (F : Fr h₀ L s₁h m) (N : Led h₀ L s₁h news) (hI : s₁h.get? I = none)
    (hn : h'.Ns L (fun z => if z = y then some (.ref D) else m z)) (hk : ∀ b o, b ≠ L → b ∉ [I] → s₁h.get? b = some o → h'.get? b = some o) (hD : s₁h.get? D = none) (hD' : h'.get? D = some o) :
    Fr h₀ L h' (fun z => if z = y then some (.ref D) else m z) ∧ Led h₀ L h' ((D, o) :: news) := by
  have hLn : ∀ b o, h₀.get? b = some o → b ≠ L := fun b o e q => absurd (Heap.lt_size e) (Nat.not_lt.mpr (q ▸ F.above))
  have hIn : ∀ b o, s₁h.get? b = some o → b ∉ [I] := fun b o e => not_mem_one fun q => by rw [q, hI] at e; cases e
  refine ⟨⟨hn, fun b o e => hk b o (hLn b o e) (hIn b o (F.keep _ _ e)) (F.keep _ _ e), F.above⟩, fun p hp => ?_, List.nodup_cons.mpr ⟨fun hm => ?_, N.nd⟩⟩
  · rcases List.mem_cons.mp hp with rfl | hp
    · refine ⟨hD', fun q => ?_, ?_⟩
      · obtain ⟨oL, _, _, hL, _⟩ := F.ns
        dsimp only at q
        rw [q, hL] at hD; cases hD
      · cases q : h₀.get? D with
        | none => rfl
        | some o' => have := F.keep _ _ q; rw [hD] at this; cases this
    · exact ⟨hk _ _ (N.n p hp).2.1 (hIn _ _ (N.n p hp).1) (N.n p hp).1, (N.n p hp).2⟩
  · obtain ⟨p, hp, e⟩ := List.mem_map.mp hm
    have := (N.n p hp).1
    rw [e, hD] at this; cases this

theorem compRA {elt iter : Expr} {x y : Str} {px py : Pos} {ifs : List Expr} {scope : Scope} {pos spos : Pos} {Q : Flow → Shared → Prop} (cl : List (Str × Addr)) (q : Int → Bool) (f : Int → Int)
    (h : wpAny (model prog w) A (eval iter env) (fun xv s₁ => ∃ a n m news, Fr h₀ env.locals s₁.heap m ∧ Led h₀ env.locals s₁.heap news ∧ n ≤ 100000 ∧ CompR prog w A env scope cl x ifs elt xv s₁ a n q f ∧
      (∀ D h' tk vs c, Fr h₀ env.locals h' (fun z => if z = y then some (.ref D) else m z) → Led h₀ env.locals h' ((D, lsO vs c) :: news) → IntsAre vs ((((List.range n).map fun j : Nat => a + (j : Int)).filter q).map f) → Q .next { s₁ with heap := h', toks := tk })) E s)
    (hh : A.handled = none) (hsw : swapsWith (.ListComp elt [⟨.Name x px, iter, ifs, 0⟩] scope pos) (some (.Name y py)) spos.line env = pure true)
    (hclos : closureFor scope env = pure cl) (hcell : ∀ y ∈ scope.names, y.2 ≠ .cell) (hkind : scope.kind = .function)
    (hnames : ∀ y ∈ scope.names, y.2 = .local → scope.names.lookup y.1 = some .local) (hx : scope.names.lookup x = some .local)
    (hy : (env.scope.names.lookup y == some NameKind.local) = true) (hk : (env.scope.kind == .function) = true)
    (hs : ∀ x, foldedSetIterable iter env x = pure x := by intro _; rfl) :
    wpAny (model prog w) A (exec (.Assign [.Name y py] (.ListComp elt [⟨.Name x px, iter, ifs, 0⟩] scope pos) spos) env) Q E s := by
  refine wpAny_Assign_ListComp_free (cl := cl) (ofI q) (toI f) hsw hclos hcell hkind hnames hx (eq_of_beq hy) (by rw [eq_of_beq hk]; rfl) (wpAny_mono h (fun xv s₁ h₁ => ?_) fun _ _ x => x) hs
  obtain ⟨a, n, m, news, F, N, hn, c, hQ⟩ := h₁
  refine c.go fun I hI hst hit hlt => ⟨I, [I], [I], n, _, _, m, rfl, walksR hh I a n, Nat.le_trans hn (by decide), hit, fun b hb => ?_, ?_, (Fr.stays F hst).ns, c.quiet hst (by rw [Heap.size_push]; exact Nat.le_succ _) hI, fun D h' tk ys vs hD hl hpl hlen hP hF hns hk => ?_⟩
  · rcases List.mem_cons.mp hb with rfl | hb
    · exact hlt
    · cases hb
  · refine not_mem_one fun q => ?_
    obtain ⟨oL, _, _, hL, _⟩ := F.ns
    rw [q, hI] at hL; cases hL
  · obtain ⟨cc, hD'⟩ := hpl
    have hDn : s₁.heap.get? D = none := by
      cases e : s₁.heap.get? D with
      | none => rfl
      | some o => have := hst _ _ e; rw [hD] at this; cases this
    obtain ⟨F', N'⟩ := after_assign F N hI hns (fun b o h1 h2 e => hk b o h1 h2 (hst _ _ e)) hDn hD'
    exact hQ D h' tk ys.toList cc F' (by simpa using N') (ints_done (ints_range hlen hP) hF)

/-- a comprehension over a list of ints -/
structure CompL (prog : Program) (w : World) (A : Around) (env : Env) (scope : Scope) (cl : List (Str × Addr)) (x : Str) (elt : Expr) (xv : Value) (s₁ : Shared) (ns : List Int) (f : Int → Int) : Prop where
  lst : ∃ r vs c, xv = .ref r ∧ s₁.heap.get? r = some (lsO vs c) ∧ IntsAre vs ns
  elt : ∀ C (n : Int) t (s₃ : Shared) m', n ∈ ns → Fr s₁.heap C s₃.heap m' → m' x = some (.int n t) →
    wpAny (model prog w) A (eval elt (compEnvC scope cl C env)) (fun y s₄ => (∃ u, y = .int (f n) u) ∧ Keeps s₃ s₄) (fun _ _ => False) s₃

theorem compLA {elt iter : Expr} {x y : Str} {px py : Pos} {scope : Scope} {pos spos : Pos} {Q : Flow → Shared → Prop} (cl : List (Str × Addr)) (f : Int → Int)
    (h : wpAny (model prog w) A (eval iter env) (fun xv s₁ => ∃ ns m news, Fr h₀ env.locals s₁.heap m ∧ Led h₀ env.locals s₁.heap news ∧ ns.length ≤ 100000 ∧ CompL prog w A env scope cl x elt xv s₁ ns f ∧
      (∀ D h' tk vs c, Fr h₀ env.locals h' (fun z => if z = y then some (.ref D) else m z) → Led h₀ env.locals h' ((D, lsO vs c) :: news) → IntsAre vs (ns.map f) → Q .next { s₁ with heap := h', toks := tk })) E s)
    (hh : A.handled = none) (hsw : swapsWith (.ListComp elt [⟨.Name x px, iter, [], 0⟩] scope pos) (some (.Name y py)) spos.line env = pure true)
    (hclos : closureFor scope env = pure cl) (hcell : ∀ y ∈ scope.names, y.2 ≠ .cell) (hkind : scope.kind = .function)
    (hnames : ∀ y ∈ scope.names, y.2 = .local → scope.names.lookup y.1 = some .local) (hx : scope.names.lookup x = some .local)
    (hy : (env.scope.names.lookup y == some NameKind.local) = true) (hk : (env.scope.kind == .function) = true)
    (hs : ∀ x, foldedSetIterable iter env x = pure x := by intro _; rfl) :
    wpAny (model prog w) A (exec (.Assign [.Name y py] (.ListComp elt [⟨.Name x px, iter, [], 0⟩] scope pos) spos) env) Q E s := by
  refine wpAny_Assign_ListComp_free (cl := cl) (ofI fun _ => true) (toI f) hsw hclos hcell hkind hnames hx (eq_of_beq hy) (by rw [eq_of_beq hk]; rfl) (wpAny_mono h (fun xv s₁ h₁ => ?_) fun _ _ x => x) hs
  obtain ⟨ns, m, news, F, N, hn, c, hQ⟩ := h₁
  obtain ⟨r, vs, cv, rfl, hr, hvs⟩ := c.lst
  have hlen := ints_len hvs
  refine wpAny_pyIter_list (isL hr) ?_
  have hI := get_size_none s₁.heap
  have hst := stays_push s₁.heap { cls := .type "list_iterator", data := .fields #[.ref r, .int 0 0] }
  have hrI : r ≠ s₁.heap.objs.size := Nat.ne_of_lt (Heap.lt_size hr)
  have hit : (s₁.heap.push { cls := .type "list_iterator", data := .fields #[.ref r, .int 0 0] }).IsListIter s₁.heap.objs.size r 0 := ⟨_, Heap.get?_push_size _ rfl, rfl, rfl⟩
  have hlt : s₁.heap.objs.size < (s₁.heap.push { cls := .type "list_iterator", data := .fields #[.ref r, .int 0 0] }).objs.size := by rw [Heap.size_push]; exact Nat.lt_succ_self _
  have hsize : s₁.heap.objs.size ≤ (s₁.heap.push { cls := .type "list_iterator", data := .fields #[.ref r, .int 0 0] }).objs.size := Nat.le_of_lt hlt
  have hrl : r < (s₁.heap.push { cls := .type "list_iterator", data := .fields #[.ref r, .int 0 0] }).objs.size := Nat.lt_trans (Heap.lt_size hr) hlt
  obtain ⟨h₂, hh₂⟩ : ∃ h₂, h₂ = s₁.heap.push { cls := .type "list_iterator", data := .fields #[.ref r, .int 0 0] } := ⟨_, rfl⟩
  rw [← hh₂] at hst hit hlt hrl hsize ⊢
  obtain ⟨I, hhI⟩ : ∃ I, I = s₁.heap.objs.size := ⟨_, rfl⟩
  rw [← hhI] at hI hrI hit hlt ⊢
  have mem_ns : ∀ (i : Nat) v, vs.toArray[i]? = some v → ∃ n t, v = .int n t ∧ n ∈ ns := fun i v e => by
    have hi : i < vs.length := by
      rcases Nat.lt_or_ge i vs.length with h1 | h1
      · exact h1
      · rw [List.getElem?_toArray, List.getElem?_eq_none h1] at e; cases e
    obtain ⟨t, ht⟩ := (ints_get hvs).2 i _ (List.getElem?_eq_getElem (l := ns) (by lia))
    rw [List.getElem?_toArray, ht] at e
    cases e
    exact ⟨_, _, rfl, List.getElem_mem _⟩
  have fr : ∀ C (s₃ : Shared) m₃, h₂.objs.size ≤ C → s₃.heap.Ns C m₃ → (∀ b o, b ∉ [I] → h₂.get? b = some o → s₃.heap.get? b = some o) → Fr s₁.heap C s₃.heap m₃ := fun C s₃ m₃ hC hn hk =>
    ⟨hn, fun b o e => hk b o (not_mem_one fun q => by rw [q, hI] at e; cases e) (hst b o e), Nat.le_trans hsize hC⟩
  refine ⟨I, [I, r], [I], vs.toArray.size, _, _, m, rfl, Walks.list hh I r hrI vs.toArray, ?_, ⟨hit, isL (s := { s₁ with heap := h₂ }) (hst _ _ hr)⟩, fun b hb => ?_, ?_, (Fr.stays F hst).ns, ⟨?_, ?_⟩, fun D h' tk ys vs' hD hl hpl hlen' hP hF hns hk => ?_⟩
  · rw [List.size_toArray, hlen]; exact Nat.le_trans hn (by decide)
  · simp only [List.mem_cons, List.not_mem_nil, or_false] at hb
    rcases hb with rfl | rfl
    · exact hlt
    · exact hrl
  · refine not_mem_one fun q => ?_
    obtain ⟨oL, _, _, hL, _⟩ := F.ns
    rw [q, hI] at hL; cases hL
  · intro C i v s₃ m₃ E' hC hv hn' hm hk' _
    obtain ⟨n, t, rfl, _⟩ := mem_ns i v hv
    exact wpAny_tests_nil ⟨rfl, _, _, rfl, fun _ _ e => e⟩
  · intro C i v s₃ m₃ E' hC hv hp hn' hm hk' _
    obtain ⟨n, t, rfl, hmem⟩ := mem_ns i v hv
    refine wpAny_mono (c.elt C n t s₃ m₃ hmem (fr C s₃ m₃ hC hn' hk') hm) (fun y s₄ x => ⟨fun n' t' e => ?_, x.2⟩) fun _ _ x => x.elim
    cases e; exact x.1
  · obtain ⟨cc, hD'⟩ := hpl
    have hDn : s₁.heap.get? D = none := by
      cases e : s₁.heap.get? D with
      | none => rfl
      | some o => have := hst _ _ e; rw [hD] at this; cases this
    obtain ⟨F', N'⟩ := after_assign F N hI hns (fun b o h1 h2 e => hk b o h1 h2 (hst _ _ e)) hDn hD'
    have hvs' : vs' = vs := by
      apply List.ext_getElem?
      intro j
      by_cases hj : j < vs'.length
      · have := hP j _ (List.getElem?_eq_getElem hj)
        rw [List.getElem?_toArray] at this
        rw [this, List.getElem?_eq_getElem hj]
      · rw [List.getElem?_eq_none (by lia), List.getElem?_eq_none (by rw [List.size_toArray] at hlen'; lia)]
    subst hvs'
    have hi := ints_done hvs hF
    rw [List.filter_eq_self.mpr (fun _ _ => rfl)] at hi
    exact hQ D h' tk ys.toList cc F' (by simpa using N') hi
end
/- RSC6 -/
section
variable {prog : Program} {w : World} {A : Around} {E : Value → Shared → Prop} {s : Shared} {env : Env} {h₀ : Heap}
/-- a comprehension over pairs, its items ints -/
theorem compPair {elt iter : Expr} {xa xb : Str} {pa pb tp : Pos} {kt : Nat} {scope : Scope} {pos : Pos} {Q : Value → Shared → Prop} (cl : List (Str × Addr))
    (h : wpAny (model prog w) A (eval iter env) (fun xv s₁ => ∃ I fp wr n Pt St Mid hb m news f, xv = .ref I ∧ WalksT prog w A I fp wr n Pt St Mid ∧ n ≤ 100000 ∧ St 0 s₁.heap ∧ (∀ b ∈ fp, b < s₁.heap.objs.size) ∧
      hb.StaysIn s₁.heap ∧ hb.objs.size ≤ s₁.heap.objs.size ∧ (∀ b ∈ wr, hb.get? b = none) ∧ Fr h₀ env.locals hb m ∧ Led h₀ env.locals hb news ∧ (∀ i vals, Pt i vals → ∃ x y, vals = #[x, y]) ∧
      (∀ C i x y (s₃ : Shared) m', i < n → Pt i #[x, y] → Fr hb C s₃.heap m' → m' xa = some x → m' xb = some y →
        wpAny (model prog w) A (eval elt (compEnvC scope cl C env)) (fun v s₄ => (∃ u, v = .int (f i) u) ∧ Keeps s₃ s₄) (fun _ _ => False) s₃) ∧
      (∀ D h' tk ys c, Fr h₀ env.locals h' m → Led h₀ env.locals h' ((D, lsO ys c) :: news) → IntsAre ys ((List.range n).map f) → Q (.ref D) { s₁ with heap := h', toks := tk })) E s)
    (hh : A.handled = none) (hclos : closureFor scope env = pure cl) (hcell : ∀ y ∈ scope.names, y.2 ≠ .cell) (hkind : scope.kind = .function)
    (hnames : ∀ y ∈ scope.names, y.2 = .local → scope.names.lookup y.1 = some .local) (hxa : scope.names.lookup xa = some .local) (hxb : scope.names.lookup xb = some .local) (hab : xa ≠ xb)
    (hs : ∀ x, foldedSetIterable iter env x = pure x := by intro _; rfl) :
    wpAny (model prog w) A (eval (.ListComp elt [⟨.Tuple [.Name xa pa, .Name xb pb] kt tp, iter, [], 0⟩] scope pos) env) Q E s := by
  rw [eval_ListComp]
  refine wpAny_comprehension_free (use := none) rfl hs hclos hkind hnames (wpAny_mono h (fun xv s₁ h₁ => ?_) fun _ _ e => e)
  obtain ⟨I, fp, wr, n, Pt, St, Mid, hb, m, news, f, rfl, W, hn, hst, hfp, hbs, hbz, hwr, F, N, hpair, helt, hQ⟩ := h₁
  refine W.self 0 _ _ _ hst ?_
  unfold newList
  refine wpAny_newObj_type ?_ (by size_fits)
  refine wpAny_newFunctionEnv hcell (by intro y hy; simp at hy) (fun h₁ hns₁ hsb₁ => ?_) hkind
  dsimp only at hns₁ hsb₁ ⊢
  obtain ⟨H2, hH2⟩ : ∃ H2, H2 = s₁.heap.push { cls := .type "list", dict := none, data := .seq ([] : List Value).toArray } := ⟨_, rfl⟩
  rw [← hH2] at hns₁ hsb₁ ⊢
  have hC : H2.objs.size = s₁.heap.objs.size + 1 := by rw [hH2, Heap.size_push]
  obtain ⟨C, hCC⟩ : ∃ C, C = H2.objs.size := ⟨_, rfl⟩
  rw [← hCC] at hns₁ hsb₁ ⊢
  obtain ⟨D, hDD⟩ : ∃ D, D = s₁.heap.objs.size := ⟨_, rfl⟩
  rw [← hDD] at ⊢
  have hDC : D ≠ C := by rw [hDD, hCC, hC]; exact Nat.ne_of_lt (Nat.lt_succ_self _)
  have below : ∀ b, b < s₁.heap.objs.size → b ≠ C ∧ b ≠ D := fun b hb => ⟨by rw [hCC, hC]; exact Nat.ne_of_lt (Nat.lt_succ_of_lt hb), by rw [hDD]; exact Nat.ne_of_lt hb⟩
  have old : ∀ b o, s₁.heap.get? b = some o → h₁.get? b = some o := fun b o e => hsb₁.extBut b o (below b (Heap.lt_size e)).1 (Heap.get?_push_of_some _ (hH2 ▸ Heap.get?_push_of_some _ e))
  have hacc : h₁.get? D = some (lsO [] 0) := hsb₁.extBut _ _ hDC (Heap.get?_push_of_some _ (by rw [hDD, hH2]; exact Heap.get?_push_size _ rfl))
  have hst₁ : St 0 h₁ := W.frame _ _ _ hst fun b _ o e => old b o e
  have hfD : D ∉ fp := fun hm => by have := (below D (hfp _ hm)).2; exact this rfl
  have hfC : C ∉ fp := fun hm => by have := (below C (hfp _ hm)).1; exact this rfl
  have hwD : D ∉ wr := fun hm => hfD (W.sub _ hm)
  have hwC : C ∉ wr := fun hm => hfC (W.sub _ hm)
  have hbw : ∀ b o, hb.get? b = some o → b ∉ wr := fun b o e hm => by rw [hwr b hm] at e; cases e
  have hbC : hb.objs.size ≤ C := by rw [hCC, hC]; exact Nat.le_succ_of_le hbz
  have loop : ∀ s₃ : Shared, s₃ = { s₁ with heap := h₁, toks := s₁.toks + ([] : List (Str × Value)).length } →
      codeAny (model prog w) A (.compLoop (.ListComp elt [⟨.Tuple [.Name xa pa, .Name xb pb] kt tp, iter, [], 0⟩] scope pos) 0 (.ref I) (.ref D) (compEnvC scope cl C env))
        (compPost (model prog w) A E none Q (.ref D) C) s₃ := by
    rintro s₃ rfl
    refine compLoopA n (fun i s' => ∃ h' tk m' ys c, s' = { s₁ with heap := h', toks := tk } ∧ St i h' ∧ h'.Ns C m' ∧ (∀ b o, b ∉ wr → s₁.heap.get? b = some o → h'.get? b = some o) ∧ h'.get? D = some (lsO ys c) ∧ IntsAre ys ((List.range i).map f) ∧ ys.length = i)
      ⟨_, _, _, [], 0, rfl, hst₁, hns₁, fun b o _ e => old b o e, hacc, .nil, rfl⟩ ?_ ?_
    · rintro i s' hi ⟨h', tk, m', ys, c, rfl, hst', hn', hk', hD', hys, hyl⟩
      refine W.item i _ _ _ hi hst' fun T vals h₂ tk₂ hP hT hTup hmid hk₂ => ⟨_, rfl, W.go _ _ _ i T _ _ _ hmid fun h₃ hst₃ hk₃ => ?_⟩
      obtain ⟨x, y, rfl⟩ := hpair i vals hP
      have hTw := W.apart i T _ hmid
      have hTup₃ : h₃.IsTuple T #[x, y] := by
        obtain ⟨ot, e1, e2⟩ := hTup
        exact ⟨ot, hk₃ _ _ hTw e1, e2⟩
      refine wpAny_assign_Tuple hh hTup₃ rfl rfl fun h₄ hx₄ => ?_
      have k₄ : h₃.StaysIn h₄ := fun b o e => hx₄ b o (Nat.ne_of_lt (Heap.lt_size e)) e
      have hn₄ : h₄.Ns C m' := hn'.at' fun o e => k₄ _ _ (hk₃ _ o hwC (hk₂ _ o hwC e))
      have hp : ((compEnvC scope cl C env).scope.kind == .class || ((compEnvC scope cl C env).scope.kind == .module && (compEnvC scope cl C env).locals != (compEnvC scope cl C env).globals)) = false := by simp [compEnvC, relabel, hkind]
      refine wpAny_assignInOrder_more (wpAny_assign_Name (wpAny_storeName_local (env := compEnvC scope cl C env) (lookup_relabel_local hxa) hn₄ (fun h₅ hn₅ hs₅ => ?_) hp))
      refine wpAny_assignInOrder_more (wpAny_assign_Name (wpAny_storeName_local (env := compEnvC scope cl C env) (lookup_relabel_local hxb) hn₅ (fun h₆ hn₆ hs₆ => ?_) hp))
      refine wpAny_assignInOrder_none (tests_nil ?_)
      rw [if_pos rfl]
      have keep : ∀ b o, b ∉ wr → b ≠ C → h'.get? b = some o → h₆.get? b = some o := fun b o h1 h2 e =>
        (hs₆.2 b h2).trans ((hs₅.2 b h2).trans (k₄ _ _ (hk₃ _ _ h1 (hk₂ _ _ h1 e))))
      have Fc : Fr hb C h₆ (fun z => if z = xb then some y else if z = xa then some x else m' z) :=
        ⟨hn₆, fun b o e => keep b o (hbw b o e) (below b (Nat.lt_of_lt_of_le (Heap.lt_size e) hbz)).1 (hk' b o (hbw b o e) (hbs b o e)), hbC⟩
      refine wpAny_mono (helt C i x y _ _ hi hP Fc (by rw [if_neg hab, if_pos rfl]) (by rw [if_pos rfl])) (fun v s₇ h₇ => ?_) fun _ _ e => e
      obtain ⟨⟨u, rfl⟩, g₇, tk₇, rfl, k₇⟩ := h₇
      have hD₇ : g₇.get? D = some (lsO ys c) := k₇ _ _ (keep D _ hwD hDC hD')
      refine call_meets PySem.F.slot_list_append ⟨_, hD₇, rfl⟩ PySem.F.entry_list_append (PySem.F.args_list_append_2 _ _) (list_append D ys.toArray c (.int (f i) u) (by rw [List.size_toArray, hyl]; exact Nat.le_trans (Nat.le_of_lt hi) (Nat.le_trans hn (by decide)))) ⟨hD₇, ?_⟩
      have eD : (g₇.update D (Obj.mapSeq (fun xs => xs.push (.int (f i) u)))).get? D = some (lsO (ys ++ [.int (f i) u]) (c + 1)) := by
        rw [Heap.get?_update_self _ hD₇ rfl]; simp [Obj.mapSeq]
      have sb : Heap.SameBut D g₇ (g₇.update D (Obj.mapSeq (fun xs => xs.push (.int (f i) u)))) := Heap.SameBut.update ..
      refine ⟨_, _, (fun z => if z = xb then some y else if z = xa then some x else m' z), ys ++ [.int (f i) u], c + 1, rfl, ?_, ?_, ?_, eD, ?_, by simp [hyl]⟩
      · refine W.frame _ _ _ hst₃ fun b hb' o e => ?_
        have h1 : b ≠ C := fun q => hfC (q ▸ hb')
        have h2 : b ≠ D := fun q => hfD (q ▸ hb')
        exact (sb.2 b h2).trans (k₇ _ _ ((hs₆.2 b h1).trans ((hs₅.2 b h1).trans (k₄ _ _ e))))
      · exact hn₆.at' fun o e => (sb.2 C (Ne.symm hDC)).trans (k₇ _ _ e)
      · intro b o h1 e
        have hb2 := below b (Heap.lt_size e)
        exact (sb.2 b hb2.2).trans (k₇ _ _ (keep b o h1 hb2.1 (hk' b o h1 e)))
      · rw [List.range_succ, List.map_append]
        have : ∀ {vs : List Value} {ns : List Int} {n : Int} {t : Tok}, IntsAre vs ns → IntsAre (vs ++ [.int n t]) (ns ++ [n]) := fun h => ints_snoc h
        exact this hys
    · rintro s' ⟨h', tk, m', ys, c, rfl, hst', hn', hk', hD', hys, hyl⟩
      refine W.done _ _ _ hst' fun h₂ tk₂ hk₂ => ⟨rfl, ?_⟩
      have hn₂ : h₂.Ns C m' := hn'.at' fun o e => hk₂ _ o hwC e
      refine ⟨m', hn₂, fun h'' hs'' => ?_⟩
      have k : hb.StaysIn h'' := fun b o e => (hs''.2 b (below b (Nat.lt_of_lt_of_le (Heap.lt_size e) hbz)).1).trans (hk₂ b o (hbw b o e) (hk' b o (hbw b o e) (hbs b o e)))
      have hDn : hb.get? D = none := by
        cases e : hb.get? D with
        | none => rfl
        | some o => exact absurd rfl (below D (Nat.lt_of_lt_of_le (Heap.lt_size e) hbz)).2
      exact hQ D h'' tk₂ ys c (Fr.stays F k) (Led.new' F N k hDn ((hs''.2 D hDC).trans (hk₂ _ _ hwD hD'))) hys
  exact codeAny_compStart_list (loop _ rfl) (W.self 0 _ _ _ hst₁ (loop _ rfl))
end
/- RSC7 -/
section
variable {prog : Program} {w : World} {A : Around} {E : Value → Shared → Prop} {s : Shared} {env : Env}
noncomputable abbrev NextC (h₀ : Heap) (L : Addr) (s₁ : Shared) (p : Addr × Obj) (c : Addr) (J : (Str → Option Value) → List (Addr × Obj) → Prop) (s₃ : Shared) : Prop :=
  ∃ h' tk' m₂ o₂ w₂ news₂, s₃ = { s₁ with heap := h', toks := tk' } ∧ Fr h₀ L h' m₂ ∧ o₂.data = .cell w₂ ∧ Led h₀ L h' (p :: (c, o₂) :: news₂) ∧ J m₂ news₂
/-- the loop over a range whose target is a cell -/
theorem forRangeCell {h₀ : Heap} {x : Str} {c : Addr} {px pos : Pos} {iter : Expr} {body : List Stmt} {Q : Flow → Shared → Prop}
    (h : wpAny (model prog w) A (eval iter env) (fun xv s₁ => ∃ (r : Addr) (a b : Int) (t u v : Tok) (n : Nat) (m : Str → Option Value) (o : Obj) (wv : Option Value) (news : List (Addr × Obj)) (J : Nat → (Str → Option Value) → List (Addr × Obj) → Prop),
      xv = .ref r ∧ s₁.heap.get? r = some (rObj a b t u v) ∧ (-1000000 ≤ a ∧ a ≤ 1000000 ∧ -1000000 ≤ b ∧ b ≤ 1000000) ∧ n = (b - a).toNat ∧ Fr h₀ env.locals s₁.heap m ∧ o.data = .cell wv ∧ Led h₀ env.locals s₁.heap ((c, o) :: news) ∧ J 0 m news ∧
      (∀ i t m₁ news₁ I h tk o, i < n → J i m₁ news₁ → o.data = .cell (some (.int (a + i) t)) → Fr h₀ env.locals h m₁ → Led h₀ env.locals h ((I, rIt (a + i + 1) (n - i - 1)) :: (c, o) :: news₁) →
        wpC (model prog w) A (execs body env) (LoopQ (NextC h₀ env.locals s₁ (I, rIt (a + i + 1) (n - i - 1)) c (J (i + 1))) Q) (fun _ _ => False) { s₁ with heap := h, toks := tk }) ∧
      (∀ h' tk m' o' w' news', J n m' news' → Fr h₀ env.locals h' m' → o'.data = .cell w' → Led h₀ env.locals h' ((c, o') :: news') → Q .next { s₁ with heap := h', toks := tk })) E s)
    (hh : A.handled = none) (hc : env.cells.lookup x = some c) (hx : (env.scope.names.lookup x == some NameKind.cell) = true) (hk : (env.scope.kind == .function) = true)
    (hs : ∀ x, foldedSetIterable iter env x = pure x := by intro _; rfl) (ht : ∀ I v, letOwnedTupleGo (.Name x px) I v = pure () := by intro _ _; rfl) :
    wpC (model prog w) A (exec (.For (.Name x px) iter body [] pos) env) Q E s := by
  refine forC0 (wpAny_mono h (fun xv s₁ h₁ => ?_) fun _ _ e => e) hs
  obtain ⟨r, a, b, t, u, v, n, m, o, wv, news, J, rfl, hr, ⟨ha1, ha2, hb1, hb2⟩, hn, F, hd, N, h0, step, hQ⟩ := h₁
  have hsmall : Builtin.Range.small a b 1 = true := small_one (by lia) (by lia) (by lia) (by lia)
  have hsz : Builtin.Range.rangeSize a b 1 = (n : Int) := by rw [rangeSize_one]; split <;> lia
  refine wpAny_pyIter_range hr hsmall ?_
  rw [hsz]
  have N₁ := Led.push F N (rIt a n)
  have F₁ := Fr.stays F (stays_push s₁.heap (rIt a n))
  generalize s₁.heap.objs.size = I at N₁ ⊢
  refine forLoopC n (fun i s' => ∃ h' tk m' o' w' news', s' = { s₁ with heap := h', toks := tk } ∧ Fr h₀ env.locals h' m' ∧ o'.data = .cell w' ∧ Led h₀ env.locals h' ((I, rIt (a + i) (n - i)) :: (c, o') :: news') ∧ J i m' news')
    ⟨_, _, m, o, wv, news, rfl, F₁, hd, by simpa using N₁, h0⟩ ?_ ?_
  · rintro i s' hi ⟨h', tk, m', o', w', news', rfl, F', hd', N', hJ⟩
    refine wpAny_pyNext_range_item (N'.get (.head _)) (by lia) fun h₁ hit₁ hs₁ => ⟨_, rfl, wpAny_of_eq (ht _ _) ?_⟩
    obtain ⟨F₂, N₂⟩ := Led.upd F' N' .head hit₁ hs₁
    refine wpAny_assign_Name (stC F₂ N₂ hc hd' (fun _ => .tail .head) hx hk fun h₂ o₂ d₂ F₃ N₃ => ?_)
    refine wpC_mono (step i _ m' news' I h₂ _ o₂ hi hJ d₂ F₃ N₃) (fun f s₃ h₃ => ?_) fun _ _ e => e
    have fin : (∃ h' tk' m₂ o₂ w₂ news₂, s₃ = { s₁ with heap := h', toks := tk' } ∧ Fr h₀ env.locals h' m₂ ∧ o₂.data = .cell w₂ ∧ Led h₀ env.locals h' ((I, rIt (a + i + 1) (n - i - 1)) :: (c, o₂) :: news₂) ∧ J (i + 1) m₂ news₂) →
        ∃ h' tk m' o' w' news', s₃ = { s₁ with heap := h', toks := tk } ∧ Fr h₀ env.locals h' m' ∧ o'.data = .cell w' ∧ Led h₀ env.locals h' ((I, rIt (a + (i + 1 : Nat)) (n - (i + 1 : Nat))) :: (c, o') :: news') ∧ J (i + 1) m' news' := by
      rintro ⟨h', tk', m₂, o₂, w₂, news₂, e, F₄, d₄, N₄, J₄⟩
      refine ⟨h', tk', m₂, o₂, w₂, news₂, e, F₄, d₄, ?_, J₄⟩
      have e1 : (a + (i + 1 : Nat) : Int) = a + i + 1 := by lia
      have e2 : ((n : Int) - (i + 1 : Nat)) = n - i - 1 := by lia
      rw [e1, e2]; exact N₄
    cases f with
    | next => exact fin h₃
    | cont => exact fin h₃
    | brk => exact h₃
    | ret v => exact h₃
  · rintro s' ⟨h', tk, m', o', w', news', rfl, F', hd', N', hJ⟩
    refine wpAny_pyNext_range_end hh (N'.get (.head _)) (by lia) fun h₁ hx₁ => ⟨rfl, ?_⟩
    exact hQ h₁ _ m' o' w' news' hJ (Fr.extBut F' (N'.fresh (.head _)) (N'.n _ (.head _)).2.1 hx₁) hd' (Led.extBut N' hx₁)
end
/- RSR1 -/

noncomputable def fnd (rws : List (List UInt8)) (ready col : Nat) : List Nat := ((List.range (rws.length - ready)).map (ready + ·)).filter (fun r => decide ((rws.getD r []).getD col 0 ≠ 0))
noncomputable def colStep (col : Nat) (p : List (List UInt8) × List Nat) : List (List UInt8) × List Nat :=
  match fnd p.1 p.2.length col with
  | [] => p
  | r :: _ =>
    let lead := (p.1.getD r []).map (gmul · (ginv ((p.1.getD r []).getD col 0)))
    let rows2 := (p.1.set r (p.1.getD p.2.length [])).set p.2.length lead
    ((List.range rows2.length).map fun k => if k ≠ p.2.length ∧ (rows2.getD k []).getD col 0 ≠ 0 then List.zipWith (fun o q => o ^^^ gmul ((rows2.getD k []).getD col 0) q) (rows2.getD k []) lead else rows2.getD k [], p.2 ++ [col])
noncomputable def colBody : List Stmt := forBody ((bodyAt 15)[2]?)
theorem pos_u8 (x : UInt8) : decide (0 < iu x) = decide (x ≠ 0) := by
  have := all_u8 (p := fun x => decide (0 < iu x) == decide (x ≠ 0)) (by decide +kernel) x
  exact eq_of_beq this
theorem RowsIn.at {objs : List (Addr × Obj)} {vs : List Value} {rws : List (List UInt8)} (x : RowsIn objs vs rws) {k : Nat} (hk : k < rws.length) : ∃ a ws c, vs[k]? = some (.ref a) ∧ (a, lsO ws c) ∈ objs ∧ IntsAre ws ((rws.getD k []).map iu) :=
  x.2 k _ (by rw [List.getD_eq_getElem?_getD, List.getElem?_eq_getElem hk]; rfl)


theorem RowsIn.mono {objs objs' : List (Addr × Obj)} {vs : List Value} {rws : List (List UInt8)} (x : RowsIn objs vs rws) (h : ∀ p ∈ objs, p ∈ objs') : RowsIn objs' vs rws :=
  ⟨x.1, fun k r e => let ⟨a, ws, c, h1, h2, h3⟩ := x.2 k r e; ⟨a, ws, c, h1, h _ h2, h3⟩⟩
theorem RowsIn.set {objs : List (Addr × Obj)} {vs : List Value} {rws : List (List UInt8)} (x : RowsIn objs vs rws) (k : Nat) {a : Addr} {ws : List Value} {c : Nat} {r : List UInt8} (hm : (a, lsO ws c) ∈ objs) (h : IntsAre ws (r.map iu)) : RowsIn objs (vs.set k (.ref a)) (rws.set k r) := by
  refine ⟨by simp [x.1], fun j r' e => ?_⟩
  rw [List.getElem?_set] at e
  rw [List.getElem?_set]
  by_cases hkj : k = j
  · subst hkj
    rw [if_pos rfl] at e ⊢
    by_cases hk : k < rws.length
    · rw [if_pos hk] at e
      cases e
      exact ⟨a, ws, c, by rw [if_pos (by rw [x.1]; exact hk)], hm, h⟩
    · rw [if_neg hk] at e; cases e
  · rw [if_neg hkj] at e ⊢
    exact x.2 j r' e
noncomputable def rowBody : List Stmt := forBody (colBody[8]?)
/-- what the inner loop makes of one row -/
noncomputable def rowStep (col ready : Nat) (lead : List UInt8) (k : Nat) (row : List UInt8) : List UInt8 :=
  if k ≠ ready ∧ row.getD col 0 ≠ 0 then List.zipWith (fun o q => o ^^^ gmul (row.getD col 0) q) row lead else row

theorem row_turn {w : World} {A : Around} {s : Shared} {mg : Str → Option Value} {a a14 aP aL aR aH aD L : Addr} {h₀ : Heap} {cdv : Value} {m : Str → Option Value} {pI pJ : Addr × Obj} {oC oF oI oR o4 o3 o2 o1 : Obj} {rvs hvs lvs : List Value} {rc hc lc : Nat} {objs : List (Addr × Obj)} {rws : List (List UInt8)} {lead : List UInt8} {col sz ready k : Nat} {colv kv rv : Int} {tc tk₀ tr : Tok} {wF : Option Value} {Q : Flow → Shared → Prop}
    (hroom : A.depth + 1 < recursionLimit) (hh : A.handled = none) (G : Glo mg h₀) (mZ : mg "zip" = none) (m14 : mg "_law_product" = some (.ref a14)) (f14 : FnAt h₀ 14 a14 .none) (T : LTabs h₀ aP aL)
    (F : Fr h₀ L s.heap m)
    (N : Led h₀ L s.heap (pJ :: pI :: (L + 1 + 1 + 1 + 1 + 1 + 1, oC) :: (L + 1 + 1 + 1 + 1 + 1 + 1 + 1 + 1, oF) :: (L + 1 + 1 + 1 + 1 + 1 + 1 + 1, oI) :: (aR, lsO rvs rc) :: (aH, lsO hvs hc) :: (L + 1 + 1 + 1 + 1 + 1, oR) :: (L + 1 + 1 + 1 + 1, o4) :: (L + 1 + 1 + 1, o3) :: (L + 1 + 1, o2) :: (L + 1, o1) :: objs))
    (dC : oC.data = .cell (some (.int colv tc))) (dF : oF.data = .cell wF) (dR : oR.data = .cell (some (.ref aR))) (d2 : o2.data = .cell (some (.ref aL))) (d1 : o1.data = .cell (some (.ref aP)))
    (hrv : RowsIn objs rvs rws) (hld : (aD, lsO lvs lc) ∈ objs) (hlv : IntsAre lvs (lead.map iu)) (hcol : colv = (col : Int)) (hrl : ∀ r ∈ rws, r.length = sz + 1) (hll : lead.length = sz + 1) (hcs : col < sz) (hsz : sz ≤ 100) (hrw : rws.length ≤ 100) (hk : k < rws.length)
    (x1 : m "ready" = some (.int rv tr)) (x2 : m "lead" = some (.ref aD)) (x3 : m "row" = some (.int kv tk₀)) (hkv : kv = (k : Int)) (hrv' : rv = (ready : Int))
    (hQ : ∀ h' tk oF' wF' rvs' objs', Fr h₀ L h' m →
      Led h₀ L h' (pJ :: pI :: (L + 1 + 1 + 1 + 1 + 1 + 1, oC) :: (L + 1 + 1 + 1 + 1 + 1 + 1 + 1 + 1, oF') :: (L + 1 + 1 + 1 + 1 + 1 + 1 + 1, oI) :: (aR, lsO rvs' rc) :: (aH, lsO hvs hc) :: (L + 1 + 1 + 1 + 1 + 1, oR) :: (L + 1 + 1 + 1 + 1, o4) :: (L + 1 + 1 + 1, o3) :: (L + 1 + 1, o2) :: (L + 1, o1) :: objs') →
      oF'.data = .cell wF' → RowsIn objs' rvs' (rws.set k (rowStep col ready lead k (rws.getD k []))) → (aD, lsO lvs lc) ∈ objs' → Q .next { s with heap := h', toks := tk }) :
    wpC (model P w) (A.deeper (envOfC (nameAt 15) (scopeAt 15) L a cdv)) (execs rowBody (envOfC (nameAt 15) (scopeAt 15) L a cdv)) Q (fun _ _ => False) s := by
  have mem12 : ∀ {p : Addr × Obj} {q1 q2 q3 q4 q5 q6 q7 q8 q9 q10 q11 q12 : Addr × Obj} {l : List (Addr × Obj)}, p ∈ l → p ∈ q1 :: q2 :: q3 :: q4 :: q5 :: q6 :: q7 :: q8 :: q9 :: q10 :: q11 :: q12 :: l :=
    fun e => .tail _ (.tail _ (.tail _ (.tail _ (.tail _ (.tail _ (.tail _ (.tail _ (.tail _ (.tail _ (.tail _ (.tail _ e)))))))))))
  obtain ⟨ak, ws, wc, e1, e2, e3⟩ := hrv.at hk
  have hkl : (rws.getD k []).length = sz + 1 := hrl _ (by rw [List.getD_eq_getElem?_getD, List.getElem?_eq_getElem hk]; exact List.getElem_mem hk)
  have hwl := ints_len e3
  rw [List.length_map] at hwl
  have hlvl := ints_len hlv
  rw [List.length_map] at hlvl
  obtain ⟨tx, hx⟩ := ints_at e3 (j := col) (by lia)
  refine execsA_cons ?_
  walk_at "go"
  refine subL k (N.get (.tail _ (.tail _ (.tail _ (.tail _ (.tail _ (.head _))))))) hkv (by rw [hrv.1]; lia) e1 (by with_unfolding_all rfl) ?_
  walk_at "go"
  refine subL col (N.get (mem12 e2)) hcol (by lia) hx (by with_unfolding_all rfl) ?_
  refine stC F N (by rfl) dF (fun _ => .tail (.tail (.tail .head))) (by kernel_rfl!) (by kernel_rfl!) fun h₂ oF' dF' F₂ N₂ => ?_
  dsimp only
  clear N F
  have same : ¬ (k ≠ ready ∧ (rws.getD k []).getD col 0 ≠ 0) → rws.set k (rowStep col ready lead k (rws.getD k [])) = rws := fun hc => by
    unfold rowStep
    rw [if_neg hc]
    apply List.ext_getElem?
    intro j
    rw [List.getElem?_set]
    by_cases hkj : k = j
    · subst hkj; rw [if_pos rfl, if_pos hk, List.getD_eq_getElem?_getD, List.getElem?_eq_getElem hk]; rfl
    · rw [if_neg hkj]
  refine execsA_cons ?_
  walk_at "go"
  by_cases hkr : k = ready
  · rw [if_neg (by simp; lia)]
    walk_at "go"
    refine execsC_nil (hQ _ _ oF' _ rvs objs F₂ N₂ dF' ?_ hld)
    rw [same (fun h => h.1 hkr)]; exact hrv
  rw [if_pos (by simp; lia)]
  walk_at "go"
  rw [pos_u8]
  by_cases hx0 : (rws.getD k []).getD col 0 = 0
  · rw [if_neg (by simpa using hx0)]
    walk_at "go"
    refine execsC_nil (hQ _ _ oF' _ rvs objs F₂ N₂ dF' ?_ hld)
    rw [same (fun h => h.2 hx0)]; exact hrv
  rw [if_pos (by simpa using hx0)]
  walk_at "go"
  refine compPair (h₀ := h₀) _ ?_ hh (by rfl) (by decide +kernel) (by rfl) (by decide +kernel) (by rfl) (by rfl) (by decide)
  walk_at "go"
  refine subL k (N₂.get (.tail _ (.tail _ (.tail _ (.tail _ (.tail _ (.head _))))))) hkv (by rw [hrv.1]; lia) e1 (by with_unfolding_all rfl) ?_
  walk_at "go"
  have hak := N₂.get (mem12 e2)
  have haD := N₂.get (mem12 hld)
  have G₂ := G.keeps F₂.keep
  have T₂ := T.keeps F₂.keep
  have hc8 : h₂.IsCell (L + 1 + 1 + 1 + 1 + 1 + 1 + 1 + 1) (some (.int (iu ((rws.getD k []).getD col 0)) tx)) := ⟨_, N₂.get (.tail _ (.tail _ (.tail _ (.head _)))), dF'⟩
  have hc2 : h₂.IsCell (L + 1 + 1) (some (.ref aL)) := ⟨_, N₂.get (.tail _ (.tail _ (.tail _ (.tail _ (.tail _ (.tail _ (.tail _ (.tail _ (.tail _ (.tail _ (.head _))))))))))), d2⟩
  have hc1 : h₂.IsCell (L + 1) (some (.ref aP)) := ⟨_, N₂.get (.tail _ (.tail _ (.tail _ (.tail _ (.tail _ (.tail _ (.tail _ (.tail _ (.tail _ (.tail _ (.tail _ (.head _)))))))))))), d1⟩
  have none_of : ∀ b, h₂.objs.size ≤ b → h₂.get? b = none := fun b hb => by
    cases e : h₂.get? b with
    | none => rfl
    | some o => exact absurd (Heap.lt_size e) (Nat.not_lt.mpr hb)
  refine call_zip_2 (isL (s := { s with heap := h₂, toks := _ }) hak) (isL (s := { s with heap := h₂, toks := _ }) haD) fun h₃ hz hTI hTO hi1 hi2 hsz₃ hk₃ => ?_
  dsimp only at hz hTI hTO hi1 hi2 hsz₃ hk₃ ⊢
  have W := WalksT.zip2 (prog := P) (w := w) (A := A.deeper (envOfC (nameAt 15) (scopeAt 15) L a cdv)) hh (h₂.objs.size + 4) (h₂.objs.size + 2) (h₂.objs.size + 3) h₂.objs.size (h₂.objs.size + 1) ak aD (zipApart_new (Heap.lt_size hak) (Heap.lt_size haD)) ws.toArray lvs.toArray
  refine ⟨_, _, _, _, _, _, _, h₂, m, _, fun i => iu ((rws.getD k []).getD i 0 ^^^ gmul ((rws.getD k []).getD col 0) (lead.getD i 0)), rfl,
    W,
    ?_, ⟨hz, hTI, ⟨_, _, hTO⟩, hi1, hi2, isL (s := { s with heap := h₃ }) (hk₃ _ _ hak), isL (s := { s with heap := h₃ }) (hk₃ _ _ haD)⟩, ?_, hk₃, ?_, ?_, F₂, N₂, ?_, ?_, ?_⟩
  · rw [List.size_toArray, List.size_toArray]; lia
  · intro b hb
    have l1 := Heap.lt_size hak
    have l2 := Heap.lt_size haD
    rw [hsz₃]
    simp only [List.mem_cons, List.not_mem_nil, or_false] at hb
    rcases hb with rfl | rfl | rfl | rfl | rfl | rfl | rfl
    · exact Nat.add_lt_add_left (by decide) _
    · exact Nat.add_lt_add_left (by decide) _
    · exact Nat.add_lt_add_left (by decide) _
    · exact Nat.lt_add_of_pos_right (by decide)
    · exact Nat.add_lt_add_left (by decide) _
    · exact Nat.lt_of_lt_of_le l1 (Nat.le_add_right _ _)
    · exact Nat.lt_of_lt_of_le l2 (Nat.le_add_right _ _)
  · rw [hsz₃]; exact Nat.le_add_right _ _
  · intro b hb
    simp only [List.mem_cons, List.not_mem_nil, or_false] at hb
    rcases hb with rfl | rfl | rfl | rfl
    · exact none_of _ (Nat.le_add_right _ _)
    · exact none_of _ (Nat.le_add_right _ _)
    · exact none_of _ (Nat.le_refl _)
    · exact none_of _ (Nat.le_add_right _ _)
  · rintro i vals ⟨x, y, _, _, e⟩; exact ⟨x, y, e⟩
  · rintro C i x y s₃ m' hi ⟨x', y', ex, ey, e⟩ F' hx' hy'
    rw [List.size_toArray, List.size_toArray] at hi
    cases e
    obtain ⟨t1, z1⟩ := ints_at e3 (j := i) (by lia)
    obtain ⟨t2, z2⟩ := ints_at hlv (j := i) (by lia)
    rw [List.getElem?_toArray, z1] at ex
    rw [List.getElem?_toArray, z2] at ey
    cases ex
    cases ey
    walk_at "go"
    refine callFn (f14.keeps F₂.keep) ?_
    walk_at "go"
    refine ⟨F'.keep, product_spec (by show A.depth + 1 < _; lia) (f14.keeps fun b o e => F'.keep b o (F₂.keep b o e)) (G₂.keeps F'.keep) (T₂.keeps F'.keep) fun t h' tk k => ?_⟩
    walk_at "go"
    rw [iu_xor]
    exact ⟨⟨_, rfl⟩, _, _, rfl, k⟩
  · intro D h₄ tk₄ ys yc F₄ N₄ hys
    clear hc8 hc2 hc1 hak haD hz hTI hTO hi1 hi2 W
    walk_at "go"
    refine setL k F₄ N₄ (.tail (.tail (.tail (.tail (.tail (.tail .head)))))) hkv (by rw [hrv.1]; exact hk) (by rw [hrv.1]; lia) fun h₅ F₅ N₅ => ?_
    walk_at "go"
    refine execsC_nil (hQ _ _ oF' _ (rvs.set k (.ref D)) ((D, lsO ys yc) :: objs) F₅ ?_ dF' ?_ (.tail _ hld))
    · refine N₅.perm ?_
      exact (List.perm_middle (l₁ := [pJ, pI, (L + 1 + 1 + 1 + 1 + 1 + 1, oC), (L + 1 + 1 + 1 + 1 + 1 + 1 + 1 + 1, oF'), (L + 1 + 1 + 1 + 1 + 1 + 1 + 1, oI), (aR, lsO (rvs.set k (.ref D)) rc), (aH, lsO hvs hc), (L + 1 + 1 + 1 + 1 + 1, oR), (L + 1 + 1 + 1 + 1, o4), (L + 1 + 1 + 1, o3), (L + 1 + 1, o2), (L + 1, o1)])).symm
    · refine (hrv.mono fun p hp => .tail _ hp).set k (.head _) ?_
      have e : (rowStep col ready lead k (rws.getD k [])).map iu = (List.range (min ws.toArray.size lvs.toArray.size)).map fun i => iu ((rws.getD k []).getD i 0 ^^^ gmul ((rws.getD k []).getD col 0) (lead.getD i 0)) := by
        unfold rowStep
        rw [if_pos ⟨hkr, hx0⟩]
        apply List.ext_getElem?
        intro i
        rw [List.size_toArray, List.size_toArray, List.getElem?_map, List.getElem?_map, List.getElem?_zipWith]
        by_cases hi : i < sz + 1
        · rw [List.getElem?_range (by lia), getD_some (l := rws.getD k []) (by lia), getD_some (l := lead) (by lia)]; rfl
        · rw [List.getElem?_eq_none (l := List.range _) (by rw [List.length_range]; lia), List.getElem?_eq_none (l := rws.getD k []) (by lia)]; rfl
      rw [e]; exact hys
/- RSF12 -/

noncomputable def part (col ready : Nat) (lead : List UInt8) (rws : List (List UInt8)) (i : Nat) : List (List UInt8) := (List.range rws.length).map fun k => if k < i then rowStep col ready lead k (rws.getD k []) else rws.getD k []
theorem rget {rws : List (List UInt8)} {k : Nat} (hk : k < rws.length) : rws[k]? = some (rws.getD k []) := by rw [List.getD_eq_getElem?_getD, List.getElem?_eq_getElem hk]; rfl
theorem rmem {rws : List (List UInt8)} {k : Nat} (hk : k < rws.length) : rws.getD k [] ∈ rws := by rw [List.getD_eq_getElem?_getD, List.getElem?_eq_getElem hk]; exact List.getElem_mem hk
theorem part_len (col ready : Nat) (lead : List UInt8) (rws : List (List UInt8)) (i : Nat) : (part col ready lead rws i).length = rws.length := by unfold part; simp
theorem part_get (col ready : Nat) (lead : List UInt8) (rws : List (List UInt8)) (i : Nat) {k : Nat} (hk : k < rws.length) : (part col ready lead rws i)[k]? = some (if k < i then rowStep col ready lead k (rws.getD k []) else rws.getD k []) := by
  unfold part; rw [List.getElem?_map, List.getElem?_range hk]; rfl
theorem part_getD (col ready : Nat) (lead : List UInt8) (rws : List (List UInt8)) (i : Nat) {k : Nat} (hk : k < rws.length) : (part col ready lead rws i).getD k [] = if k < i then rowStep col ready lead k (rws.getD k []) else rws.getD k [] := by
  rw [List.getD_eq_getElem?_getD, part_get _ _ _ _ _ hk]; rfl
theorem part_zero (col ready : Nat) (lead : List UInt8) (rws : List (List UInt8)) : part col ready lead rws 0 = rws := by
  apply List.ext_getElem?
  intro k
  by_cases hk : k < rws.length
  · rw [part_get _ _ _ _ _ hk, if_neg (Nat.not_lt_zero _), rget hk]
  · rw [List.getElem?_eq_none (by rw [part_len]; lia), List.getElem?_eq_none (by lia)]
theorem part_succ (col ready : Nat) (lead : List UInt8) (rws : List (List UInt8)) {i : Nat} (hi : i < rws.length) : (part col ready lead rws i).set i (rowStep col ready lead i ((part col ready lead rws i).getD i [])) = part col ready lead rws (i + 1) := by
  apply List.ext_getElem?
  intro k
  rw [List.getElem?_set]
  by_cases hk : k < rws.length
  · rw [part_get _ _ _ _ (i + 1) hk]
    by_cases hik : i = k
    · subst hik
      rw [if_pos rfl, if_pos (by rw [part_len]; exact hi), part_getD _ _ _ _ _ hi, if_neg (Nat.lt_irrefl _), if_pos (Nat.lt_succ_self _)]
    · rw [if_neg hik, part_get _ _ _ _ _ hk]
      have : (k < i) ↔ (k < i + 1) := by lia
      simp only [this]
  · by_cases hik : i = k
    · lia
    · rw [if_neg hik, List.getElem?_eq_none (by rw [part_len]; lia), List.getElem?_eq_none (by rw [part_len]; lia)]
theorem rowStep_len {col ready k n : Nat} {lead row : List UInt8} (h1 : row.length = n) (h2 : lead.length = n) : (rowStep col ready lead k row).length = n := by
  unfold rowStep
  split
  · rw [List.length_zipWith, h1, h2]; lia
  · exact h1
theorem part_rows {col ready n : Nat} {lead : List UInt8} {rws : List (List UInt8)} (h : ∀ r ∈ rws, r.length = n) (hl : lead.length = n) (i : Nat) : ∀ r ∈ part col ready lead rws i, r.length = n := fun r hr => by
  unfold part at hr
  obtain ⟨k, hk, rfl⟩ := List.mem_map.mp hr
  rw [List.mem_range] at hk
  have hm : (rws.getD k []).length = n := h _ (rmem hk)
  split
  · exact rowStep_len hm hl
  · exact hm

theorem col_turn {w : World} {A : Around} {s : Shared} {mg : Str → Option Value} {a a14 aP aL aR aH L : Addr} {h₀ : Heap} {cdv : Value} {m : Str → Option Value} {pI : Addr × Obj} {oC oF oI oR o4 o3 o2 o1 : Obj} {rvs hvs : List Value} {rc hc : Nat} {objs : List (Addr × Obj)} {rws : List (List UInt8)} {heads : List Nat} {col sz : Nat} {colv : Int} {tc : Tok} {wF wI : Option Value} {Q : Flow → Shared → Prop}
    (hroom : A.depth + 1 < recursionLimit) (hun : A.units + 100 < cLine) (hh : A.handled = none) (G : Glo mg h₀) (mR : mg "range" = none) (mL : mg "len" = none) (mZ : mg "zip" = none) (m14 : mg "_law_product" = some (.ref a14)) (f14 : FnAt h₀ 14 a14 .none) (T : LTabs h₀ aP aL)
    (F : Fr h₀ L s.heap m)
    (N : Led h₀ L s.heap (pI :: (L + 1 + 1 + 1 + 1 + 1 + 1, oC) :: (L + 1 + 1 + 1 + 1 + 1 + 1 + 1 + 1, oF) :: (L + 1 + 1 + 1 + 1 + 1 + 1 + 1, oI) :: (aR, lsO rvs rc) :: (aH, lsO hvs hc) :: (L + 1 + 1 + 1 + 1 + 1, oR) :: (L + 1 + 1 + 1 + 1, o4) :: (L + 1 + 1 + 1, o3) :: (L + 1 + 1, o2) :: (L + 1, o1) :: objs))
    (dC : oC.data = .cell (some (.int colv tc))) (dF : oF.data = .cell wF) (dI : oI.data = .cell wI) (dR : oR.data = .cell (some (.ref aR))) (d2 : o2.data = .cell (some (.ref aL))) (d1 : o1.data = .cell (some (.ref aP)))
    (hrv : RowsIn objs rvs rws) (hhv : IntsAre hvs (heads.map Int.ofNat)) (hcol : colv = (col : Int)) (hrl : ∀ r ∈ rws, r.length = sz + 1) (hcs : col < sz) (hsz : sz ≤ 100) (hrw : rws.length ≤ 100) (hhl : heads.length ≤ 100) (xH : m "heads" = some (.ref aH))
    (hQ : ∀ f h' tk m' oF' oI' wF' wI' rvs' hvs' rc' hc' objs', (f = .next ∨ f = .cont) → Fr h₀ L h' m' →
      Led h₀ L h' (pI :: (L + 1 + 1 + 1 + 1 + 1 + 1, oC) :: (L + 1 + 1 + 1 + 1 + 1 + 1 + 1 + 1, oF') :: (L + 1 + 1 + 1 + 1 + 1 + 1 + 1, oI') :: (aR, lsO rvs' rc') :: (aH, lsO hvs' hc') :: (L + 1 + 1 + 1 + 1 + 1, oR) :: (L + 1 + 1 + 1 + 1, o4) :: (L + 1 + 1 + 1, o3) :: (L + 1 + 1, o2) :: (L + 1, o1) :: objs') →
      oF'.data = .cell wF' → oI'.data = .cell wI' → RowsIn objs' rvs' (colStep col (rws, heads)).1 → IntsAre hvs' ((colStep col (rws, heads)).2.map Int.ofNat) → m' "heads" = some (.ref aH) → Q f { s with heap := h', toks := tk }) :
    wpC (model P w) (A.deeper (envOfC (nameAt 15) (scopeAt 15) L a cdv)) (execs colBody (envOfC (nameAt 15) (scopeAt 15) L a cdv)) Q (fun _ _ => False) s := by
  have hvl := ints_len hhv
  rw [List.length_map] at hvl
  refine execsA_cons ?_
  walk_at "go"
  refine lenL heads.length (N.get (.tail _ (.tail _ (.tail _ (.tail _ (.tail _ (.head _))))))) (by lia) (by lia) ?_
  walk_at "go"
  rename_i h₁ F₁ N₁
  refine execsA_cons (compRA (h₀ := h₀) _ (fun r => decide ((rws.getD r.toNat []).getD col 0 ≠ 0)) (fun r => r) ?_ hh (by rfl) (by rfl) (by decide +kernel) (by rfl) (by decide +kernel) (by rfl) (by kernel_rfl!) (by kernel_rfl!))
  walk_at "go"
  refine lenL rws.length (N₁.get (.tail _ (.tail _ (.tail _ (.tail _ (.head _)))))) (by rw [hrv.1]) (by rw [hrv.1]; lia) ?_
  walk_at "go"
  refine call_range_2 ?_
  generalize hg₂ : h₁.push _ = h₂
  have k₂ : h₁.StaysIn h₂ := hg₂ ▸ stays_push _ _
  have F₂ := Fr.stays F₁ k₂
  have N₂ := Led.stays N₁ k₂
  have G₂ := G.keeps F₂.keep
  have hR₂ := N₂.get (.tail _ (.tail _ (.tail _ (.tail _ (.head _)))))
  have hcR : h₂.IsCell (L + 1 + 1 + 1 + 1 + 1) (some (.ref aR)) := ⟨_, N₂.get (.tail _ (.tail _ (.tail _ (.tail _ (.tail _ (.tail _ (.head _))))))), dR⟩
  have hcC : h₂.IsCell (L + 1 + 1 + 1 + 1 + 1 + 1) (some (.int colv tc)) := ⟨_, N₂.get (.tail _ (.head _)), dC⟩
  have hrows : ∀ k, k < rws.length → ∃ ak ws c, rvs[k]? = some (.ref ak) ∧ h₂.get? ak = some (lsO ws c) ∧ IntsAre ws ((rws.getD k []).map iu) ∧ (rws.getD k []).length = sz + 1 := fun k hk => by
    obtain ⟨ak, ws, c, e1, e2, e3⟩ := hrv.at hk
    refine ⟨ak, ws, c, e1, N₂.get (.tail _ (.tail _ (.tail _ (.tail _ (.tail _ (.tail _ (.tail _ (.tail _ (.tail _ (.tail _ (.tail _ e2))))))))))), e3, hrl _ ?_⟩
    rw [List.getD_eq_getElem?_getD, List.getElem?_eq_getElem hk]; exact List.getElem_mem hk
  refine ⟨heads.length, rws.length - heads.length, _, _, F₂, N₂, by lia, ⟨⟨_, _, _, _, _, rfl, hg₂ ▸ Heap.get?_push_size _ rfl, by lia, by lia⟩, fun C i t s₃ m' hi F' hm => ?_, fun C i t s₃ m' hi _ F' hm => ?_⟩, ?_⟩
  · refine tests_one ?_
    have ei : (((heads.length : Int) + (i : Nat))).toNat = heads.length + i := by lia
    obtain ⟨ak, ws, c, e1, e2, e3, e4⟩ := hrows (heads.length + i) (by lia)
    have hwl := ints_len e3
    rw [List.length_map] at hwl
    obtain ⟨tx, hx⟩ := ints_at e3 (j := col) (by lia)
    walk_at "go"
    refine subL (heads.length + i) (F'.keep _ _ hR₂) (by lia) (by rw [hrv.1]; lia) e1 (by with_unfolding_all rfl) ?_
    walk_at "go"
    refine subL col (F'.keep _ _ e2) hcol (by lia) hx (by with_unfolding_all rfl) ?_
    walk_at "go"
    rw [ei, ← pos_u8]
    exact ⟨rfl, _, _, rfl, fun _ _ e => e⟩
  · walk_at "go"
    exact ⟨⟨_, rfl⟩, _, _, rfl, fun _ _ e => e⟩
  · intro D h₃ tk₃ fvs fc F₃ N₃ hfv
    have hfv' : IntsAre fvs ((fnd rws heads.length col).map Int.ofNat) := by
      have e : (((List.range (rws.length - heads.length)).map fun j : Nat => (heads.length : Int) + (j : Int)).filter (fun r => decide ((rws.getD r.toNat []).getD col 0 ≠ 0))).map (fun r => r) = (fnd rws heads.length col).map Int.ofNat := by
        unfold fnd
        rw [List.filter_map, List.filter_map, List.map_map, List.map_map]
        have e1 : ((fun r : Int => decide ((rws.getD r.toNat []).getD col 0 ≠ 0)) ∘ fun j : Nat => (heads.length : Int) + (j : Int)) = ((fun r : Nat => decide ((rws.getD r []).getD col 0 ≠ 0)) ∘ fun x => heads.length + x) := by
          funext j
          have : ((heads.length : Int) + (j : Int)).toNat = heads.length + j := by lia
          simp only [Function.comp, this]
        rw [e1]
        apply List.map_congr_left
        intro j _
        simp [Function.comp]
      rw [← e]; exact hfv
    clear hfv
    refine execsA_cons ?_
    walk_at "go"
    refine mkListL F₃ N₃ (by simp) fun h₄ b₄ k₄ F₄ N₄ => ?_
    refine eq_intsK (isL (N₄.get (.tail _ (.head _)))) hfv' (isL (N₄.get (.head _))) .nil (by show A.units + 3 + 64 < _; lia) ?_
    walk_at "go"
    cases hfnd : fnd rws heads.length col with
    | nil =>
      rw [if_pos (by simp)]
      walk_at "go"
      have ec : colStep col (rws, heads) = (rws, heads) := by unfold colStep; dsimp only; rw [hfnd]
      exact hQ .cont _ _ _ oF oI wF wI rvs hvs rc hc objs (.inr rfl) F₄ (N₄.subl (.cons _ (.cons _ (List.Sublist.refl _)))) dF dI (by rw [ec]; exact hrv) (by rw [ec]; exact hhv) xH
    | cons r rest =>
      rw [if_neg (by simp)]
      walk_at "go"
      have N₅ := N₄.tail
      clear N₄ N₃ N₂ N₁ F₁ F₂
      rw [hfnd] at hfv'
      have hrmem : r ∈ fnd rws heads.length col := by rw [hfnd]; exact .head _
      have hr1 : heads.length ≤ r ∧ r < rws.length ∧ (rws.getD r []).getD col 0 ≠ 0 := by
        unfold fnd at hrmem
        obtain ⟨h1, h2⟩ := List.mem_filter.mp hrmem
        obtain ⟨j, hj, rfl⟩ := List.mem_map.mp h1
        rw [List.mem_range] at hj
        exact ⟨by lia, by lia, by simpa using h2⟩
      obtain ⟨hr1, hr2, hr3⟩ := hr1
      obtain ⟨tr, hfr⟩ := (ints_get hfv').2 0 (r : Int) rfl
      have hfl := ints_len hfv'
      have hflz : fvs.length ≤ 100 := by
        rw [hfl, List.length_map, ← hfnd]
        unfold fnd
        refine Nat.le_trans (List.length_filter_le _ _) ?_
        rw [List.length_map, List.length_range]; lia
      obtain ⟨ar, rw0, rwc, er1, er2, er3⟩ := hrv.at hr2
      have hrwl : (rws.getD r []).length = sz + 1 := hrl _ (by rw [List.getD_eq_getElem?_getD, List.getElem?_eq_getElem hr2]; exact List.getElem_mem hr2)
      have hrw0 := ints_len er3
      rw [List.length_map] at hrw0
      obtain ⟨ag, rg0, rgc, eg1, eg2, eg3⟩ := hrv.at (k := heads.length) (by lia)
      dsimp only
      refine execsA_cons ?_
      walk_at "go"
      refine subL 0 (N₅.get (.head _)) (by rfl) (by lia) hfr (by with_unfolding_all rfl) ?_
      walk_at "go"
      refine subL r (N₅.get (.tail _ (.tail _ (.tail _ (.tail _ (.tail _ (.head _))))))) rfl (by rw [hrv.1]; lia) er1 (by with_unfolding_all rfl) ?_
      walk_at "go"
      rename_i h₆ F₆ N₆
      refine execsA_cons ?_
      walk_at "go"
      refine subL heads.length (N₆.get (.tail _ (.tail _ (.tail _ (.tail _ (.tail _ (.head _))))))) rfl (by rw [hrv.1]; lia) eg1 (by with_unfolding_all rfl) ?_
      walk_at "go"
      refine subL 0 (N₆.get (.head _)) (by rfl) (by lia) hfr (by with_unfolding_all rfl) ?_
      walk_at "go"
      refine setL r F₆ N₆ (.tail (.tail (.tail (.tail (.tail .head))))) rfl (by rw [hrv.1]; lia) (by rw [hrv.1]; lia) fun h₇ F₇ N₇ => ?_
      have N₈ := N₇.tail
      clear N₇ N₆ F₆ N₅
      dsimp only
      obtain ⟨ps, cp, hP, ips⟩ := T.pow
      obtain ⟨ls, cl, hL, ils⟩ := T.log
      have hpl : ps.length = 255 := by have := ints_len ips; simpa [powL] using this
      have hll : ls.length = 256 := by have := ints_len ils; rw [List.length_map, logTab_len] at this; exact this
      have mem11 : ∀ {p : Addr × Obj} {q1 q2 q3 q4 q5 q6 q7 q8 q9 q10 q11 : Addr × Obj} {l : List (Addr × Obj)}, p ∈ l → p ∈ q1 :: q2 :: q3 :: q4 :: q5 :: q6 :: q7 :: q8 :: q9 :: q10 :: q11 :: l :=
        fun e => .tail _ (.tail _ (.tail _ (.tail _ (.tail _ (.tail _ (.tail _ (.tail _ (.tail _ (.tail _ (.tail _ e))))))))))
      refine execsA_cons ?_
      walk_at "go"
      obtain ⟨tx0, hx0⟩ := ints_at er3 (j := col) (by lia)
      refine subL col (N₈.get (mem11 er2)) hcol (by lia) hx0 (by with_unfolding_all rfl) ?_
      obtain ⟨tl, hlx⟩ := log_at ils ((rws.getD r []).getD col 0)
      refine subL ((rws.getD r []).getD col 0).toNat (F₇.keep _ _ hL) rfl (by lia) hlx (by with_unfolding_all rfl) ?_
      walk_at "go"
      have hgl := @glog_lt ((rws.getD r []).getD col 0)
      have hinvlt : (255 - (glog ((rws.getD r []).getD col 0)).toNat) % 255 < 255 := by lia
      obtain ⟨ti, hpi⟩ := pow_at ips hinvlt
      refine subL ((255 - (glog ((rws.getD r []).getD col 0)).toNat) % 255) (F₇.keep _ _ hP) ?_ (by lia) hpi (by with_unfolding_all rfl) ?_
      · unfold iu; rw [Int.fmod_eq_emod_of_nonneg _ (by decide)]; lia
      have einv : alog ((255 - (glog ((rws.getD r []).getD col 0)).toNat) % 255) = ginv ((rws.getD r []).getD col 0) := by unfold ginv; rw [alog_mod]
      rw [einv]
      refine stC F₇ N₈ (by rfl) dI (fun _ => .tail (.tail (.tail .head))) (by kernel_rfl!) (by kernel_rfl!) fun h₈ oI' dI' F₈ N₉ => ?_
      clear N₈ F₇
      dsimp only
      have hc7 : h₈.IsCell (L + 1 + 1 + 1 + 1 + 1 + 1 + 1) (some (.int (iu (ginv ((rws.getD r []).getD col 0))) ti)) := ⟨_, N₉.get (.tail _ (.tail _ (.tail _ (.head _)))), dI'⟩
      have hc2 : h₈.IsCell (L + 1 + 1) (some (.ref aL)) := ⟨_, N₉.get (.tail _ (.tail _ (.tail _ (.tail _ (.tail _ (.tail _ (.tail _ (.tail _ (.tail _ (.head _)))))))))), d2⟩
      have hc1 : h₈.IsCell (L + 1) (some (.ref aP)) := ⟨_, N₉.get (.tail _ (.tail _ (.tail _ (.tail _ (.tail _ (.tail _ (.tail _ (.tail _ (.tail _ (.tail _ (.head _))))))))))), d1⟩
      have G₈ := G.keeps F₈.keep
      have T₈ := T.keeps F₈.keep
      have hg8 := N₉.get (mem11 er2)
      refine execsA_cons (compLA (h₀ := h₀) _ (fun v => iu (gmul v.toNat.toUInt8 (ginv ((rws.getD r []).getD col 0)))) ?_ hh (by rfl) (by rfl) (by decide +kernel) (by rfl) (by decide +kernel) (by rfl) (by kernel_rfl!) (by kernel_rfl!))
      walk_at "go"
      refine ⟨_, _, _, F₈, N₉, by rw [List.length_map]; lia, ⟨⟨_, _, _, rfl, hg8, er3⟩, fun C v t s₃ m' hv F' hm => ?_⟩, ?_⟩
      · obtain ⟨u, hu, rfl⟩ := List.mem_map.mp hv
        walk_at "go"
        refine callFn (f14.keeps F₈.keep) ?_
        walk_at "go"
        have eu : (iu u).toNat.toUInt8 = u := by unfold iu; simp
        rw [eu]
        refine ⟨F'.keep, product_spec (by show A.depth + 1 < _; lia) (f14.keeps fun b o e => F'.keep b o (F₈.keep b o e)) (G₈.keeps F'.keep) (T₈.keeps F'.keep) fun t h' tk k => ?_⟩
        exact ⟨⟨_, rfl⟩, _, _, rfl, k⟩
      · intro D₉ h₉ tk₉ lvs lc F₉ N₁₀ hlv
        clear N₉ F₈ hc7 hc2 hc1
        obtain ⟨lead, hlead⟩ : ∃ lead, lead = (rws.getD r []).map (gmul · (ginv ((rws.getD r []).getD col 0))) := ⟨_, rfl⟩
        have hlv' : IntsAre lvs (lead.map iu) := by
          have e : ((rws.getD r []).map iu).map (fun v : Int => iu (gmul v.toNat.toUInt8 (ginv ((rws.getD r []).getD col 0)))) = lead.map iu := by
            rw [hlead, List.map_map, List.map_map]
            apply List.map_congr_left
            intro u _
            have eu : (iu u).toNat.toUInt8 = u := by unfold iu; simp
            simp only [Function.comp, eu]
          rw [← e]; exact hlv
        have hleadl : lead.length = sz + 1 := by rw [hlead, List.length_map]; exact hrwl
        clear hlv
        dsimp only
        refine execsA_cons ?_
        walk_at "go"
        refine setL heads.length F₉ N₁₀ (.tail (.tail (.tail (.tail (.tail .head))))) rfl (by rw [List.length_set, hrv.1]; lia) (by rw [List.length_set, hrv.1]; lia) fun h₁₀ F₁₀ N₁₁ => ?_
        have N₁₂ := N₁₁.perm (List.perm_middle (l₁ := [pI, (L + 1 + 1 + 1 + 1 + 1 + 1, oC), (L + 1 + 1 + 1 + 1 + 1 + 1 + 1 + 1, oF), (L + 1 + 1 + 1 + 1 + 1 + 1 + 1, oI'), (aR, lsO ((rvs.set r (.ref ag)).set heads.length (.ref D₉)) rc), (aH, lsO hvs hc), (L + 1 + 1 + 1 + 1 + 1, oR), (L + 1 + 1 + 1 + 1, o4), (L + 1 + 1 + 1, o3), (L + 1 + 1, o2), (L + 1, o1)])).symm
        have hrv2 : RowsIn ((D₉, lsO lvs lc) :: objs) ((rvs.set r (.ref ag)).set heads.length (.ref D₉)) ((rws.set r (rws.getD heads.length [])).set heads.length lead) :=
          ((hrv.set r eg2 eg3).mono fun p hp => .tail _ hp).set heads.length (.head _) hlv'
        obtain ⟨rws2, hrws2⟩ : ∃ rws2, rws2 = (rws.set r (rws.getD heads.length [])).set heads.length lead := ⟨_, rfl⟩
        rw [← hrws2] at hrv2
        have hl2 : rws2.length = rws.length := by rw [hrws2]; simp
        have hrl2 : ∀ q ∈ rws2, q.length = sz + 1 := fun q hq => by
          rw [hrws2] at hq
          rcases List.mem_or_eq_of_mem_set hq with hq | rfl
          · rcases List.mem_or_eq_of_mem_set hq with hq | rfl
            · exact hrl q hq
            · exact hrl _ (rmem (by lia))
          · exact hleadl
        clear N₁₁ N₁₀ F₉
        dsimp only
        refine execsC_cons (forRange (h₀ := h₀) ?_ hh (by kernel_rfl!) (by kernel_rfl!))
        walk_at "go"
        refine lenL rws2.length (N₁₂.get (.tail _ (.tail _ (.tail _ (.tail _ (.head _)))))) (by rw [hrv2.1]) (by rw [hrv2.1]; lia) ?_
        walk_at "go"
        refine call_range_1 ?_
        refine ⟨_, 0, rws2.length, _, _, _, rws2.length, _, _, fun i m' news => ∃ oF' wF' rvs' objs', news = pI :: (L + 1 + 1 + 1 + 1 + 1 + 1, oC) :: (L + 1 + 1 + 1 + 1 + 1 + 1 + 1 + 1, oF') :: (L + 1 + 1 + 1 + 1 + 1 + 1 + 1, oI') :: (aR, lsO rvs' rc) :: (aH, lsO hvs hc) :: (L + 1 + 1 + 1 + 1 + 1, oR) :: (L + 1 + 1 + 1 + 1, o4) :: (L + 1 + 1 + 1, o3) :: (L + 1 + 1, o2) :: (L + 1, o1) :: objs' ∧
            oF'.data = .cell wF' ∧ RowsIn objs' rvs' (part col heads.length lead rws2 i) ∧ (D₉, lsO lvs lc) ∈ objs' ∧ (∃ t, m' "ready" = some (.int (heads.length : Int) t)) ∧ m' "lead" = some (.ref D₉) ∧ m' "heads" = some (.ref aH),
          rfl, Heap.get?_push_size _ rfl, by lia, by lia, Fr.stays F₁₀ (stays_push _ _), Led.stays N₁₂ (stays_push _ _), ?_, ?_, ?_⟩
        · exact ⟨oF, wF, _, _, rfl, dF, by rw [part_zero]; exact hrv2, .head _, ⟨_, rfl⟩, rfl, xH⟩
        · rintro i t m₁ news₁ I h₁₁ tk₁₁ hi ⟨oF', wF', rvs', objs', rfl, dF', hrv', hld', ⟨tr', y1⟩, y2, y3⟩ F₁₁ N₁₃
          refine row_turn (k := i) (ready := heads.length) hroom hh G mZ m14 f14 T F₁₁ N₁₃ dC dF' dR d2 d1 hrv' hld' hlv' hcol (part_rows hrl2 hleadl i) hleadl hcs hsz (by rw [part_len]; lia) (by rw [part_len]; exact hi) y1 y2 rfl (by lia) rfl fun h' tk' oF₂ wF₂ rvs₂ objs₂ F' N' dF₂ hrv₂ hld₂ => ?_
          rw [part_succ _ _ _ _ hi] at hrv₂
          exact ⟨_, _, _, _, rfl, F', N', oF₂, wF₂, rvs₂, objs₂, rfl, dF₂, hrv₂, hld₂, ⟨tr', y1⟩, y2, y3⟩
        · rintro h₁₁ tk₁₁ m₁ news₁ ⟨oF', wF', rvs', objs', rfl, dF', hrv', hld', ⟨tr', y1⟩, y2, y3⟩ F₁₁ N₁₃
          refine execsA_cons ?_
          walk_at "go"
          refine getAppend (N₁₃.get (.tail _ (.tail _ (.tail _ (.tail _ (.tail _ (.head _))))))) ?_
          refine appL (a := aH) ?_
          show wpAny _ _ (eval _ _) _ _ _
          walk_at "go"
          refine ⟨_, _, h₀, L, _, _, _, F₁₁, N₁₃, .tail (.tail (.tail (.tail (.tail .head)))), by lia, fun h₁₂ F₁₂ N₁₄ => ?_⟩
          dsimp only
          have ec : colStep col (rws, heads) = (part col heads.length lead rws2 rws2.length, heads ++ [col]) := by
            unfold colStep part
            dsimp only
            rw [hfnd]
            dsimp only
            rw [← hlead, ← hrws2]
            congr 1
            apply List.map_congr_left
            intro k hk
            rw [List.mem_range] at hk
            rw [if_pos hk]; rfl
          refine execsC_nil (hQ .next _ _ _ oF' oI' wF' _ rvs' (hvs ++ [.int colv tc]) rc (hc + 1) objs' (.inl rfl) F₁₂ N₁₄ dF' dI' (by rw [ec]; exact hrv') ?_ y3)
          rw [ec, List.map_append, hcol]
          exact ints_snoc hhv
/- RSC8 -/
section
variable {prog : Program} {w : World} {A : Around} {E : Value → Shared → Prop} {s : Shared} {env : Env}
noncomputable abbrev NextL (h₀ : Heap) (L : Addr) (s₁ : Shared) (p q : Addr × Obj) (J : (Str → Option Value) → List (Addr × Obj) → Prop) (s₃ : Shared) : Prop :=
  ∃ h' tk' m₂ news₂, s₃ = { s₁ with heap := h', toks := tk' } ∧ Fr h₀ L h' m₂ ∧ Led h₀ L h' (p :: q :: news₂) ∧ J m₂ news₂
/-- the loop over a list that stands in the ledger's tail and is not written to -/
theorem forList {h₀ : Heap} {x : Str} {px pos : Pos} {iter : Expr} {body : List Stmt} {Q : Flow → Shared → Prop}
    (h : wpAny (model prog w) A (eval iter env) (fun xv s₁ => ∃ (r : Addr) (vs : List Value) (c : Nat) (m : Str → Option Value) (news : List (Addr × Obj)) (J : Nat → (Str → Option Value) → List (Addr × Obj) → Prop),
      xv = .ref r ∧ Fr h₀ env.locals s₁.heap m ∧ Led h₀ env.locals s₁.heap ((r, lsO vs c) :: news) ∧ J 0 m news ∧
      (∀ i v m₁ news₁ I oI h tk, vs[i]? = some v → J i m₁ news₁ → Fr h₀ env.locals h (fun y => if y = x then some v else m₁ y) → Led h₀ env.locals h ((I, oI) :: (r, lsO vs c) :: news₁) →
        wpC (model prog w) A (execs body env) (LoopQ (NextL h₀ env.locals s₁ (I, oI) (r, lsO vs c) (J (i + 1))) Q) (fun _ _ => False) { s₁ with heap := h, toks := tk }) ∧
      (∀ h' tk m' news', J vs.length m' news' → Fr h₀ env.locals h' m' → Led h₀ env.locals h' ((r, lsO vs c) :: news') → Q .next { s₁ with heap := h', toks := tk })) E s)
    (hh : A.handled = none) (hx : (env.scope.names.lookup x == some NameKind.local) = true) (hk : (env.scope.kind == .function) = true)
    (hs : ∀ x, foldedSetIterable iter env x = pure x := by intro _; rfl) (ht : ∀ I v, letOwnedTupleGo (.Name x px) I v = pure () := by intro _ _; rfl) :
    wpC (model prog w) A (exec (.For (.Name x px) iter body [] pos) env) Q E s := by
  refine forC0 (wpAny_mono h (fun xv s₁ h₁ => ?_) fun _ _ e => e) hs
  obtain ⟨r, vs, c, m, news, J, rfl, F, N, h0, step, hQ⟩ := h₁
  refine wpAny_pyIter_list (isL (N.get (.head _))) ?_
  have N₁ := Led.push F N { cls := .type "list_iterator", data := .fields #[.ref r, .int 0 0] }
  have F₁ := Fr.stays F (stays_push s₁.heap { cls := .type "list_iterator", data := .fields #[.ref r, .int 0 0] })
  generalize s₁.heap.objs.size = I at N₁ ⊢
  refine forLoopC vs.length (fun i s' => ∃ h' tk m' news' oI, s' = { s₁ with heap := h', toks := tk } ∧ Fr h₀ env.locals h' m' ∧ Led h₀ env.locals h' ((I, oI) :: (r, lsO vs c) :: news') ∧ (oI.cls = .type "list_iterator" ∧ oI.data = .fields #[.ref r, .int (i : Nat) 0]) ∧ J i m' news')
    ⟨_, _, m, news, _, rfl, F₁, N₁, ⟨rfl, rfl⟩, h0⟩ ?_ ?_
  · rintro i s' hi ⟨h', tk, m', news', oI, rfl, F', N', hoI, hJ⟩
    refine wpAny_pyNext_list_item (l := r) (i := i) (x := vs[i]) ⟨_, N'.get (.head _), hoI⟩ (isL (N'.get (.tail _ (.head _)))) (by simp [hi]) fun h₁ hit₁ hs₁ => ⟨_, rfl, wpAny_of_eq (ht _ _) ?_⟩
    obtain ⟨o₁, e₁, hc₁, hd₁⟩ := hit₁
    obtain ⟨F₂, N₂⟩ := Led.upd F' N' .head e₁ hs₁
    refine wpAny_assign_Name (stL F₂ N₂ hx hk fun h₂ F₃ N₃ => ?_)
    refine wpC_mono (step i vs[i] m' news' I o₁ h₂ _ (List.getElem?_eq_getElem hi) hJ F₃ N₃) (fun f s₃ h₃ => ?_) fun _ _ e => e
    have fin : (∃ h' tk' m₂ news₂, s₃ = { s₁ with heap := h', toks := tk' } ∧ Fr h₀ env.locals h' m₂ ∧ Led h₀ env.locals h' ((I, o₁) :: (r, lsO vs c) :: news₂) ∧ J (i + 1) m₂ news₂) →
        ∃ h' tk m' news' oI, s₃ = { s₁ with heap := h', toks := tk } ∧ Fr h₀ env.locals h' m' ∧ Led h₀ env.locals h' ((I, oI) :: (r, lsO vs c) :: news') ∧ (oI.cls = .type "list_iterator" ∧ oI.data = .fields #[.ref r, .int ((i + 1 : Nat) : Int) 0]) ∧ J (i + 1) m' news' := by
      rintro ⟨h', tk', m₂, news₂, e, F₄, N₄, J₄⟩
      exact ⟨h', tk', m₂, news₂, o₁, e, F₄, N₄, ⟨hc₁, hd₁⟩, J₄⟩
    cases f with
    | next => exact fin h₃
    | cont => exact fin h₃
    | brk => exact h₃
    | ret v => exact h₃
  · rintro s' ⟨h', tk, m', news', oI, rfl, F', N', hoI, hJ⟩
    refine wpAny_pyNext_list_end hh ⟨_, N'.get (.head _), hoI⟩ (isL (N'.get (.tail _ (.head _)))) (by simp) fun h₁ hx₁ => ⟨rfl, ?_⟩
    exact hQ h₁ _ m' news' hJ (Fr.extBut F' (N'.fresh (.head _)) (N'.n _ (.head _)).2.1 hx₁) (Led.extBut N' hx₁)
end
/- RSC9 -/
section
variable {prog : Program} {w : World} {A : Around} {E : Value → Shared → Prop} {s : Shared} {env : Env}
noncomputable abbrev NextE (h₀ : Heap) (L : Addr) (s₁ : Shared) (p q r : Addr × Obj) (c : Addr) (J : (Str → Option Value) → List (Addr × Obj) → Prop) (s₃ : Shared) : Prop :=
  ∃ h' tk' m₂ oc₂ w₂ news₂, s₃ = { s₁ with heap := h', toks := tk' } ∧ Fr h₀ L h' m₂ ∧ oc₂.data = .cell w₂ ∧ Led h₀ L h' (p :: q :: (c, oc₂) :: r :: news₂) ∧ J m₂ news₂
/-- the loop over enumerate(list): the number goes into a local, the item into a cell -/
theorem forEnum {h₀ : Heap} {x y : Str} {c l : Addr} {px py pt pos : Pos} {kt : Nat} {iter : Expr} {body : List Stmt} {Q : Flow → Shared → Prop} {vs : List Value} {cv : Nat}
    (h : wpAny (model prog w) A (eval iter env) (fun xv s₁ => ∃ (e it : Addr) (m : Str → Option Value) (oe oi oc : Obj) (wc : Option Value) (news : List (Addr × Obj)) (J : Nat → (Str → Option Value) → List (Addr × Obj) → Prop),
      xv = .ref e ∧ e ≠ it ∧ l ≠ e ∧ l ≠ it ∧ IsEnum s₁.heap e it 0 .none ∧ s₁.heap.IsListIter it l 0 ∧ Fr h₀ env.locals s₁.heap m ∧ oc.data = .cell wc ∧ Led h₀ env.locals s₁.heap ((e, oe) :: (it, oi) :: (c, oc) :: (l, lsO vs cv) :: news) ∧ J 0 m news ∧
      (∀ i t v m₁ news₁ h tk oe oi oc, vs[i]? = some v → J i m₁ news₁ → oc.data = .cell (some v) → Fr h₀ env.locals h (fun z => if z = x then some (.int (i : Nat) t) else m₁ z) → Led h₀ env.locals h ((e, oe) :: (it, oi) :: (c, oc) :: (l, lsO vs cv) :: news₁) →
        wpC (model prog w) A (execs body env) (LoopQ (NextE h₀ env.locals s₁ (e, oe) (it, oi) (l, lsO vs cv) c (J (i + 1))) Q) (fun _ _ => False) { s₁ with heap := h, toks := tk }) ∧
      (∀ h' tk m' oc' w' news', J vs.length m' news' → Fr h₀ env.locals h' m' → oc'.data = .cell w' → Led h₀ env.locals h' ((c, oc') :: (l, lsO vs cv) :: news') → Q .next { s₁ with heap := h', toks := tk })) E s)
    (hh : A.handled = none) (hx : (env.scope.names.lookup x == some NameKind.local) = true) (hc : env.cells.lookup y = some c) (hy : (env.scope.names.lookup y == some NameKind.cell) = true) (hk : (env.scope.kind == .function) = true)
    (hs : ∀ x, foldedSetIterable iter env x = pure x := by intro _; rfl) :
    wpC (model prog w) A (exec (.For (.Tuple [.Name x px, .Name y py] kt pt) iter body [] pos) env) Q E s := by
  refine forC0 (wpAny_mono h (fun xv s₁ h₁ => ?_) fun _ _ e => e) hs
  obtain ⟨e, it, m, oe, oi, oc, wc, news, J, rfl, hei, hle, hli, hen, hit, F, hd, N, h0, step, hQ⟩ := h₁
  have W := WalksT.enumerate (prog := prog) (w := w) (A := A) hh e it l hei hle hli vs.toArray
  refine wpAny_pyIter_enum hen ?_
  refine forLoopC vs.length (fun i s' => ∃ h' tk m' oe oi oc wc news', s' = { s₁ with heap := h', toks := tk } ∧ Fr h₀ env.locals h' m' ∧ oc.data = .cell wc ∧ Led h₀ env.locals h' ((e, oe) :: (it, oi) :: (c, oc) :: (l, lsO vs cv) :: news') ∧
      ((∃ old, IsEnum h' e it i old) ∧ h'.IsListIter it l i ∧ h'.IsList l vs.toArray) ∧ J i m' news')
    ⟨_, _, m, oe, oi, oc, wc, news, rfl, F, hd, N, ⟨⟨_, hen⟩, hit, isL (N.get (.tail _ (.tail _ (.tail _ (.head _)))))⟩, h0⟩ ?_ ?_
  · rintro i s' hi ⟨h', tk, m', oe, oi, oc, wc, news', rfl, F', hd', N', hst, hJ⟩
    refine W.item i _ _ _ (by rw [List.size_toArray]; exact hi) hst fun T vals h₁ tk₁ hP hT hTup hmid hk₁ => ⟨_, rfl, W.go _ _ _ i T _ _ _ hmid fun h₂ hst₂ hk₂ => ?_⟩
    obtain ⟨t, v, hv, rfl⟩ := hP
    have hv' : vs[i]? = some v := by simpa using hv
    have hTw := W.apart i T _ hmid
    have hTup₂ : h₂.IsTuple T #[.int i t, v] := by
      obtain ⟨ot, e1, e2⟩ := hTup
      exact ⟨ot, hk₂ _ _ hTw e1, e2⟩
    refine wpAny_assign_Tuple hh hTup₂ rfl rfl fun h₃ hx₃ => ?_
    have k₃ : h₂.StaysIn h₃ := fun b o e => hx₃ b o (Nat.ne_of_lt (Heap.lt_size e)) e
    have fe := N'.n _ (.head _)
    have fi := N'.n _ (.tail _ (.head _))
    have nwr : ∀ b, b ≠ e → b ≠ it → b ∉ [e, it] := fun b h1 h2 hm => by
      simp only [List.mem_cons, List.not_mem_nil, or_false] at hm
      rcases hm with h | h
      · exact h1 h
      · exact h2 h
    have keep : ∀ b o, b ≠ e → b ≠ it → h'.get? b = some o → h₃.get? b = some o := fun b o h1 h2 q => k₃ _ _ (hk₂ _ _ (nwr b h1 h2) (hk₁ _ _ (nwr b h1 h2) q))
    have F₃ : Fr h₀ env.locals h₃ m' := ⟨F'.ns.at' fun o q => keep _ o (Ne.symm fe.2.1) (Ne.symm fi.2.1) q, fun b o q => keep b o (fun z => by rw [z, fe.2.2] at q; cases q) (fun z => by rw [z, fi.2.2] at q; cases q) (F'.keep _ _ q), F'.above⟩
    obtain ⟨⟨old, hen₂⟩, ⟨oi₂, hoi₂, hoi₂'⟩, hl₂⟩ := hst₂
    obtain ⟨oE, hoE, hEq⟩ : ∃ oE, h₂.get? e = some oE ∧ ∀ g : Heap, g.get? e = some oE → IsEnum g e it ((i + 1 : Nat) : Int) old := ⟨_, hen₂, fun _ q => q⟩
    have hen₃ := k₃ _ _ hoE
    have N₃ : Led h₀ env.locals h₃ ((e, oE) :: (it, oi₂) :: (c, oc) :: (l, lsO vs cv) :: news') := by
      refine ⟨fun p hp => ?_, by have := N'.nd; exact this⟩
      rcases List.mem_cons.mp hp with rfl | hp
      · exact ⟨hen₃, fe.2⟩
      rcases List.mem_cons.mp hp with rfl | hp
      · exact ⟨k₃ _ _ hoi₂, fi.2⟩
      have q := N'.n p (.tail _ (.tail _ hp))
      have nd := N'.nd
      simp only [List.map_cons, List.nodup_cons] at nd
      refine ⟨keep _ _ (fun z => ?_) (fun z => ?_) q.1, q.2⟩
      · exact nd.1 (z ▸ List.mem_cons_of_mem _ (List.mem_map.mpr ⟨p, hp, rfl⟩))
      · exact nd.2.1 (z ▸ List.mem_map.mpr ⟨p, hp, rfl⟩)
    refine wpAny_assignInOrder_more (wpAny_assign_Name (stL F₃ N₃ hx hk fun h₄ F₄ N₄ => ?_))
    refine wpAny_assignInOrder_more (wpAny_assign_Name (stC F₄ N₄ hc hd' (fun _ => .tail (.tail .head)) hy hk fun h₅ oc₅ d₅ F₅ N₅ => ?_))
    refine wpAny_assignInOrder_none ?_
    refine wpC_mono (step i t v m' news' h₅ _ _ _ oc₅ hv' hJ d₅ F₅ N₅) (fun f s₃ h₃' => ?_) fun _ _ e => e
    have fin : (∃ h' tk' m₂ oc₂ w₂ news₂, s₃ = { s₁ with heap := h', toks := tk' } ∧ Fr h₀ env.locals h' m₂ ∧ oc₂.data = .cell w₂ ∧ Led h₀ env.locals h' ((e, oE) :: (it, oi₂) :: (c, oc₂) :: (l, lsO vs cv) :: news₂) ∧ J (i + 1) m₂ news₂) →
        ∃ h' tk m' oe oi oc wc news', s₃ = { s₁ with heap := h', toks := tk } ∧ Fr h₀ env.locals h' m' ∧ oc.data = .cell wc ∧ Led h₀ env.locals h' ((e, oe) :: (it, oi) :: (c, oc) :: (l, lsO vs cv) :: news') ∧
          ((∃ old, IsEnum h' e it ((i + 1 : Nat) : Int) old) ∧ h'.IsListIter it l (i + 1) ∧ h'.IsList l vs.toArray) ∧ J (i + 1) m' news' := by
      rintro ⟨h'', tk', m₂, oc₂, w₂, news₂, e₀, F₆, d₆, N₆, J₆⟩
      exact ⟨h'', tk', m₂, _, oi₂, oc₂, w₂, news₂, e₀, F₆, d₆, N₆, ⟨⟨old, hEq _ (N₆.get (.head _))⟩, ⟨oi₂, N₆.get (.tail _ (.head _)), hoi₂'⟩, isL (s := { s₁ with heap := h'' }) (N₆.get (.tail _ (.tail _ (.tail _ (.head _)))))⟩, J₆⟩
    cases f with
    | next => exact fin h₃'
    | cont => exact fin h₃'
    | brk => exact h₃'
    | ret v => exact h₃'
  · rintro s' ⟨h', tk, m', oe, oi, oc, wc, news', rfl, F', hd', N', hst, hJ⟩
    have fe := N'.n _ (.head _)
    have fi := N'.n _ (.tail _ (.head _))
    have nd := N'.nd
    simp only [List.map_cons, List.nodup_cons] at nd
    refine W.done _ _ _ (by rw [List.size_toArray]; exact hst) fun h₁ tk₁ hk₁ => ⟨rfl, ?_⟩
    have nwr : ∀ b, b ≠ e → b ≠ it → b ∉ [e, it] := fun b h1 h2 hm => by
      simp only [List.mem_cons, List.not_mem_nil, or_false] at hm
      rcases hm with h | h
      · exact h1 h
      · exact h2 h
    refine hQ h₁ _ m' oc wc news' hJ ⟨F'.ns.at' fun o q => hk₁ _ o (nwr _ (Ne.symm fe.2.1) (Ne.symm fi.2.1)) q, fun b o q => hk₁ b o (nwr b (fun z => by rw [z, fe.2.2] at q; cases q) (fun z => by rw [z, fi.2.2] at q; cases q)) (F'.keep _ _ q), F'.above⟩ hd' ⟨fun p hp => ?_, by have := nd.2.2; simpa using this⟩
    have q := N'.n p (.tail _ (.tail _ hp))
    refine ⟨hk₁ _ _ (nwr _ (fun z => ?_) (fun z => ?_)) q.1, q.2⟩
    · exact nd.1 (z ▸ List.mem_cons_of_mem _ (List.mem_map.mpr ⟨p, hp, rfl⟩))
    · exact nd.2.1 (z ▸ List.mem_map.mpr ⟨p, hp, rfl⟩)
end
/- RSF13 -/

/-- the state behind i columns -/
noncomputable def cols (sl : List UInt8) (sz : Nat) : Nat → List (List UInt8) × List Nat
  | 0 => (rows0 sl sz, [])
  | i + 1 => colStep i (cols sl sz i)
theorem fnd_lt {rws : List (List UInt8)} {ready col r : Nat} (h : r ∈ fnd rws ready col) : ready ≤ r ∧ r < rws.length ∧ (rws.getD r []).getD col 0 ≠ 0 := by
  unfold fnd at h
  obtain ⟨h1, h2⟩ := List.mem_filter.mp h
  obtain ⟨j, hj, rfl⟩ := List.mem_map.mp h1
  rw [List.mem_range] at hj
  exact ⟨by lia, by lia, by simpa using h2⟩
/-- shape kept by a column's step -/
theorem colStep_shape {col n : Nat} {p : List (List UInt8) × List Nat} (h : ∀ r ∈ p.1, r.length = n) : (colStep col p).1.length = p.1.length ∧ (∀ r ∈ (colStep col p).1, r.length = n) ∧ (colStep col p).2.length ≤ p.2.length + 1 ∧ ((colStep col p).2 = p.2 ∨ (colStep col p).2 = p.2 ++ [col]) := by
  unfold colStep
  split
  · exact ⟨rfl, h, Nat.le_succ _, .inl rfl⟩
  · rename_i r rest hf
    obtain ⟨hr1, hr2, hr3⟩ := fnd_lt (hf ▸ List.Mem.head _ : r ∈ fnd p.1 p.2.length col)
    have hlead : ((p.1.getD r []).map (gmul · (ginv ((p.1.getD r []).getD col 0)))).length = n := by rw [List.length_map]; exact h _ (rmem hr2)
    refine ⟨by simp, ?_, by simp, .inr rfl⟩
    have hrl2 : ∀ q ∈ (p.1.set r (p.1.getD p.2.length [])).set p.2.length ((p.1.getD r []).map (gmul · (ginv ((p.1.getD r []).getD col 0)))), q.length = n := fun q hq => by
      rcases List.mem_or_eq_of_mem_set hq with hq | rfl
      · rcases List.mem_or_eq_of_mem_set hq with hq | rfl
        · exact h q hq
        · exact h _ (rmem (by lia))
      · exact hlead
    intro q hq
    obtain ⟨k, hk, rfl⟩ := List.mem_map.mp hq
    rw [List.mem_range] at hk
    exact rowStep_len (k := k) (hrl2 _ (rmem hk)) hlead
theorem rows0_len (sl : List UInt8) (sz : Nat) : (rows0 sl sz).length = sl.length - sz := by unfold rows0; simp
theorem rows0_rows (sl : List UInt8) (sz : Nat) : ∀ r ∈ rows0 sl sz, r.length = sz + 1 := fun r hr => by
  unfold rows0 at hr
  obtain ⟨k, _, rfl⟩ := List.mem_map.mp hr
  simp
theorem cols_shape (sl : List UInt8) (sz : Nat) : ∀ i, (cols sl sz i).1.length = sl.length - sz ∧ (∀ r ∈ (cols sl sz i).1, r.length = sz + 1) ∧ (cols sl sz i).2.length ≤ i ∧ ∀ c ∈ (cols sl sz i).2, c < i
  | 0 => ⟨rows0_len sl sz, rows0_rows sl sz, Nat.le_refl _, fun c hc => by simp [cols] at hc⟩
  | i + 1 => by
    obtain ⟨h1, h2, h3, h4⟩ := cols_shape sl sz i
    obtain ⟨g1, g2, g3, g4⟩ := colStep_shape (col := i) h2
    refine ⟨g1.trans h1, g2, Nat.le_trans g3 (Nat.succ_le_succ h3), fun c hc => ?_⟩
    show c < i + 1
    have hc' : c ∈ (colStep i (cols sl sz i)).2 := hc
    rcases g4 with e | e
    · rw [e] at hc'; exact Nat.lt_succ_of_lt (h4 c hc')
    · rw [e] at hc'
      rcases List.mem_append.mp hc' with hc' | hc'
      · exact Nat.lt_succ_of_lt (h4 c hc')
      · rw [List.mem_singleton.mp hc']; exact Nat.lt_succ_self _
theorem cols_heads (sl : List UInt8) (sz : Nat) : ∀ i, (cols sl sz i).2.length ≤ (cols sl sz i).1.length
  | 0 => Nat.zero_le _
  | i + 1 => by
    have ih := cols_heads sl sz i
    show (colStep i (cols sl sz i)).2.length ≤ (colStep i (cols sl sz i)).1.length
    unfold colStep
    split
    · exact ih
    · rename_i r rest hf
      obtain ⟨hr1, hr2, hr3⟩ := fnd_lt (hf ▸ List.Mem.head _ : r ∈ fnd (cols sl sz i).1 (cols sl sz i).2.length i)
      simp only [List.length_append, List.length_cons, List.length_nil, List.length_map, List.length_range, List.length_set]
      lia

theorem Led.new2 {h₀ h h' : Heap} {L a b : Addr} {o o' : Obj} {m : Str → Option Value} {news : List (Addr × Obj)} (F : Fr h₀ L h m) (N : Led h₀ L h news) (k : h.StaysIn h') (ha : h.get? a = none) (hb : h.get? b = none) (hab : a ≠ b) (e : h'.get? a = some o) (e' : h'.get? b = some o') :
    Led h₀ L h' ((a, o) :: (b, o') :: news) := by
  have N₁ := Led.new' F N k ha e
  have N₂ := Led.new' F N k hb e'
  refine ⟨fun p hp => ?_, List.nodup_cons.mpr ⟨fun hm => ?_, N₂.nd⟩⟩
  · rcases List.mem_cons.mp hp with rfl | hp
    · exact N₁.n _ (.head _)
    · exact N₂.n p hp
  · simp only [List.map_cons, List.mem_cons] at hm
    rcases hm with h1 | h1
    · exact hab h1
    · exact (List.nodup_cons.mp N₁.nd).1 h1
theorem perm6 {α : Type} (t c f i r h : α) (l : List α) : (t :: c :: f :: i :: r :: h :: l).Perm (c :: h :: t :: f :: i :: r :: l) :=
  (List.Perm.swap ..).trans (.cons _ (List.perm_middle (l₁ := [t, f, i, r]) (l₂ := l) (a := h)))
/-- the taps, head by head -/
noncomputable def tapsOf (rws : List (List UInt8)) (sz : Nat) (heads : List Nat) : Nat → List UInt8
  | 0 => List.replicate sz 0
  | i + 1 => (tapsOf rws sz heads i).set (heads.getD i 0) ((rws.getD i []).getD sz 0)
theorem tapsOf_len (rws : List (List UInt8)) (sz : Nat) (heads : List Nat) : ∀ i, (tapsOf rws sz heads i).length = sz
  | 0 => by simp [tapsOf]
  | i + 1 => by simp [tapsOf, tapsOf_len rws sz heads i]

theorem perm5 {α : Type} (h r f i c : α) (l : List α) : (h :: r :: f :: i :: c :: l).Perm (c :: f :: i :: r :: h :: l) :=
  ((List.perm_middle (l₁ := [h, r, f, i]) (l₂ := l) (a := c))).trans (.cons _ (((List.perm_middle (l₁ := [h, r]) (l₂ := i :: l) (a := f))).trans (.cons _ (((List.perm_middle (l₁ := [h, r]) (l₂ := l) (a := i))).trans (.cons _ (.swap _ _ _))))))

noncomputable abbrev JCols (L D aH : Addr) (oR' o4 o3 o2 o1 : Obj) (sl : List UInt8) (sz i : Nat) (m' : Str → Option Value) (news : List (Addr × Obj)) : Prop :=
  ∃ oF' oI' wF' wI' rvs' hvs rc' hc' objs', news = (L + 1 + 1 + 1 + 1 + 1 + 1 + 1 + 1, oF') :: (L + 1 + 1 + 1 + 1 + 1 + 1 + 1, oI') :: (D, lsO rvs' rc') :: (aH, lsO hvs hc') :: (L + 1 + 1 + 1 + 1 + 1, oR') :: (L + 1 + 1 + 1 + 1, o4) :: (L + 1 + 1 + 1, o3) :: (L + 1 + 1, o2) :: (L + 1, o1) :: objs' ∧
      oF'.data = .cell wF' ∧ oI'.data = .cell wI' ∧ RowsIn objs' rvs' (cols sl sz i).1 ∧ IntsAre hvs ((cols sl sz i).2.map Int.ofNat) ∧ m' "heads" = some (.ref aH)
theorem taps_spec {w : World} {A : Around} {R : Result → Shared → Prop} {s : Shared} {mg : Str → Option Value} {a a14 aP aL aS : Addr} {vs : List Value} {c sz : Nat} {sl : List UInt8} {szv : Int} {ts : Tok}
    (hroom : A.depth + 2 < recursionLimit) (hun : A.units + 100 < cLine) (hh : A.handled = none) (hf : FnAt s.heap 15 a .none) (G : Gs mg s.heap) (m14 : mg "_law_product" = some (.ref a14)) (f14 : FnAt s.heap 14 a14 .none) (T : LTabs s.heap aP aL)
    (hS : s.heap.get? aS = some (lsO vs c)) (hvs : IntsAre vs (sl.map iu)) (hsl : sl.length ≤ 90) (hszv : szv = (sz : Int)) (hsz : sz ≤ 90)
    (hN : (∃ k, k < (cols sl sz sz).1.length - (cols sl sz sz).2.length ∧ ((cols sl sz sz).1.getD ((cols sl sz sz).2.length + k) []).getD sz 0 ≠ 0) → ∀ h' tk, s.heap.StaysIn h' → R (.ok (.ret .none)) { s with heap := h', toks := tk })
    (hT : (∀ k, k < (cols sl sz sz).1.length - (cols sl sz sz).2.length → ((cols sl sz sz).1.getD ((cols sl sz sz).2.length + k) []).getD sz 0 = 0) → ∀ h' tk r tvs tc, s.heap.StaysIn h' → s.heap.get? r = none → h'.get? r = some (lsO tvs tc) →
      IntsAre tvs ((tapsOf (cols sl sz sz).1 sz (cols sl sz sz).2 (cols sl sz sz).2.length).map iu) → R (.ok (.ret (.ref r))) { s with heap := h', toks := tk }) :
    codeC (model P w) A (.call (.ref a) ⟨[.ref aP, .ref aL, .ref aS, .int szv ts], []⟩) R s := by
  refine enterCC (binds := [("powers", .ref aP), ("logs", .ref aL), ("sums", .ref aS), ("size", .int szv ts)]) (by lia) hf G.glo.nolimit (fun pm cdv => BindsTo.of_eq rfl) (fun L cdv h₁ tk cells F N Y => ?_) (kinds_ok (by kernel_rfl!) _)
  refine wpC_mono (E := fun _ _ => False) ?_ (fun _ _ x => x) (fun _ _ x => x.elim)
  obtain ⟨oF, oI, oC, oR, o4, o3, o2, o1, he, dF, dI, dC, dR, d4, d3, d2, d1⟩ := kc_eight Y
  subst he
  have mR := G.range
  have mL := G.len
  have mZ := G.zip
  have GG := G.glo
  refine execsA_cons (wpAny_Assign_Name ?_)
  refine rows_spec hh GG mR mL F N ⟨_, N.get (.tail _ (.tail _ (.tail _ (.tail _ (.tail _ (.head _)))))), d3⟩ ⟨_, N.get (.tail _ (.tail _ (.tail _ (.tail _ (.head _))))), d4⟩ (F.keep _ _ hS) hvs (by lia) hszv (by lia) fun D h₂ tk₂ rvs rc objs F₂ N₂ hrv => ?_
  have N₃ := N₂.perm (.cons _ List.perm_append_comm)
  simp only [List.cons_append, List.nil_append] at N₃
  refine stC F₂ N₃ (by rfl) dR (fun _ => .tail (.tail (.tail (.tail .head)))) (by kernel_rfl!) (by kernel_rfl!) fun h₄ oR' dR' F₄ N₄ => ?_
  clear N₃ N₂ N F₂
  dsimp only
  refine execsA_cons ?_
  walk_at "go"
  refine mkListL F₄ N₄ (by simp) fun h₅ aH k₅ F₅ N₅ => ?_
  walk_at "go"
  rename_i h₆ F₆ N₆
  have N₇ := N₆.perm (perm5 ..)
  clear N₆ N₅ N₄ F₅ F₄
  have G₆ := GG
  refine execsC_cons (forRangeCell (h₀ := s.heap) ?_ hh (by rfl) (by kernel_rfl!) (by kernel_rfl!))
  walk_at "go"
  refine call_range_1 ?_
  refine ⟨_, 0, szv, _, _, _, sz, _, oC, _, _, JCols L D aH oR' o4 o3 o2 o1 sl sz,
    rfl, Heap.get?_push_size _ rfl, by lia, by lia, Fr.stays F₆ (stays_push _ _), dC, Led.stays N₇ (stays_push _ _), ?_, ?_, ?_⟩
  · exact ⟨oF, oI, _, _, rvs, [], rc, 0, objs, rfl, dF, dI, hrv, .nil, rfl⟩
  · rintro i t m₁ news₁ I h₇ tk₇ o₇ hi ⟨oF', oI', wF', wI', rvs', hvs, rc', hc', objs', rfl, dF', dI', hrv', hhv', y1⟩ d₇ F₇ N₈
    obtain ⟨g1, g2, g3, g4⟩ := cols_shape sl sz i
    refine col_turn (col := i) (sz := sz) (by lia) hun hh GG mR mL mZ m14 f14 T F₇ N₈ d₇ dF' dI' dR' d2 d1 hrv' hhv' (by lia) g2 hi (by lia) (by lia) (by lia) y1 fun f h' tk' m' oF₂ oI₂ wF₂ wI₂ rvs₂ hvs₂ rc₂ hc₂ objs₂ hf F' N' dF₂ dI₂ hrv₂ hhv₂ y2 => ?_
    have fin : NextC s.heap L s (I, rIt (0 + (i : Int) + 1) ((sz : Int) - i - 1)) (L + 1 + 1 + 1 + 1 + 1 + 1) (JCols L D aH oR' o4 o3 o2 o1 sl sz (i + 1)) { s with heap := h', toks := tk' } :=
      ⟨_, _, _, o₇, _, _, rfl, F', d₇, N', oF₂, oI₂, wF₂, wI₂, rvs₂, hvs₂, rc₂, hc₂, objs₂, rfl, dF₂, dI₂, hrv₂, hhv₂, y2⟩
    rcases hf with rfl | rfl
    · exact fin
    · exact fin
  · rintro h₇ tk₇ m₁ o₇ w₇ news₁ ⟨oF', oI', wF', wI', rvs', hvs, rc', hc', objs', rfl, dF', dI', hrv', hhv', y1⟩ F₇ d₇ N₈
    obtain ⟨g1, g2, g3, g4⟩ := cols_shape sl sz sz
    have hhl := ints_len hhv'
    rw [List.length_map] at hhl
    refine execsC_cons (forList (h₀ := s.heap) ?_ hh (by kernel_rfl!) (by kernel_rfl!))
    refine wpAny_Subscript_Slice (T := "list") PySem.F.slot_list_getitem.lookup ?_
    walk_at "go"
    refine lenL (cols sl sz sz).2.length (N₈.get (.tail _ (.tail _ (.tail _ (.tail _ (.head _)))))) (by lia) (by lia) ?_
    walk_at "go"
    dsimp only
    have k₉ := stays_push h₇ { cls := .type "slice", data := .fields #[.int ((cols sl sz sz).2.length : Int) (tk₇ + 1), .none, .none] }
    have hD₇ := N₈.get (.tail _ (.tail _ (.tail _ (.head _))))
    refine ⟨(isL (s := { s with heap := h₇.push _ }) (k₉ _ _ hD₇)).typeIs, ?_⟩
    refine wpAny_getItem_list_slice (isL (k₉ _ _ hD₇)) ⟨_, Heap.get?_push_size _ rfl, rfl, rfl⟩ (.int _ _) .none .none (by intro h; cases h) ?_ (by rw [List.size_toArray, hrv'.1, g1]; exact Nat.le_trans (by lia : _ ≤ 1000) (by decide))
    rw [slicePick_from']
    dsimp only
    have k₁₀ := stays_push (h₇.push { cls := .type "slice", data := .fields #[.int ((cols sl sz sz).2.length : Int) (tk₇ + 1), .none, .none] }) (lsO (rvs'.drop (cols sl sz sz).2.length) 0)
    have F₉ := Fr.stays F₇ k₉
    have N₉ := Led.stays N₈ k₉
    have F₁₀ := Fr.stays F₉ k₁₀
    have N₁₀ := Led.push F₉ N₉ (lsO (rvs'.drop (cols sl sz sz).2.length) 0)
    refine ⟨_, rvs'.drop (cols sl sz sz).2.length, 0, _, _, fun i m' news' => m' "heads" = some (.ref aH) ∧ (∀ k, k < i → ((cols sl sz sz).1.getD ((cols sl sz sz).2.length + k) []).getD sz 0 = 0) ∧ news' = _, rfl, F₁₀, N₁₀, ⟨y1, fun k hk => absurd hk (Nat.not_lt_zero _), rfl⟩, ?_, ?_⟩
    · rintro i v m₂ news₂ I oI₂ h₁₁ tk₁₁ hv ⟨z1, z2, rfl⟩ F₁₁ N₁₁
      rw [List.getElem?_drop] at hv
      have hvl : (cols sl sz sz).2.length + i < (cols sl sz sz).1.length := by
        rcases Nat.lt_or_ge ((cols sl sz sz).2.length + i) (cols sl sz sz).1.length with h1 | h1
        · exact h1
        · rw [List.getElem?_eq_none (by rw [hrv'.1]; exact h1)] at hv; cases hv
      obtain ⟨ak, ws, wc, e1, e2, e3⟩ := hrv'.at hvl
      rw [e1] at hv
      cases hv
      have hkl := g2 _ (rmem hvl)
      have hwl := ints_len e3
      rw [List.length_map] at hwl
      obtain ⟨tx, hx⟩ := ints_at e3 (j := sz) (by lia)
      refine execsA_cons ?_
      walk_at "go"
      refine subLneg sz (N₁₁.get (by repeat (first | exact e2 | refine List.Mem.tail _ ?_))) (by lia) (by lia) hx (by with_unfolding_all rfl) ?_
      walk_at "go"
      rw [pos_u8]
      by_cases hx0 : ((cols sl sz sz).1.getD ((cols sl sz sz).2.length + i) []).getD sz 0 = 0
      · rw [if_neg (by simpa using hx0)]
        walk_at "go"
        refine execsC_nil ⟨_, _, _, _, rfl, F₁₁, N₁₁, z1, fun k hk => ?_, rfl⟩
        rcases Nat.lt_succ_iff_lt_or_eq.mp hk with h1 | rfl
        · exact z2 k h1
        · exact hx0
      · rw [if_pos (by simpa using hx0)]
        walk_at "go"
        exact hN ⟨i, by lia, hx0⟩ _ _ F₁₁.keep
    · rintro h₁₁ tk₁₁ m₂ news₂ ⟨z1, z2, rfl⟩ F₁₁ N₁₁
      have N₁₂ := N₁₁.tail
      clear N₁₁ N₁₀ N₉ F₁₀ F₉ N₈ F₇ hD₇
      refine execsA_cons ?_
      walk_at "go"
      refine mkListL F₁₁ N₁₂ (by simp) fun h₁₂ b₁₂ k₁₂ F₁₂ N₁₃ => ?_
      walk_at "go"
      refine mulOne sz F₁₂ N₁₃ (N₁₃.get (.head _)) hszv (by lia) fun h₁₃ aT k₁₃ F₁₃ N₁₄ => ?_
      have N₁₅ := N₁₄.subl (.cons_cons _ (.cons _ (List.Sublist.refl _)))
      clear N₁₄ N₁₃ N₁₂ F₁₂ F₁₁
      walk_at "go"
      rename_i h₁₄ F₁₄ N₁₆
      have mE := G.enum
      refine execsC_cons (forEnum (h₀ := s.heap) (c := L + 1 + 1 + 1 + 1 + 1 + 1) (l := aH) (vs := hvs) (cv := hc') ?_ hh (by kernel_rfl!) (by rfl) (by kernel_rfl!) (by kernel_rfl!))
      walk_at "go"
      have N₁₇ := N₁₆.perm (perm6 ..)
      clear N₁₆ N₁₅ F₁₃
      refine call_enumerate_1 (N₁₇.get (.tail _ (.head _))) fun h₁₅ hen hit hsz₁₅ hk₁₅ => ?_
      dsimp only at hen hit hsz₁₅ hk₁₅ ⊢
      obtain ⟨oi, hoi, hoi'⟩ := hit
      have hlt := Heap.lt_size (N₁₇.get (.tail _ (.head _)))
      have N₁₈ := Led.new2 F₁₄ N₁₇ hk₁₅ (a := h₁₄.objs.size + 1) (b := h₁₄.objs.size) (Heap.get?_none_of_le (Nat.le_succ _)) (get_size_none _) (Nat.ne_of_gt (Nat.lt_succ_self _)) hen hoi
      refine ⟨_, _, _, _, _, o₇, w₇, _, fun i m' news' => m' "heads" = some (.ref aH) ∧ m' "taps" = some (.ref aT) ∧ ∃ tvs, news' = (aT, lsO tvs 0) :: _ ∧ IntsAre tvs ((tapsOf (cols sl sz sz).1 sz (cols sl sz sz).2 i).map iu), rfl,
        Nat.ne_of_gt (Nat.lt_succ_self _), Nat.ne_of_lt (Nat.lt_succ_of_lt hlt), Nat.ne_of_lt hlt, hen, ⟨oi, hoi, hoi'⟩, Fr.stays F₁₄ hk₁₅, d₇, N₁₈, ⟨z1, rfl, _, rfl, ?_⟩, ?_, ?_⟩
      · show IntsAre _ ((List.replicate sz (0 : UInt8)).map iu)
        rw [List.map_replicate]; exact ints_rep 0 _ sz
      · rintro i t v m₃ news₃ h₁₆ tk₁₆ oe₃ oi₃ oc₃ hv ⟨u1, u2, tvs, rfl, htv⟩ d₃' F₁₆ N₁₉
        have hil : i < (cols sl sz sz).2.length := by
          rcases Nat.lt_or_ge i (cols sl sz sz).2.length with h1 | h1
          · exact h1
          · rw [List.getElem?_eq_none (by lia)] at hv; cases hv
        have hch := cols_heads sl sz sz
        obtain ⟨ak, ws, wc, e1, e2, e3⟩ := hrv'.at (k := i) (by lia)
        have hkl := g2 _ (rmem (rws := (cols sl sz sz).1) (k := i) (by lia))
        have hwl := ints_len e3
        rw [List.length_map] at hwl
        obtain ⟨tx, hx⟩ := ints_at e3 (j := sz) (by lia)
        have hgi : (cols sl sz sz).2[i]? = some ((cols sl sz sz).2.getD i 0) := by rw [List.getD_eq_getElem?_getD, List.getElem?_eq_getElem hil]; rfl
        obtain ⟨tv, hv'⟩ := (ints_get hhv').2 i _ (by rw [List.getElem?_map, hgi]; rfl)
        rw [hv'] at hv
        cases hv
        have htl := ints_len htv
        rw [List.length_map, tapsOf_len] at htl
        have hcl : (cols sl sz sz).2.getD i 0 < sz := g4 _ (by rw [List.getD_eq_getElem?_getD, List.getElem?_eq_getElem hil]; exact List.getElem_mem hil)
        clear N₁₈ N₁₇ F₁₄
        refine execsA_cons ?_
        walk_at "go"
        refine subL i (N₁₉.get (.tail _ (.tail _ (.tail _ (.tail _ (.tail _ (.tail _ (.tail _ (.head _))))))))) rfl (by rw [hrv'.1]; lia) e1 (by with_unfolding_all rfl) ?_
        walk_at "go"
        refine subLneg sz (N₁₉.get (by repeat (first | exact e2 | refine List.Mem.tail _ ?_))) (by lia) (by lia) hx (by with_unfolding_all rfl) ?_
        walk_at "go"
        refine setL ((cols sl sz sz).2.getD i 0) F₁₆ N₁₉ (.tail (.tail (.tail (.tail .head)))) rfl (by lia) (by lia) fun h₁₇ F₁₇ N₂₀ => ?_
        refine execsC_nil ⟨_, _, _, oc₃, _, _, rfl, F₁₇, d₃', N₂₀, u1, u2, _, rfl, ?_⟩
        show IntsAre _ (((tapsOf (cols sl sz sz).1 sz (cols sl sz sz).2 i).set _ _).map iu)
        rw [List.map_set]
        exact ints_set _ _ _ htv
      · rintro h₁₆ tk₁₆ m₃ oc₃ w₃ news₃ ⟨u1, u2, tvs, rfl, htv⟩ F₁₆ d₃' N₁₉
        clear N₁₈ N₁₇ F₁₄
        refine execsA_cons ?_
        walk_at "go"
        refine hT (fun k hk => z2 k (by rw [List.length_drop, hrv'.1]; exact hk)) _ _ aT tvs 0 F₁₆.keep (N₁₉.fresh (.tail _ (.tail _ (.head _)))) (N₁₉.get (.tail _ (.tail _ (.head _)))) ?_
        rw [← hhl]; exact htv
/- RSC10 -/
section
variable {α : Type} {M : Model} {A : Around} {E : Value → Shared → Prop} {s : Shared} {env : Env}
theorem assignTupleC {elts k tpos value pos} {Q : Flow → Shared → Prop}
    (h : wpC M A (eval value env) (fun v s₁ => wpAny M A (assign (.Tuple elts k tpos) env v) (fun _ => Q .next) E s₁) E s)
    (hs : swapsWithSole [.Tuple elts k tpos] value pos.line env = pure false := by rfl)
    (hw : swappedStores [.Tuple elts k tpos] value env = pure none := by rfl) :
    wpC M A (exec (.Assign [.Tuple elts k tpos] value pos) env) Q E s := by
  rw [exec_Assign]
  refine wpC_bind (wpC_standAt ?_)
  rw [hs]
  refine wpC_bind (wpC_pure ?_)
  rw [if_neg (by decide)]
  refine wpC_bind (wpC_mono h (fun v s₁ h₁ => wpC_of ?_) fun _ _ x => x)
  rw [hw]
  refine wpAny_bind (wpAny_pure ?_)
  show wpAny M A (do assignAll v [assign (.Tuple elts k tpos) env]; pure .next) Q E s₁
  exact wpAny_bind (wpAny_mono h₁ (fun _ _ x => wpAny_pure x) fun _ _ x => x)
/-- a call of a def without arguments -/
theorem callWithC_fn0 {pos : Pos} {a : Addr} {o : Obj} {fd : FuncData} {Q : Value → Shared → Prop} (ho : s.heap.get? a = some o) (hd : o.data = .func fd)
    (h : wpC M A (call (.ref a) []) Q E s) : wpC M A (callWith pos (.ref a) [] (backTo pos (starEach [] env)) []) Q E s := by
  unfold callWith
  refine wpC_bind (wpC_holding ?_)
  have e : wpC M A (evalArgs (.ref a) true (backTo pos (starEach [] env)) []) (fun x s₁ => x = ⟨[], []⟩ ∧ s₁ = s) E s := by
    unfold evalArgs
    exact wpC_bind (splicedC_nil (wpC_pure ⟨rfl, rfl⟩))
  refine wpC_mono e (fun x s₁ h₁ => ?_) fun _ _ x => x
  obtain ⟨rfl, rfl⟩ := h₁
  refine wpC_bind (wpC_standAt ?_)
  refine wpC_bind (m := keeperOf (.ref a)) ?_
  unfold keeperOf
  refine wpC_bind (wpC_of (wpAny_load ho ?_))
  rw [hd]
  refine wpC_pure ?_
  refine wpC_bind (wpC_mono (Q := Q) (t := callMarked plainCall (Value.ref a) ([] ++ []) []) (by unfold callMarked; exact wpC_keep h) (fun r s₂ hr => wpC_bind (wpC_holding (wpC_point (wpC_pure hr)))) fun _ _ x => x)
end
section
variable {prog : Program} {w : World} {A : Around} {E : Value → Shared → Prop} {s : Shared}
theorem draw_list {it t : Addr} {items : Array Value} (hne : t ≠ it) : ∀ (n i : Nat) (s : Shared) (Q : List Value → Shared → Prop), s.heap.IsListIter it t i → s.heap.IsList t items → i + n ≤ items.size →
    (∀ h', h'.IsListIter it t (i + n) → Heap.SameBut it s.heap h' → Q ((items.toList.drop i).take n) { s with heap := h' }) → wpAny (model prog w) A (draw (.ref it) n) Q E s
  | 0, i, s, Q, hit, _, _, hQ => by
    show wpAny _ _ (pure []) Q E s
    exact wpAny_pure (by simpa using hQ s.heap hit (Heap.SameBut.refl ..))
  | n + 1, i, s, Q, hit, ht, hle, hQ => by
    have hlt : i < items.size := by lia
    show wpAny _ _ (pyNext (.ref it) >>= _) Q E s
    refine wpAny_bind (wpAny_pyNext_list_item hit ht (x := items[i]) (by simp [hlt]) fun h₁ hit₁ hs₁ => ?_)
    refine wpAny_bind (wpAny_holding (draw_list hne n (i + 1) _ _ hit₁ (let ⟨o, e, r⟩ := ht; ⟨o, (hs₁.2 _ hne).trans e, r⟩) (by lia) fun h₂ hit₂ hs₂ => wpAny_pure ?_))
    have hd : items.toList.drop i = items[i] :: items.toList.drop (i + 1) := by simp [List.drop_eq_getElem_cons, hlt]
    have := hQ h₂ (by rw [show i + (n + 1) = i + 1 + n by lia]; exact hit₂) (hs₁.trans hs₂)
    rw [hd, List.take_succ_cons] at this
    exact this
theorem unpackItems_list {t : Addr} {items : Array Value} {Q : List Value → Shared → Prop} (hh : A.handled = none) (ht : s.heap.IsList t items)
    (hQ : ∀ h', Heap.ExtBut s.heap.objs.size s.heap h' → Q items.toList { s with heap := h' }) : wpAny (model prog w) A (unpackItems (.ref t) items.size none) Q E s := by
  have hlt : t ≠ s.heap.objs.size := by obtain ⟨o, ho, _⟩ := ht; exact Nat.ne_of_lt (Heap.lt_size ho)
  unfold unpackItems
  refine wpAny_bind ?_
  unfold notIterableAtAll
  refine wpAny_bind (wpAny_specialOf ht.typeIs slot_list_iter.lookup ?_)
  refine wpAny_pure ?_
  simp only [Bool.false_eq_true, if_false]
  refine wpAny_bind (wpAny_holding (wpAny_pyIter_list ht ?_))
  have hpush : ∀ o, (s.heap.push o).IsList t items := fun o => let ⟨o', e, r⟩ := ht; ⟨o', Heap.get?_push_of_some _ e, r⟩
  refine wpAny_bind (wpAny_holding (draw_list hlt items.size 0 _ _ ⟨_, Heap.get?_push_size _ rfl, rfl, rfl⟩ (hpush _) (by lia) fun h₁ hit₁ hs₁ => ?_))
  have hall : List.take items.size (List.drop 0 items.toList) = items.toList := by
    rw [List.drop_zero]; exact List.take_of_length_le (by simp)
  rw [hall]
  rw [if_neg (by simp)]
  have ht₁ : h₁.IsList t items := let ⟨o', e, r⟩ := hpush _; ⟨o', (hs₁.2 _ hlt).trans e, r⟩
  refine wpAny_bind (wpAny_holding (wpAny_pyNext_list_end hh hit₁ ht₁ (by simp) fun h₂ he₂ => ?_))
  simp only [Option.isSome_none, Bool.false_eq_true, if_false]
  exact wpAny_pure (hQ h₂ fun b o hb e => he₂ b o hb (hs₁.extBut b o hb (Heap.get?_push_of_some _ e)))
theorem assign_TupleL {env : Env} {elts : List Expr} {x1} {pos : Pos} {t : Addr} {items : Array Value} {Q : Unit → Shared → Prop} (hh : A.handled = none) (ht : s.heap.IsList t items)
    (hn : (assignEach elts env).length = items.size) (hstar : (assignEach elts env).findIdx? (·.1) = none)
    (h : ∀ h', Heap.ExtBut s.heap.objs.size s.heap h' → wpAny (model prog w) A (assignInOrder ((assignEach elts env).map (·.2)) items.toList) Q E { s with heap := h' }) :
    wpAny (model prog w) A (assign (.Tuple elts x1 pos) env (.ref t)) Q E s := by
  rw [arm_assign_Tuple]
  refine wpAny_bind (wpAny_standAt ?_)
  unfold unpack
  rw [hn, hstar]
  exact wpAny_bind (wpAny_holding (unpackItems_list hh ht h))
end
/- RSH1 -/
/-! a tree run by evaluation, told as wp -/
mutual
noncomputable def ev (M : Model) : Nat → (α : Type) → Ctx → Sem α → Pos → Shared → Option (Except Value α × Pos × Shared)
  | 0, _, _, _, _, _ => none
  | n + 1, α, Γ, t, p, s => match t with
    | .pure a => some (.ok a, p, s)
    | .raise e => some (.error e, p, s)
    | .rule _ k => ev M n α Γ (k ()) p s
    | .at p' k => ev M n α Γ (k ()) p' s
    | .load a _ k => match s.heap.get? a with
      | some o => ev M n α Γ (k o) p s
      | none => none
    | .update a _ f k => match (s.heap.get? a).isSome with
      | true => ev M n α Γ (k ()) p { s with heap := s.heap.update a f }
      | false => none
    | .loadIfAlive a k => ev M n α Γ (k (s.heap.get? a)) p s
    | .point _ k => ev M n α Γ (k ()) p s
    | .alloc o k => ev M n α Γ (k s.heap.objs.size) p { s with heap := s.heap.push o }
    | .fresh k => ev M n α Γ (k s.toks) p { s with toks := s.toks + 1 }
    | .ask k => ev M n α Γ (k ⟨M.prog, M.w.params⟩) p s
    | .call c h _ _ k => match evc M n (Γ.enter c h p) p s with
      | some (r, s') => ev M n α Γ (k r) p s'
      | none => none
    | .handled own k => ev M n α Γ (k (match own with | true => Γ.own | false => Γ.handled)) p s
    | .stack k => ev M n α Γ (k ((Γ.code, p) :: Γ.below)) p s
    | .thread k => ev M n α Γ (k 0) p s
    | _ => none
noncomputable def evc (M : Model) : Nat → Ctx → Pos → Shared → Option (Result × Shared)
  | 0, _, _, _ => none
  | n + 1, Γ, p, s => match ev M n Fin Γ (M.den Γ.code) p s with
    | some (.ok (.done f), _, s') => some (.ok f, s')
    | some (.ok (.again c), p', s') => match c.quiet with
      | true => evc M n (Γ.goto c) p' s'
      | false => none
    | some (.error e, _, s') => some (.error e, s')
    | none => none
end
noncomputable def Ends {α : Type} (Q : α → Pos → Shared → Prop) (E : Value → Pos → Shared → Prop) : Except Value α → Pos → Shared → Prop
  | .ok a, p, s => Q a p s
  | .error e, p, s => E e p s
theorem ev_both (M : Model) : ∀ n, (∀ α Γ (t : Sem α) p s r p' s' Q E, ev M n α Γ t p s = some (r, p', s') → Ends Q E r p' s' → wp M Γ t Q E p s) ∧
    ∀ Γ p s r s' (R : Result → Shared → Prop), evc M n Γ p s = some (r, s') → R r s' → wpCode M Γ R p s := by
  intro n
  induction n with
  | zero => exact ⟨fun _ _ _ _ _ _ _ _ _ _ h => (by cases h), fun _ _ _ _ _ _ h => (by cases h)⟩
  | succ n ih =>
    refine ⟨fun α Γ t p s r p' s' Q E h hr => ?_, fun Γ p s r s' R h hr => ?_⟩
    · cases t with
      | pure a => cases h; exact hr
      | raise e => cases h; exact hr
      | rule _ k => have w := ih.1 α Γ (k ()) p s r p' s' Q E h hr; exact w
      | «at» q k => have w := ih.1 α Γ (k ()) q s r p' s' Q E h hr; exact w
      | load a _ k =>
        cases ho : s.heap.get? a with
        | none =>
          have h : (match s.heap.get? a with | some o => ev M n α Γ (k o) p s | none => none) = some (r, p', s') := h
          rw [ho] at h; cases h
        | some o =>
          have h : (match s.heap.get? a with | some o => ev M n α Γ (k o) p s | none => none) = some (r, p', s') := h
          rw [ho] at h; exact ⟨o, ho, ih.1 _ _ _ _ _ _ _ _ Q E h hr⟩
      | update a _ f k =>
        have h : (match (s.heap.get? a).isSome with | true => ev M n α Γ (k ()) p { s with heap := s.heap.update a f } | false => none) = some (r, p', s') := h
        cases ho : (s.heap.get? a).isSome with
        | false => rw [ho] at h; cases h
        | true => rw [ho] at h; exact ⟨ho, ih.1 _ _ _ _ _ _ _ _ Q E h hr⟩
      | loadIfAlive a k => have w := ih.1 α Γ (k (s.heap.get? a)) p s r p' s' Q E h hr; exact w
      | point _ k => have w := ih.1 α Γ (k ()) p s r p' s' Q E h hr; exact w
      | alloc o k => have w := ih.1 α Γ (k s.heap.objs.size) p { s with heap := s.heap.push o } r p' s' Q E h hr; exact w
      | fresh k => have w := ih.1 α Γ (k s.toks) p { s with toks := s.toks + 1 } r p' s' Q E h hr; exact w
      | ask k => have w := ih.1 α Γ (k ⟨M.prog, M.w.params⟩) p s r p' s' Q E h hr; exact w
      | call c hd _ _ k =>
        have h : (match evc M n (Γ.enter c hd p) p s with | some (r, s') => ev M n α Γ (k r) p s' | none => none) = some (r, p', s') := h
        cases hc : evc M n (Γ.enter c hd p) p s with
        | none => rw [hc] at h; cases h
        | some x => obtain ⟨r₁, s₁⟩ := x; rw [hc] at h; exact ih.2 _ _ _ _ _ (fun r₁ s₁ => wp M Γ (k r₁) Q E p s₁) hc (ih.1 _ _ _ _ _ _ _ _ Q E h hr)
      | handled own k =>
        cases own with
        | true => have w := ih.1 α Γ (k Γ.own) p s r p' s' Q E h hr; exact w
        | false => have w := ih.1 α Γ (k Γ.handled) p s r p' s' Q E h hr; exact w
      | stack k => have w := ih.1 α Γ (k ((Γ.code, p) :: Γ.below)) p s r p' s' Q E h hr; exact w
      | thread k => have w := ih.1 α Γ (k 0) p s r p' s' Q E h hr; exact w
      | _ => cases h
    · have h : (match ev M n Fin Γ (M.den Γ.code) p s with
          | some (.ok (.done f), _, s') => some (.ok f, s')
          | some (.ok (.again c), p', s') => (match c.quiet with
            | true => evc M n (Γ.goto c) p' s'
            | false => none)
          | some (.error e, _, s') => some (.error e, s')
          | none => none) = some (r, s') := h
      cases he : ev M n Fin Γ (M.den Γ.code) p s with
      | none => rw [he] at h; cases h
      | some x =>
        obtain ⟨res, p₁, s₁⟩ := x
        rw [he] at h
        rw [wpCode_iff_wp]
        cases res with
        | error e => cases h; exact ih.1 _ _ _ _ _ _ _ _ _ _ he hr
        | ok fin =>
          cases fin with
          | done f => cases h; exact ih.1 _ _ _ _ _ _ _ _ _ _ he hr
          | again c =>
            have h : (match c.quiet with | true => evc M n (Γ.goto c) p₁ s₁ | false => none) = some (r, s') := h
            cases hq : c.quiet with
            | false => rw [hq] at h; cases h
            | true => rw [hq] at h; exact ih.1 _ _ _ _ _ _ _ _ _ _ he ⟨hq, ih.2 _ _ _ _ _ R h hr⟩
theorem ev_wp {M : Model} {n : Nat} {α : Type} {Γ : Ctx} {t : Sem α} {p p' : Pos} {s s' : Shared} {a : α} {Q : α → Pos → Shared → Prop} {E : Value → Pos → Shared → Prop}
    (h : ev M n α Γ t p s = some (.ok a, p', s')) (hq : Q a p' s') : wp M Γ t Q E p s := (ev_both M n).1 _ _ _ _ _ _ _ _ Q E h hq
/- RSH2 -/
noncomputable abbrev MT (w : World) : Model := ⟨denote treeTable, P, w⟩
noncomputable def Γ0 : Ctx := ⟨.builtin "claim.caller" {}, none, none, [], none⟩
noncomputable def s0 (w : World) (os : OsState) : Shared := ⟨boot_heap w.params, Array.mk [], boot_drawn, boot_toks, os⟩
noncomputable def envB (code : Value) (frame : Addr) : Env := { scope := P.main.scope, locals := mainNs, globals := mainNs, cells := [], code, frame := some frame }
noncomputable def ΓB (code : Value) (frame : Addr) (p : Pos) : Ctx := Γ0.enter (.body P.main.body (envB code frame)) none p
noncomputable def preT : Sem (Value × Addr) := do
  let code ← moduleCode P.main
  let frame ← newBodyFrame code mainNs mainNs
  pure (code, frame)
noncomputable def first (k : Nat) : List Stmt := P.main.body.take k
noncomputable def mid (k : Nat) (w : World) (os : OsState) : Option (Value × Addr × Pos × Pos × Shared) :=
  match ev (MT w) 100 (Value × Addr) Γ0 preT default (s0 w os) with
  | some (.ok (code, frame), p1, s1) => match ev (MT w) 2000 Flow (ΓB code frame p1) (execs (first k) (envB code frame)) p1 s1 with
    | some (.ok .next, p2, s2) => some (code, frame, p1, p2, s2)
    | _ => none
  | _ => none
/- RSH3 -/
/-- the text with the class alone -/
noncomputable def QC : Program := { P with main := { P.main with body := [stmtAt 3] } }
noncomputable def looseN : List Str := ["_bytearray", "xrange", "init_tables", "gf_inverse", "gf_mul", "gf_mult_noLUT", "gf_poly_scale", "gf_poly_add", "rs_find_error_locator"]
set_option maxHeartbeats 4000000 in
theorem mid_seen : ∀ w os, (mid 11 w os).map (fun x => openSeen QC looseN (importedModules P.main.body) (fun _ => true) true x.2.2.2.2) = some (openGood QC looseN) := fun w os => by kernel_rfl
/- RSH4 -/
noncomputable def dataAt (h : Heap) (a : Addr) : Option Data := (h.get? a).map (·.data)
noncomputable def nameIn (h : Heap) (a : Addr) : Option Value := (h.get? a).bind fun o => match o.data with | .fields vs => vs[1]? | _ => none
noncomputable def rsM : Value := .str (Str.ofString "reedsolo") 187
noncomputable def psM : Array Value := #[rawInt 4, rawInt 0, .ref 20, rawInt 6, rawInt 0, .ref 34, rawInt 18, rawInt 0, .ref 41, rawInt 20, rawInt 0, .ref 48, rawInt 24, rawInt 0, .ref 56, rawInt 34, rawInt 0, .ref 61, rawInt 36, rawInt 0, .ref 68, rawInt 42, rawInt 0, .ref 76]
noncomputable def codeM : Array Value := #[.str (Str.ofString "<module>") 182, .str (Str.ofString "<module>") 183, .str (Str.ofString "/claim/cut.py") 184, rawInt 1, rawInt 0, rawInt 0, rawInt 0, rawInt 0, .ref 11, .bool false, rawInt 181, .ref 12, .none, .none, .none, .none, rawInt 185, rawInt 1, .str (Str.ofString "/claim/cut.py") 186]
noncomputable def clsAt (h : Heap) (a : Addr) : Option (Addr × List Value) := (h.get? a).bind fun o => match o.data with | .cls cd => some (cd.ns, cd.mro) | _ => none
noncomputable def obsF (x : Value × Addr × Pos × Pos × Shared) :=
  let h := x.2.2.2.2.heap
  (x.1, x.2.1, x.2.2.2.2.os, x.2.2.2.2.gens, h.objs.size, ([35, 42, 49, 57, 62, 69, 77, 28, 50, 70, 12, 13] : List Nat).map (dataAt h), ([34, 41, 48, 56, 61, 68, 76] : List Nat).map (nameIn h),
    (["init_tables", "gf_inverse", "gf_mul", "gf_mult_noLUT", "gf_poly_scale", "gf_poly_add", "rs_find_error_locator", "_bytearray", "xrange", "__builtins__", "ReedSolomonError"] : List Str).map (h.nsMap mainGlobals), clsAt h 24)
noncomputable def obsV (os : OsState) : Value × Addr × OsState × Array GenState × Nat × List (Option Data) × List (Option Value) × List (Option Value) × Option (Addr × List Value) :=
  (.ref 13, 14, os, Array.mk [], 78, [some (.func (fdAt 4 (.ref 28) rsM (.ref 34))), some (.func (fdAt 5 .none rsM (.ref 41))), some (.func (fdAt 6 .none rsM (.ref 48))), some (.func (fdAt 7 (.ref 50) rsM (.ref 56))), some (.func (fdAt 8 .none rsM (.ref 61))), some (.func (fdAt 9 .none rsM (.ref 68))), some (.func (fdAt 10 (.ref 70) rsM (.ref 76))),
      some (.seq #[.int 285 211, .int 2 212, .int 8 213] 0), some (.seq #[.int 0 243, .int 256 244, .bool true] 0), some (.seq #[.none, .int 0 273] 0), some (.fields psM), some (.fields codeM)],
    [some (.str (nameAt 4) 215), some (.str (nameAt 5) 229), some (.str (nameAt 6) 236), some (.str (nameAt 7) 246), some (.str (nameAt 8) 258), some (.str (nameAt 9) 264), some (.str (nameAt 10) 275)],
    [some (.ref 35), some (.ref 42), some (.ref 49), some (.ref 57), some (.ref 62), some (.ref 69), some (.ref 77), some (.type "bytearray"), some (.type "range"), some (.ref 4), some (.ref 24)], some (23, [.ref 24, .type "Exception", .type "BaseException", .type "object"]))
set_option maxHeartbeats 4000000 in
theorem mid_obs : ∀ w os, (mid 11 w os).map obsF = some (obsV os) := fun w os => by kernel_rfl
noncomputable def keptL : List Nat := [0, 1, 4, 5, 7, 8, 9, 10]
noncomputable def obsK (w : World) (x : Value × Addr × Pos × Pos × Shared) :=
  let h := x.2.2.2.2.heap
  (staticsOk (importedModules P.main.body) (boot_heap w.params) h && namesBound P h && gensDone x.2.2.2.2 && laidKept (boot_heap w.params) h, keptL.map h.get?)
set_option maxHeartbeats 4000000 in
theorem mid_kept : ∀ w os, (mid 11 w os).map (obsK w) = some (true, keptL.map (boot_heap w.params).get?) := fun w os => by kernel_rfl
/- RSH5 -/
noncomputable abbrev modsP : List Str := importedModules P.main.body
theorem fnAt_of {h : Heap} {i : Nat} {a c : Addr} {dV pm : Value} {t : Tok} (e : dataAt h a = some (.func (fdAt i dV pm (.ref c)))) (e' : nameIn h c = some (.str (nameAt i) t)) : FnAt h i a dV := by
  unfold dataAt at e
  obtain ⟨o, ho, hd⟩ := Option.map_eq_some_iff.mp e
  refine ⟨o, pm, .ref c, ho, hd, ?_⟩
  unfold nameIn at e'
  obtain ⟨oc, hc, hn⟩ := Option.bind_eq_some_iff.mp e'
  cases hdc : oc.data with
  | fields vs => rw [hdc] at hn; exact ⟨c, oc, vs, t, rfl, hc, hdc, hn⟩
  | _ => rw [hdc] at hn; cases hn
/-- what stands behind statement 10 -/
structure MidF (w : World) (os : OsState) (s : Shared) : Prop where
  os : s.os = os
  gens : s.gens = #[]
  size : s.heap.objs.size = 78
  top : Top QC (looseW QC looseN) (ExcName.means s.heap) (s.heap.nsMap mainGlobals) (s.heap.nsMap builtinsNs) s.heap
  acc : staticsAccountedI s.heap modsP
  blt : builtinsAsBooted s.heap
  stat : staticsBehindTheTop modsP (boot_heap w.params) s.heap
  names : ∀ x v, s.heap.nsMap mainGlobals x = some v → x ∈ startupNames ∨ x ∈ P.boundNames
  laid : ∀ x ∈ laidNames, s.heap.nsMap mainGlobals x = globalOf (boot_heap w.params) x
  keep : keptL.map s.heap.get? = keptL.map (boot_heap w.params).get?
  f4 : FnAt s.heap 4 35 (.ref 28)
  f5 : FnAt s.heap 5 42 .none
  f6 : FnAt s.heap 6 49 .none
  f7 : FnAt s.heap 7 57 (.ref 50)
  f8 : FnAt s.heap 8 62 .none
  f9 : FnAt s.heap 9 69 .none
  f10 : FnAt s.heap 10 77 (.ref 70)
  d28 : dataAt s.heap 28 = some (.seq #[.int 285 211, .int 2 212, .int 8 213] 0)
  d50 : dataAt s.heap 50 = some (.seq #[.int 0 243, .int 256 244, .bool true] 0)
  d70 : dataAt s.heap 70 = some (.seq #[.none, .int 0 273] 0)
  d12 : dataAt s.heap 12 = some (.fields psM)
  d13 : dataAt s.heap 13 = some (.fields codeM)
  m4 : s.heap.nsMap mainGlobals "init_tables" = some (.ref 35)
  m5 : s.heap.nsMap mainGlobals "gf_inverse" = some (.ref 42)
  m6 : s.heap.nsMap mainGlobals "gf_mul" = some (.ref 49)
  m7 : s.heap.nsMap mainGlobals "gf_mult_noLUT" = some (.ref 57)
  m8 : s.heap.nsMap mainGlobals "gf_poly_scale" = some (.ref 62)
  m9 : s.heap.nsMap mainGlobals "gf_poly_add" = some (.ref 69)
  m10 : s.heap.nsMap mainGlobals "rs_find_error_locator" = some (.ref 77)
  mB : s.heap.nsMap mainGlobals "_bytearray" = some (.type "bytearray")
  mX : s.heap.nsMap mainGlobals "xrange" = some (.type "range")
  mBu : s.heap.nsMap mainGlobals "__builtins__" = some (.ref 4)
  mC : s.heap.nsMap mainGlobals "ReedSolomonError" = some (.ref 24)
  cN : clsAt s.heap 24 = some (23, [.ref 24, .type "Exception", .type "BaseException", .type "object"])
theorem mid_facts (w : World) (os : OsState) : ∃ p1 p2 s, mid 11 w os = some (.ref 13, 14, p1, p2, s) ∧ MidF w os s := by
  obtain ⟨⟨code, frame, p1, p2, s⟩, hx, ho⟩ := Option.map_eq_some_iff.mp (mid_obs w os)
  obtain ⟨x', hx', hs⟩ := Option.map_eq_some_iff.mp (mid_seen w os)
  rw [hx] at hx'; cases hx'
  obtain ⟨x', hx', hk⟩ := Option.map_eq_some_iff.mp (mid_kept w os)
  rw [hx] at hx'; cases hx'
  simp only [obsF, obsV, Prod.mk.injEq, List.map_cons, List.map_nil, List.cons.injEq, and_true] at ho
  obtain ⟨rfl, rfl, h1, h2, h3, ⟨a1, a2, a3, a4, a5, a6, a7, a8, a9, a10, a11, a12⟩, ⟨b1, b2, b3, b4, b5, b6, b7⟩, ⟨c1, c2, c3, c4, c5, c6, c7, c8, c9, c10, c11⟩, c12⟩ := ho
  obtain ⟨G, _, g1, g2, g3, g4, g5⟩ := ground_of_open (w := w) (XP := fun _ _ => True) (fun _ _ => trivial) (by decide +kernel) hs
  simp only [obsK, Prod.mk.injEq] at hk
  obtain ⟨hk, hkept⟩ := hk
  obtain ⟨hk, hlk⟩ := Bool.and_eq_true_iff.mp hk
  obtain ⟨hk, hgd⟩ := Bool.and_eq_true_iff.mp hk
  obtain ⟨hst, hnb⟩ := Bool.and_eq_true_iff.mp hk
  exact ⟨p1, p2, s, hx, ⟨h1, h2, h3, G.T, g2, g4, statics_of_ok hst, (fun x v e => names_of_bound hnb x v ((Pin.globalOf_eq g1 x).trans e)),
    (fun x hx => (Pin.globalOf_eq g1 x).symm.trans (laid_of_kept hlk x hx)), hkept,
    fnAt_of a1 b1, fnAt_of a2 b2, fnAt_of a3 b3, fnAt_of a4 b4, fnAt_of a5 b5, fnAt_of a6 b6, fnAt_of a7 b7, a8, a9, a10, a11, a12,
    c1, c2, c3, c4, c5, c6, c7, c8, c9, c10, c11, c12⟩⟩

theorem wp_execs_append {M : Model} {Γ : Ctx} {env : Env} {Q : Flow → Pos → Shared → Prop} {E : Value → Pos → Shared → Prop} : ∀ (l r : List Stmt) (p : Pos) (s : Shared),
    wp M Γ (execs l env) (fun f p' s' => match f with | .next => wp M Γ (execs r env) Q E p' s' | f => Q f p' s') E p s → wp M Γ (execs (l ++ r) env) Q E p s
  | [], r, p, s, h => h
  | st :: l, r, p, s, h => by
    show wp M Γ (execs (st :: (l ++ r)) env) Q E p s
    rw [execs_cons, Sem.wp_bind'] at h ⊢
    refine Sem.wp_mono M Γ _ (fun f p' s' h' => ?_) (fun _ _ _ h' => h') _ _ h
    cases f with
    | next => exact wp_execs_append l r p' s' h'
    | _ => exact h'
theorem mt_eq (w : World) : MT w = model P w := by unfold MT model; rw [table_eq_tree]
theorem behind_all : behindTheImports P = P.main.body := by kernel_rfl!
theorem block_none : blockStart P.main.body (envB (.ref 13) 14) = (pure () : Sem Unit) := by kernel_rfl!
theorem first_rest : P.main.body = first 11 ++ P.main.body.drop 11 := (List.take_append_drop 11 _).symm
noncomputable def AB : Around := (callerA.mark none).under (.body P.main.body (envB (.ref 13) 14))

/-- the top's run, once the statements from the table on are told -/
theorem top_wp {w : World} {os : OsState} {R : Result → Shared → Prop}
    (h : ∀ s, MidF w os s → wpC (model P w) AB (execs (P.main.body.drop 11) (envB (.ref 13) 14)) (fun f s' => f = .next ∧ R (.ok (.ret .none)) s') (fun _ _ => False) s) :
    wp (model P w) Γ0 (topStub P).cur (Sem.finPost (model P w) Γ0 R) (fun e _ s' => R (.error e) s') default (s0 w os) := by
  obtain ⟨p1, p2, s, hm, F⟩ := mid_facts w os
  unfold mid at hm
  cases he : ev (MT w) 100 (Value × Addr) Γ0 preT default (s0 w os) with
  | none => rw [he] at hm; cases hm
  | some x =>
    obtain ⟨r, q1, s1⟩ := x
    rw [he] at hm
    cases r with
    | error e => cases hm
    | ok cf =>
      obtain ⟨code, frame⟩ := cf
      dsimp only at hm
      cases he2 : ev (MT w) 2000 Flow (ΓB code frame q1) (execs (first 11) (envB code frame)) q1 s1 with
      | none => rw [he2] at hm; cases hm
      | some y =>
        obtain ⟨r2, q2, s2⟩ := y
        rw [he2] at hm
        cases r2 with
        | error e => cases hm
        | ok f =>
          cases f with
          | next =>
            cases hm
            rw [mt_eq] at he he2
            have key := ev_wp (Q := fun cf p s => wp (model P w) Γ0 (run (.body (behindTheImports P) (envB cf.1 cf.2)) >>= fun _ => ret .none) (Sem.finPost (model P w) Γ0 R) (fun e _ s' => R (.error e) s') p s) (E := fun e _ s' => R (.error e) s') he ?_
            · unfold preT at key
              simp only [Sem.wp_bind', Sem.wp_pure'] at key
              show wp (model P w) Γ0 (moduleCode P.main >>= fun code => newBodyFrame code mainNs mainNs >>= fun frame => run (.body (behindTheImports P) (envB code frame)) >>= fun _ => ret .none) _ _ _ _
              simp only [Sem.wp_bind']
              exact key
            · show wp (model P w) Γ0 (run (.body (behindTheImports P) (envB (.ref 13) 14)) >>= fun _ => ret .none) _ _ p1 s1
              rw [Sem.wp_bind', Sem.wp_run, wpCode_iff_wp, behind_all]
              show wp (model P w) (ΓB (.ref 13) 14 p1) (blockStart P.main.body (envB (.ref 13) 14) >>= fun _ => ((execs P.main.body (envB (.ref 13) 14)).onRaise (leaving (envB (.ref 13) 14))) >>= fun f => pure (Fin.done f)) _ _ p1 s1
              rw [block_none, Sem.wp_bind', Sem.wp_pure', Sem.wp_bind', Sem.wp_onRaise]
              rw [show P.main.body = first 11 ++ P.main.body.drop 11 from first_rest]
              refine wp_execs_append _ _ _ _ (ev_wp he2 ?_)
              rw [← first_rest]
              have hin : (ΓB (.ref 13) 14 p1).In AB := (caller_in.enter (.body P.main.body (envB (.ref 13) 14)) none p1 (by intro x; cases x)).in
              have hcl : Clean (ΓB (.ref 13) 14 p1) := ⟨rfl, fun x hx => by
                have : x = (Code.builtin "claim.caller" {}, p1) := by simpa [ΓB, Ctx.enter, Γ0] using hx
                subst this; show dec (Code.builtin "claim.caller" {}) = false; decide +kernel⟩
              refine Sem.wp_mono _ _ _ (fun f p' s' hf => ?_) (fun _ _ _ x => x.elim) _ _ (h s F _ p2 hin hcl)
              obtain ⟨rfl, hR⟩ := hf
              rw [Sem.wp_pure']
              exact hR
          | _ => cases hm
/- RSH6 -/
/-- all objects but the text's names and its code's table stay -/
noncomputable def But (h h' : Heap) : Prop := ∀ b o, b ≠ 12 → b ≠ mainGlobals → h.get? b = some o → h'.get? b = some o
theorem But.of_stays {h h' : Heap} (k : h.StaysIn h') : But h h' := fun b o _ _ e => k b o e
theorem But.trans {h h' h'' : Heap} (a : But h h') (b : But h' h'') : But h h'' := fun x o n1 n2 e => b x o n1 n2 (a x o n1 n2 e)
theorem But.of_same {h h' : Heap} (k : Heap.SameBut mainGlobals h h') : But h h' := fun b _ _ n e => (k.2 b n).trans e
theorem But.refl (h : Heap) : But h h := fun _ _ _ _ e => e
theorem Main.stays {h h' : Heap} {mg : Str → Option Value} {c Pl : Addr} {ps : Array Value} (x : h.Main mg c Pl ps) (k : h.StaysIn h') : h'.Main mg c Pl ps :=
  ⟨x.g.keeps k, x.code.keeps k, x.low, let ⟨bm, o, a, b, d, e, f, r⟩ := x.bmod; ⟨bm, o, a, b, d, e, k _ _ f, r⟩⟩
theorem Main.set {h h' : Heap} {mg mg' : Str → Option Value} {c Pl : Addr} {ps : Array Value} (x : h.Main mg c Pl ps) (hn : h'.Ns mainGlobals mg') (hs : Heap.SameBut mainGlobals h h') (hb : mg' "__builtins__" = mg "__builtins__") : h'.Main mg' c Pl ps :=
  ⟨hn, x.code.sameBut hs (Nat.ne_of_gt x.low.1) (Nat.ne_of_gt x.low.2), x.low, let ⟨bm, o, a, b, d, e, f, r⟩ := x.bmod; ⟨bm, o, hb.trans a, b, d, e, (hs.2 _ d).trans f, r⟩⟩
theorem load_main (c F : Addr) (x : Str) : loadName (mainEnv P c F) x = loadGlobal (mainEnv P c F) x := by kernel_rfl!
theorem nmM {M : Model} {A : Around} {E : Value → Shared → Prop} {s : Shared} {mg : Str → Option Value} {c F : Addr} {x : Str} {pos : Pos} {v : Value} {Q : Value → Shared → Prop} (hg : s.heap.Ns mainGlobals mg) (hd : (x == ("__debug__" : Str)) = false) (hv : mg x = some v) (h : Q v s) :
    wpAny M A (eval (.Name x pos) (mainEnv P c F)) Q E s :=
  wpAny_Name (by rw [load_main]; exact Calls.loadGlobal_global (env := mainEnv P c F) hg hv h) hd
theorem stM {M : Model} {A : Around} {E : Value → Shared → Prop} {s : Shared} {mg : Str → Option Value} {c F Pl : Addr} {x : Str} {ps : Array Value} {v : Value} {Q : Unit → Shared → Prop} (hm : s.heap.Main mg c Pl ps) (hl : (P.main.scope.names.lookup x == some NameKind.local) = true) (hb : (("__builtins__" : Str) == x) = false)
    (h : ∀ h', h'.Main (fun y => if y = x then some v else mg y) c Pl ps → But s.heap h' → Q () { s with heap := h', toks := s.toks + 1 }) : wpAny M A (storeName (mainEnv P c F) x v) Q E s :=
  wpAny_storeName_local (env := mainEnv P c F) (eq_of_beq hl) hm.g (fun h' hn hs => h h' (Main.set hm hn hs (if_neg (ne_of_beq_false hb))) (.of_same hs)) (by kernel_rfl!)

theorem MidF.main {w : World} {os : OsState} {s : Shared} (X : MidF w os s) : s.heap.Main (s.heap.nsMap mainGlobals) 13 12 psM := by
  obtain ⟨o12, e12, d12⟩ := Option.map_eq_some_iff.mp X.d12
  obtain ⟨o13, e13, d13⟩ := Option.map_eq_some_iff.mp X.d13
  obtain ⟨bm, ob, b1, b2, b3, b4, b5, b6⟩ := X.top.bmain
  have : bm = 4 := by have := X.mBu.symm.trans b1; cases this; rfl
  subst this
  exact ⟨X.top.g, ⟨o13, codeM, Str.ofString "/claim/cut.py", 186, 0, 0, false, 181, 0, o12, e13, d13, rfl, rfl, rfl, rfl, rfl, e12, d12, trivial, by decide⟩, by decide, ⟨4, ob, b1, b2, by decide, by decide, b3, b4, b5, b6⟩⟩
theorem MidF.none {w : World} {os : OsState} {s : Shared} (X : MidF w os s) {x : Str} (h : (startupNames.contains x || (looseW QC looseN).contains x || ((recsOf QC).map (·.name)).contains x || ((litsOf QC).map (·.1)).contains x || ((clssOf QC (looseW QC looseN)).map (·.name)).contains x) = false) : s.heap.nsMap mainGlobals x = none := by
  simp only [Bool.or_eq_false_iff] at h
  obtain ⟨⟨⟨⟨h1, h2⟩, h3⟩, h4⟩, h5⟩ := h
  have key : ∀ {l : List Str}, l.contains x = false → x ∉ l := fun e hm => by rw [List.contains_iff_mem.mpr hm] at e; cases e
  exact X.top.free x (key h1) (key h2) (key h3) (key h4) (key h5)
theorem MidF.glo {w : World} {os : OsState} {s : Shared} (X : MidF w os s) : Glo (s.heap.nsMap mainGlobals) s.heap := ⟨X.top.g, ⟨_, X.top.b, X.top.builtins⟩, X.top.nolimit⟩
theorem data_get {h : Heap} {a : Addr} {d : Data} (e : dataAt h a = some d) : ∃ o, h.get? a = some o ∧ o.data = d := Option.map_eq_some_iff.mp e
theorem envB_main : envB (.ref 13) 14 = mainEnv P 13 14 := rfl
/-- a store of one of the text's names: the function put behind others -/
noncomputable def put (x : Str) (v : Value) (mg : Str → Option Value) : Str → Option Value := fun y => if y = x then some v else mg y

/-- the statement that lays the tables -/
theorem stmt11 {w : World} {os : OsState} {s : Shared} (X : MidF w os s) {Q : Flow → Shared → Prop}
    (h : ∀ h' tk aL aE t, h'.Main (put "field_charac" (.int 255 t) (put "gf_exp" (.ref aE) (put "gf_log" (.ref aL) (s.heap.nsMap mainGlobals)))) 13 12 psM → But s.heap h' → h'.get? aL = some (baOf logTab) → h'.get? aE = some (baOf expL) → Q .next { s with heap := h', toks := tk }) :
    wpC (model P w) AB (exec (stmtAt 11) (envB (.ref 13) 14)) Q (fun _ _ => False) s := by
  rw [envB_main]
  have hm := X.main
  obtain ⟨o28, e28, d28⟩ := data_get X.d28
  obtain ⟨o50, e50, d50⟩ := data_get X.d50
  obtain ⟨o4, pm4, cd4, e4, d4, _⟩ := X.f4
  have hh : AB.handled = none := rfl
  refine assignTupleC (callNameC (nmM hm.g (by kernel_rfl!) X.m4 (callWithC_fn0 e4 d4 (wpC_call (init_spec (by decide +kernel) (by kernel_rfl!) hh X.f4 e28 d28 X.f7 e50 d50 X.glo X.mX X.mB X.m7 (X.none (by decide +kernel)) fun h₁ tk₁ r aL aE t n k₁ er eL eE => ?_)))))
  have hm₁ := Main.stays hm k₁
  refine assign_TupleL (items := #[.ref aL, .ref aE, .int 255 t]) hh ⟨_, er, rfl, n, rfl⟩ (by rfl) (by rfl) fun h₂ hx₂ => ?_
  have k₂ : h₁.StaysIn h₂ := fun b o e => hx₂ b o (Nat.ne_of_lt (Heap.lt_size e)) e
  have hm₂ := Main.stays hm₁ k₂
  have nG : ∀ {g : Heap} {mg : Str → Option Value} {a : Addr} {l : List UInt8}, g.Ns mainGlobals mg → g.get? a = some (baOf l) → a ≠ mainGlobals := fun hn e q => by
    obtain ⟨o, es, ep, ho, hd, _⟩ := hn
    rw [q, ho] at e; cases e; cases hd
  have n12 : ∀ {g : Heap} {mg : Str → Option Value} {a : Addr} {l : List UInt8}, g.Main mg 13 12 psM → g.get? a = some (baOf l) → a ≠ 12 := fun hn e q => by
    obtain ⟨o, vs, file, tf, flags, tg, inF, text, tt, op, _, _, _, _, _, _, _, ho, hd, _⟩ := hn.code
    rw [q, ho] at e; cases e; cases hd
  refine wpAny_assignInOrder_more (wpAny_assign_Name (stM (v := .ref aL) hm₂ (by kernel_rfl!) (by kernel_rfl!) fun h₃ hm₃ b₃ => ?_))
  refine wpAny_assignInOrder_more (wpAny_assign_Name (stM (v := .ref aE) hm₃ (by kernel_rfl!) (by kernel_rfl!) fun h₄ hm₄ b₄ => ?_))
  refine wpAny_assignInOrder_more (wpAny_assign_Name (stM (v := .int 255 t) hm₄ (by kernel_rfl!) (by kernel_rfl!) fun h₅ hm₅ b₅ => ?_))
  refine wpAny_assignInOrder_none ?_
  have b : But h₂ h₅ := (b₃.trans b₄).trans b₅
  refine h h₅ _ aL aE t hm₅ ((But.of_stays fun x o e => k₂ _ _ (k₁ _ _ e)).trans b) ?_ ?_
  · exact b _ _ (n12 hm₂ (k₂ _ _ eL)) (nG hm₂.g (k₂ _ _ eL)) (k₂ _ _ eL)
  · exact b _ _ (n12 hm₂ (k₂ _ _ eE)) (nG hm₂.g (k₂ _ _ eE)) (k₂ _ _ eE)
/- RSH7 -/

/-- a def laid high on the heap -/
noncomputable def FnHi (h : Heap) (i : Nat) (a : Addr) : Prop := ∃ o pm c, 78 ≤ a ∧ 78 ≤ c ∧ h.get? a = some o ∧ o.data = .func (fdAt i .none pm (.ref c)) ∧ h.CodeRec (.ref c) (nameAt i)
theorem FnHi.but {h h' : Heap} {i : Nat} {a : Addr} (x : FnHi h i a) (k : But h h') : FnHi h' i a :=
  let ⟨o, pm, c, h1, h2, e, d, r⟩ := x
  ⟨o, pm, c, h1, h2, k _ _ (Nat.ne_of_gt (Nat.lt_of_lt_of_le (by decide) h1)) (Nat.ne_of_gt (Nat.lt_of_lt_of_le (by decide) h1)) e, d, r.at fun o e => k _ _ (Nat.ne_of_gt (Nat.lt_of_lt_of_le (by decide) h2)) (Nat.ne_of_gt (Nat.lt_of_lt_of_le (by decide) h2)) e⟩
theorem FnHi.at {h : Heap} {i : Nat} {a : Addr} (x : FnHi h i a) : FnAt h i a .none := let ⟨o, pm, c, _, _, e, d, r⟩ := x; ⟨o, pm, .ref c, e, d, r⟩
theorem defStep {w : World} {s : Shared} {mg : Str → Option Value} {ps : Array Value} {Q : Flow → Shared → Prop} (i : Nat) (pos : Pos) (hs : stmtAt i = .FunctionDef (nameAt i) (paramsAt i) (bodyAt i) [] none [] (scopeAt i) none (nameAt i) pos)
    (hexec : PlainDefTree (nameAt i) (paramsAt i) (bodyAt i) (scopeAt i) pos) (hm : s.heap.Main mg 13 12 ps) (hz : 78 ≤ s.heap.objs.size)
    (hfree : (scopeAt i).names.all (fun x => x.2 != .free) = true) (hdoc : docOf (bodyAt i) = none) (hloc : (P.main.scope.names.lookup (nameAt i) == some .local) = true)
    (hq : qualnameIn { scope := P.main.scope, locals := mainGlobals, globals := mainGlobals, cells := [] } (nameAt i) (nameAt i) = nameAt i) (hnb : (nameAt i == ("__builtins__" : Str)) = false) (hnf : codeAmong pos ps.toList = none)
    (h : ∀ a c' h' tk, 78 ≤ h'.objs.size → h'.Main (put (nameAt i) (.ref a) mg) 13 12 (ps ++ #[rawInt pos.line, rawInt pos.col, .ref c']) → FnHi h' i a → But s.heap h' → Q .next { s with heap := h', toks := tk }) :
    wpAny (model P w) AB (exec (stmtAt i) (mainEnv P 13 14)) Q (fun _ _ => False) s := by
  rw [hs]
  refine wpAny_plainDef hexec (fun x hx e => ?_) hdoc (eq_of_beq hloc) hq hm (fun a c' h' tk ha hm' hfo hcd keep => ?_) (ne_of_beq_false hnb) (by kernel_rfl!) hnf
  · have := List.all_eq_true.mp hfree x hx
    rw [e] at this; cases this
  · exact h a c' h' tk (Nat.le_trans (Nat.le_trans hz ha) (Nat.le_of_lt (Heap.lt_size hfo))) hm' ⟨_, _, c', Nat.le_trans hz ha, Nat.le_trans hz hcd.1, hfo, rfl, hcd.2⟩ keep

/-- what stands behind the whole text -/
structure FinF (w : World) (os : OsState) (mg : Str → Option Value) (s : Shared) : Prop where
  hos : s.os = os
  hgens : s.gens = #[]
  mid : ∃ s₁ aL aE t a13 a14 a15 a16 a17 nm ps, MidF w os s₁ ∧ But s₁.heap s.heap ∧ s.heap.Main mg 13 12 ps ∧
    mg = put "law" (.ref a17) (put "_law_answer" (.ref a16) (put "_law_taps" (.ref a15) (put "_law_product" (.ref a14) (put "_law_field" (.ref a13) (put "__name__" nm (put "field_charac" (.int 255 t) (put "gf_exp" (.ref aE) (put "gf_log" (.ref aL) (s₁.heap.nsMap mainGlobals))))))))) ∧
    s.heap.get? aL = some (baOf logTab) ∧ s.heap.get? aE = some (baOf expL) ∧ FnHi s.heap 13 a13 ∧ FnHi s.heap 14 a14 ∧ FnHi s.heap 15 a15 ∧ FnHi s.heap 16 a16 ∧ FnHi s.heap 17 a17

theorem ba_but {h h' : Heap} {mg : Str → Option Value} {ps : Array Value} {a : Addr} {l : List UInt8} (hm : h.Main mg 13 12 ps) (k : But h h') (e : h.get? a = some (baOf l)) : h'.get? a = some (baOf l) := by
  refine k _ _ (fun q => ?_) (fun q => ?_) e
  · obtain ⟨o, vs, file, tf, flags, tg, inF, text, tt, op, _, _, _, _, _, _, _, ho, hd, _⟩ := hm.code
    rw [q, ho] at e; cases e; cases hd
  · obtain ⟨o, es, ep, ho, hd, _⟩ := hm.g
    rw [q, ho] at e; cases e; cases hd
theorem rest_eq : P.main.body.drop 11 = [stmtAt 11, stmtAt 12, stmtAt 13, stmtAt 14, stmtAt 15, stmtAt 16, stmtAt 17] := by kernel_rfl!
theorem rest_wp {w : World} {os : OsState} {s : Shared} (X : MidF w os s) {Q : Flow → Shared → Prop} (h : ∀ mg s', FinF w os mg s' → Q .next s') :
    wpC (model P w) AB (execs (P.main.body.drop 11) (envB (.ref 13) 14)) Q (fun _ _ => False) s := by
  rw [rest_eq]
  refine execsC_cons (stmt11 X fun h₁ tk₁ aL aE t hm₁ b₁ eL eE => ?_)
  rw [envB_main]
  refine execsA_cons ?_
  show wpAny _ _ (exec (.Assign [.Name (Str.ofString "__name__") _] _ _) _) _ _ _
  refine wpAny_Assign_Name ?_
  walk_at "go"
  refine stM hm₁ (by kernel_rfl!) (by kernel_rfl!) fun h₂ hm₂ b₂ => ?_
  dsimp only at hm₂ b₂ ⊢
  have hz₁ : 78 ≤ h₂.objs.size := by
    obtain ⟨o, pm, cd, e, _⟩ := X.f10
    have := Heap.lt_size (b₂ _ _ (by decide) (by decide) (b₁ _ _ (by decide) (by decide) e))
    exact this
  have eL₂ := ba_but hm₁ b₂ eL
  have eE₂ := ba_but hm₁ b₂ eE
  refine execsA_cons (defStep 13 _ (by rfl) (fun env => by rfl) hm₂ hz₁ (by decide +kernel) (by decide +kernel) (by kernel_rfl!) (by decide +kernel) (by kernel_rfl!) (by kernel_rfl!) fun a13 c13 h₃ tk₃ hz₃ hm₃ f13 b₃ => ?_)
  refine execsA_cons (defStep 14 _ (by rfl) (fun env => by rfl) hm₃ hz₃ (by decide +kernel) (by decide +kernel) (by kernel_rfl!) (by decide +kernel) (by kernel_rfl!) (by kernel_rfl!) fun a14 c14 h₄ tk₄ hz₄ hm₄ f14 b₄ => ?_)
  refine execsA_cons (defStep 15 _ (by rfl) (fun env => by rfl) hm₄ hz₄ (by decide +kernel) (by decide +kernel) (by kernel_rfl!) (by decide +kernel) (by kernel_rfl!) (by kernel_rfl!) fun a15 c15 h₅ tk₅ hz₅ hm₅ f15 b₅ => ?_)
  refine execsA_cons (defStep 16 _ (by rfl) (fun env => by rfl) hm₅ hz₅ (by decide +kernel) (by decide +kernel) (by kernel_rfl!) (by decide +kernel) (by kernel_rfl!) (by kernel_rfl!) fun a16 c16 h₆ tk₆ hz₆ hm₆ f16 b₆ => ?_)
  refine execsA_cons (defStep 17 _ (by rfl) (fun env => by rfl) hm₆ hz₆ (by decide +kernel) (by decide +kernel) (by kernel_rfl!) (by decide +kernel) (by kernel_rfl!) (by kernel_rfl!) fun a17 c17 h₇ tk₇ hz₇ hm₇ f17 b₇ => ?_)
  refine execsC_nil (h _ _ ⟨X.os, X.gens, s, aL, aE, t, a13, a14, a15, a16, a17, _, _, X, ((((((b₁.trans b₂).trans b₃).trans b₄).trans b₅).trans b₆).trans b₇), hm₇, rfl, ?_, ?_, (((f13.but b₄).but b₅).but b₆).but b₇, ((f14.but b₅).but b₆).but b₇, (f15.but b₆).but b₇, f16.but b₇, f17⟩)
  · exact ba_but hm₂ ((((b₃.trans b₄).trans b₅).trans b₆).trans b₇) eL₂
  · exact ba_but hm₂ ((((b₃.trans b₄).trans b₅).trans b₆).trans b₇) eE₂
/- RSH8 -/
theorem runNI_goes {den : Code → Sem Fin} {p : Program} {w : World} : ∀ (n : Nat) {s s' : Shared} {t t' : Thread}, runNI den p w n s t = .running s' t' → runNK den p w n s t = .running s' t'
  | 0, _, _, _, _, h => h
  | n + 1, s, s', t, t', h => by
    have h : (match stepI den p w s t with | .go s₁ t₁ => runNI den p w n s₁ t₁ | .halt o s₁ => .halted o s₁) = .running s' t' := h
    show (match stepK den p w s t with | .go s₁ t₁ => runNK den p w n s₁ t₁ | .halt o s₁ => .halted o s₁) = _
    cases hl : t.loud with
    | true => rw [stepI_loud den p w hl] at h; cases h
    | false =>
      rw [stepI_quiet den p w hl] at h
      cases hs : stepK den p w s t with
      | halt o s₁ => rw [hs] at h; cases h
      | go s₁ t₁ => rw [hs] at h; exact runNI_goes n h
theorem runNI_more {den : Code → Sem Fin} {p : Program} {w : World} : ∀ (n : Nat) {s s' : Shared} {t t' : Thread} {o : Outcome}, runNI den p w n s t = .running s' t' → stepI den p w s' t' = .halt o s' → runNI den p w (n + 1) s t = .halted o s'
  | 0, s, s', t, t', o, h, hs => by
    cases h
    show (match stepI den p w s t with | .go s₁ t₁ => runNI den p w 0 s₁ t₁ | .halt o s₁ => .halted o s₁) = _
    rw [hs]
  | n + 1, s, s', t, t', o, h, hs => by
    have h : (match stepI den p w s t with | .go s₁ t₁ => runNI den p w n s₁ t₁ | .halt o s₁ => .halted o s₁) = .running s' t' := h
    show (match stepI den p w s t with | .go s₁ t₁ => runNI den p w (n + 1) s₁ t₁ | .halt o s₁ => .halted o s₁) = _
    cases hq : stepI den p w s t with
    | halt o s₁ => rw [hq] at h; cases h
    | go s₁ t₁ => rw [hq] at h; exact runNI_more n h hs
theorem ran_of_wp {w : World} {s : Shared} {t : Sem Fin} {R : Result → Shared → Prop} (hz : s.asleep)
    (h : wp (model P w) Γ0 t (Sem.finPost (model P w) Γ0 fun r s' => (∃ f, r = .ok f) ∧ s'.gens = #[] ∧ R r s') (fun e _ s' => (∃ f, Except.error e = (.ok f : Result)) ∧ s'.gens = #[] ∧ R (.error e) s') default s) :
    ∃ n t₁ s₁ r, schedN (denote table) P w n (.single s ⟨t, .builtin "claim.caller" {}, default, []⟩) = .running (.single s₁ t₁) ∧ through t₁ = true ∧ s₁.gens = #[] ∧ R r s₁ ∧ s₁.heap.life = s.heap.life := by
  obtain ⟨n, r, s₁, c', p', hn, ⟨f, rfl⟩, hg, hR⟩ := wp_runN (M := model P w) (base := []) (c := .builtin "claim.caller" {}) (p := default) (s := s) h
  have hlast : stepI (denote table) P w s₁ ⟨.pure (.done f), c', p', []⟩ = .halt (.done f) s₁ := by
    rw [stepI_quiet (denote table) P w rfl]
    show finish (.done f) s₁ = .halt (.done f) s₁
    unfold finish
    rw [if_neg (by rw [hg]; simp [leftWithCleanup])]
  obtain ⟨s₂, hr, hf, hc⟩ := runNI_real _ _ _ (runNI_more n hn hlast) rfl
  have hne : ∀ k s₂, runN (denote table) P w k s ⟨t, .builtin "claim.caller" {}, default, []⟩ ≠ .halted (.unsupported "lifetime:generator-with-cleanup-left-suspended") s₂ := by
    intro k s₃ hk
    have a := runN_mono (denote table) P w (n + 1) k s _ _ _ hr
    have b := runN_mono (denote table) P w k (n + 1) s _ _ s₃ hk
    rw [Nat.add_comm, b] at a
    cases a
  have e := runNK_same (denote table) P w n (s₁ := s) (s₂ := s) (t₁ := ⟨t, .builtin "claim.caller" {}, default, []⟩) (t₂ := ⟨t, .builtin "claim.caller" {}, default, []⟩) rfl rfl
  have hk : runNK (denote table) P w n s ⟨t, .builtin "claim.caller" {}, default, []⟩ = .running s₁ ⟨.pure (.done f), c', p', []⟩ := runNI_goes n hn
  rw [hk] at e
  cases hrn : runN (denote table) P w n s ⟨t, .builtin "claim.caller" {}, default, []⟩ with
  | halted o s₃ => rw [hrn] at e; cases e
  | running s₃ t₃ =>
    rw [hrn] at e
    injection e with e1 e2
    obtain rfl : s₃ = s₁ := Shared.eq_of_forget_eq e1.symm hg
    refine ⟨n, t₃, s₃, .ok f, ?_, ?_, hg, hR, runN_life_running hrn⟩
    · rw [schedN_eq_runN (denote table) P w s _ hz ⟨hc, hne⟩ n, hrn]; rfl
    · obtain ⟨cur, code, pos, stack⟩ := t₃
      injection e2 with q1 q2 q3 q4
      cases q1
      cases stack with
      | nil => rfl
      | cons a b => cases q4
/- RSH9 -/
theorem boot_size (w : World) : (boot_heap w.params).objs.size = 11 := by kernel_rfl!
theorem boot_ann (w : World) : globalOf (boot_heap w.params) "__annotations__" = some (.ref 6) := by kernel_rfl!
theorem s0_asleep (w : World) (os : OsState) : (s0 w os).asleep := ⟨rfl, rfl⟩
theorem put_ne {x y : Str} {v : Value} {mg : Str → Option Value} (h : (y == x) = false) : put x v mg y = mg y := if_neg (ne_of_beq_false h)
theorem put_eq {x : Str} {v : Value} {mg : Str → Option Value} : put x v mg x = some v := if_pos rfl
theorem put_some {x y : Str} {v u : Value} {mg : Str → Option Value} (h : put x v mg y = some u) : y = x ∨ mg y = some u := by
  unfold put at h
  by_cases e : y = x
  · exact .inl e
  · rw [if_neg e] at h; exact .inr h
theorem bound_in {x y : Str} (h : y = x) (hb : P.boundNames.contains x = true) : y ∈ startupNames ∨ y ∈ P.boundNames := .inr (h ▸ List.contains_iff_mem.mp hb)
theorem get_cst {w : World} {os : OsState} {s : Shared} (X : MidF w os s) {h : Heap} (k : But s.heap h) : h.get? cStatics = s.heap.get? cStatics := by
  obtain ⟨mc, ⟨o, _, _, e, _⟩, _⟩ := X.top.nolimit
  rw [e]; exact k _ _ (by decide) (by decide) e
theorem get_blt {w : World} {os : OsState} {s : Shared} (X : MidF w os s) {h : Heap} (k : But s.heap h) : h.get? builtinsNs = s.heap.get? builtinsNs := by
  obtain ⟨o, _, _, e, _⟩ := X.top.b
  rw [e]; exact k _ _ (by decide) (by decide) e
theorem kept_of {w : World} {os : OsState} {s : Shared} (X : MidF w os s) {h : Heap} (k : But s.heap h) : ∀ b o, (boot_heap w.params).get? b = some o → ¬ theTopsOwn (boot_heap w.params) b → h.get? b = some o := by
  intro b o e hn
  have hlt : b < 11 := by rw [← boot_size w]; exact Heap.lt_size e
  have key : ∀ {x y : Heap}, ([0, 1, 4, 5, 7, 8, 9, 10] : List Nat).map x.get? = ([0, 1, 4, 5, 7, 8, 9, 10] : List Nat).map y.get? → ∀ b : Nat, b ∈ ([0, 1, 4, 5, 7, 8, 9, 10] : List Nat) → x.get? b = y.get? b := fun {x y} e b hb => by
    have := List.map_inj_left.mp e b hb
    exact this
  have hb : b ∈ ([0, 1, 4, 5, 7, 8, 9, 10] : List Nat) := by
    have h2 : b ≠ 2 := fun q => hn (.inr (.inl q))
    have h3 : b ≠ 3 := fun q => hn (.inl q)
    have h6 : b ≠ 6 := fun q => hn (.inr (.inr (q ▸ boot_ann w)))
    have : ∀ n : Nat, n < 11 → n ≠ 2 → n ≠ 3 → n ≠ 6 → n ∈ ([0, 1, 4, 5, 7, 8, 9, 10] : List Nat) := fun n h1 h2 h3 h6 => by
      simp only [List.mem_cons, List.not_mem_nil, or_false]; lia
    exact this b hlt h2 h3 h6
  have hne : ∀ n : Nat, n ∈ ([0, 1, 4, 5, 7, 8, 9, 10] : List Nat) → n ≠ 12 ∧ n ≠ 3 := by decide
  exact k b o (hne b hb).1 (hne b hb).2 ((key X.keep b hb).trans e)
theorem top_ran (w : World) (os : OsState) : ∃ s₁ mg, TopRan P w (s0 w os) s₁ ∧ FinF w os mg s₁ ∧ s₁.asleep := by
  have hw := top_wp (w := w) (os := os) (R := fun r s' => (∃ f, r = .ok f) ∧ s'.gens = #[] ∧ ∃ mg, FinF w os mg s') fun s X => rest_wp X fun mg s' F => ⟨rfl, ⟨_, rfl⟩, F.hgens, mg, F⟩
  obtain ⟨n, t₁, s₁, r, hs, ht, hg, ⟨mg, F⟩, hl⟩ := ran_of_wp (R := fun _ s' => ∃ mg, FinF w os mg s') (s0_asleep w os) hw
  refine ⟨s₁, mg, ?_, F, Shared.asleep_of_life hl (s0_asleep w os)⟩
  obtain ⟨sm, aL, aE, t, a13, a14, a15, a16, a17, nm, ps, X, b, hm, hmg, _⟩ := F.mid
  have hst : ∀ key, staticOf s₁.heap key = staticOf sm.heap key := fun key => by unfold staticOf; rw [get_cst X b]
  have hgl : ∀ x, globalOf s₁.heap x = mg x := fun x => Claim2Try.globalOf_of_ns hm.g x
  refine ⟨⟨n, t₁, hs, ht⟩, hl, Shared.rest_eq F.hos, kept_of X b, ?_, ?_, ?_, ?_, ?_, ?_, ?_, ?_⟩
  · have := X.acc
    simpa only [staticsAccountedI, hst] using this
  · intro key
    rw [hst]
    exact X.stat key
  · obtain ⟨o, es, ep, e, d, k, _⟩ := hm.g
    exact ⟨o, es, ep, e, d, k⟩
  · have := X.blt
    have hb : ∀ x, builtinOf s₁.heap x = builtinOf sm.heap x := fun x => by unfold builtinOf; rw [get_blt X b]
    simpa only [builtinsAsBooted, hb] using this
  · obtain ⟨bm, o, h1, h2, h3, h4, h5, h6, h7, h8⟩ := hm.bmod
    exact ⟨bm, o, (hgl _).trans h1, h5, h6, h7⟩
  · intro g hgm; rw [hg] at hgm; simp at hgm
  · intro x v hx
    rw [hgl, hmg] at hx
    rcases put_some hx with e | hx
    · exact bound_in e (by decide +kernel)
    rcases put_some hx with e | hx
    · exact bound_in e (by decide +kernel)
    rcases put_some hx with e | hx
    · exact bound_in e (by decide +kernel)
    rcases put_some hx with e | hx
    · exact bound_in e (by decide +kernel)
    rcases put_some hx with e | hx
    · exact bound_in e (by decide +kernel)
    rcases put_some hx with e | hx
    · exact bound_in e (by decide +kernel)
    rcases put_some hx with e | hx
    · exact bound_in e (by decide +kernel)
    rcases put_some hx with e | hx
    · exact bound_in e (by decide +kernel)
    rcases put_some hx with e | hx
    · exact bound_in e (by decide +kernel)
    exact X.names x v hx
  · intro x hx
    rw [hgl, hmg]
    have hne : laidNames.all (fun x => (["law", "_law_answer", "_law_taps", "_law_product", "_law_field", "__name__", "field_charac", "gf_exp", "gf_log"] : List Str).all fun y => !(x == y)) = true := by decide +kernel
    have := List.all_eq_true.mp hne x hx
    simp only [List.all_cons, List.all_nil, Bool.and_true, Bool.and_eq_true, Bool.not_eq_true'] at this
    obtain ⟨q1, q2, q3, q4, q5, q6, q7, q8, q9⟩ := this
    rw [put_ne q1, put_ne q2, put_ne q3, put_ne q4, put_ne q5, put_ne q6, put_ne q7, put_ne q8, put_ne q9]
    exact X.laid x hx
/- RSC11 -/
section
variable {prog : Program} {w : World} {A : Around} {E : Value → Shared → Prop} {s : Shared} {env : Env}
/-- try with except, its body in the clean logic -/
theorem tryC {body : List Stmt} {h₀ : ExceptHandler} {hs : List ExceptHandler} {pos : Pos} {Q : Flow → Shared → Prop}
    (h : wpC (model prog w) A (execs body env) Q
      (fun e s₁ => wpAny (model prog w) A (noteFrame e env) (fun _ s₂ => wpAny (model prog w) A (setFlight e none) (fun _ s₃ => wpAny (model prog w) A (handleBy e env (h₀ :: hs)) Q E s₃) E s₂) E s₁) s) :
    wpC (model prog w) A (exec (.Try body (h₀ :: hs) [] [] pos) env) Q E s := by
  rw [arm_exec_Try]
  refine wpC_bind (wpC_standAt ?_)
  unfold tryStmt
  simp only [List.isEmpty_nil, if_true, List.isEmpty_cons, Bool.false_and, Bool.false_eq_true, if_false]
  refine wpC_bind (wpC_attempt (wpC_mono h (fun f s₁ h₁ => ?_) fun e s₁ h₁ => ?_))
  · cases f with
    | next => exact execsC_nil h₁
    | _ => exact wpC_pure h₁
  · exact wpC_of (wpAny_bind (wpAny_mono h₁ (fun _ _ h₂ => wpAny_bind h₂) fun _ _ x => x))
/-- an own exception caught by its name -/
theorem caughtB {s' : Shared} {B : Heap} {outer : List Env} {L e t C : Addr} {x : Str} {bmB : List Value} {newId : String} {mg : Str → Option Value} {np pos : Pos} {b₀ : Stmt} {suite : List Stmt} {rest : List ExceptHandler} {Q : Flow → Shared → Prop}
    (hfr : A.frames = some (env :: outer)) (hf : env.frame = some L) (hfl : Heap.FlyingW B (env :: outer) e (.ref C) (.ref t) s'.heap)
    (hgB : B.Ns mainGlobals mg) (O : OwnClsQ x C bmB newId mg B) (hbase : bmB.contains (.type "BaseException") = true)
    (hg : env.globals = mainGlobals) (hl : (env.scope.names.lookup x == some NameKind.globalImplicit) = true) (hk : (env.scope.kind == .function) = true) (hd : (x == ("__debug__" : Str)) = false)
    (k : ∀ h', B.StaysIn h' → s'.heap.UpToSlots h' → wpAny (model prog w) (A.mark (some (.ref e))) (execs (b₀ :: suite) env) Q (fun _ _ => False) { s' with heap := h' }) :
    wpAny (model prog w) A (noteFrame (.ref e) env) (fun _ s₂ => wpAny (model prog w) A (setFlight (.ref e) none) (fun _ s₃ =>
        wpAny (model prog w) A (handleBy (.ref e) env (.ExceptHandler (some (.Name x np)) none (b₀ :: suite) pos :: rest)) Q E s₃) E s₂) E s' := by
  refine wpAny_looks_onW hfr hf hfl fun h₄ hheld₄ hsm₄ => ?_
  refine wpAny_landsW hheld₄ fun h₅ hheld hsm₅' => ?_
  have hsm₅ := hsm₄.trans hsm₅'
  refine handleBy_own (C := C) (x := x) (bmB := bmB) (newId := newId) (mg := mg) hbase ?_
  refine Calls.Name_function_global (eq_of_beq hk) (eq_of_beq hl) (Calls.loadGlobal_global (env := env) (by rw [hg]; exact hgB.keeps hheld.1) O.bound ?_) hd
  refine ⟨rfl, O.keeps hheld.1, hheld.there, ?_⟩
  refine lands_againW hheld fun h₆ hfl₆ hsm₆ => ?_
  exact wpAny_noRaise (k h₆ hfl₆.1 (hsm₅.trans hsm₆))
end
section
variable {h₀ h h' : Heap} {L : Addr} {m : Str → Option Value} {news : List (Addr × Obj)}
theorem hide_get {b : Addr} {o : Obj} (e : h.get? b = some o) (n : b ≠ L) : (h.hide L).get? b = some o := (Heap.hide_ne h n).trans e
/-- behind a call that raised and was caught: the frame and the ledger stand -/
theorem afterB (F : Fr h₀ L h m) (N : Led h₀ L h news) (k : (h.hide L).StaysIn h') (u : h.UpToSlots h') : Fr h₀ L h' m ∧ Led h₀ L h' news := by
  refine ⟨Fr.of_stays F (fun b o e => k _ _ (hide_get (F.keep _ _ e) fun q => ?_)) u, fun p hp => ⟨k _ _ (hide_get (N.n p hp).1 (N.n p hp).2.1), (N.n p hp).2⟩, N.nd⟩
  subst q
  exact absurd (Heap.lt_size e) (Nat.not_lt.mpr F.above)
theorem hide_stays (h : Heap) (L : Addr) : (h.hide L).StaysIn h := fun _ _ e => Heap.of_hide e
theorem belowB {A : Around} {env : Env} (F : Fr h₀ L h m) (hA : A.frames = some [env]) (hf : env.frame = some L) (hk : env.scope.kind ≠ .module) : Below A (h.hide L) [env] h := by
  refine ⟨hA, hide_stays h L, hk, ⟨L, ?_⟩, trivial⟩
  obtain ⟨o, es, ep, e, d, _⟩ := F.ns
  exact ⟨o, hf, Heap.hide_self h L, e, fun vs q => by rw [d] at q; cases q⟩
end
/- RSF14 -/

theorem answer_spec {w : World} {A : Around} {R : Result → Shared → Prop} {s : Shared} {mg : Str → Option Value} {a a10 d aS C : Addr} {vs : List Value} {c : Nat} {n sh : Nat} {S : Nat → UInt8} {i : Int} {ti td : Tok} {od : Obj} {nd : Nat} {B : Heap} {outer : List Env}
    (hroom : A.depth + 3 < recursionLimit) (hg : A.guards = some []) (hh : A.handled = none) (hf : FnAt s.heap 16 a .none) (m10 : mg "rs_find_error_locator" = some (.ref a10)) (f10 : FnAt s.heap 10 a10 (.ref d)) (hd : s.heap.get? d = some od) (hd2 : od.data = .seq #[.none, .int 0 td] nd)
    (G : Gs mg s.heap) (O : Own C mg s.heap) (K : Below A B outer s.heap) (hgB : B.Ns mainGlobals mg) (OB : Own C mg B)
    (hS : s.heap.get? aS = some (lsO vs c)) (hlen : vs.length = n + sh) (hvs : ∀ j, j < n → ∃ t, vs[j + sh]? = some (.int (iu (S j)) t)) (hi : i = (n : Int)) (hn : n ≤ 100) (hsh : sh ≤ 100)
    (h : 2 * ((bmOut S n).length - 1) ≤ n → ∀ h' tk r ws cw, s.heap.StaysIn h' → s.heap.get? r = none → h'.get? r = some (lsO ws cw) → IntsAre ws ((bmOut S n).map iu) → R (.ok (.ret (.ref r))) { s with heap := h', toks := tk })
    (hE : n < 2 * ((bmOut S n).length - 1) → ∀ h' tk, B.StaysIn h' → s.heap.UpToSlots h' → R (.ok (.ret .none)) { s with heap := h', toks := tk }) :
    codeC (model P w) A (.call (.ref a) ⟨[.ref aS, .int i ti], []⟩) R s := by
  refine enterC (binds := [("sums", .ref aS), ("checks", .int i ti)]) (by omega) hf G.glo.nolimit (fun pm cdv => BindsTo.of_eq rfl) (fun L cdv h₁ F => ?_) (hloc := locs (by rfl))
  refine wpC_mono (E := fun _ _ => False) ?_ (fun _ _ x => x) (fun _ _ x => x.elim)
  have GG := G.glo
  have K' := K.push (name := nameAt 16) (scope := scopeAt 16) (a := a) (cd := cdv) F (by rfl)
  refine execsC_cons (tryC ?_)
  refine execsC_cons (returnC (callNameC ?_))
  walk_at "go"
  refine callFnC f10 (argC (wpC_of ?_))
  walk_at "go"
  refine argC (wpC_of ?_)
  walk_at "go"
  refine argC_nil ⟨F.keep, wpC_call (find_spec (C := C) (B := B) (by show A.depth + 1 + 2 < _; omega) hg hh (f10.keeps F.keep) (F.keep _ _ hd) hd2 (G.keeps F.keep) (O.keeps F.keep) K' (F.keep _ _ hS) hlen hvs hi hn hsh (fun hc h' tk r ws cw k' hr e hws => ?_) (fun hc h' tk e t as hfl htup hnt hu => ?_))⟩
  · refine h hc _ _ r ws cw (fun b o q => k' _ _ (F.keep _ _ q)) ?_ e hws
    cases q : s.heap.get? r with
    | none => rfl
    | some o => have := F.keep _ _ q; rw [hr] at this; cases this
  · refine caughtB K'.stack rfl hfl hgB OB (by decide) rfl (by kernel_rfl!) (by kernel_rfl!) (by kernel_rfl!) fun h₂ k₂ u₂ => ?_
    refine wpAny_execs_cons ?_
    walk_at "go"
    exact hE hc _ _ k₂ (((Heap.UpToSlots.of_keeps F.keep).trans hu).trans u₂)
/- RSC12 -/
section
variable {M : Model} {A : Around} {E : Value → Shared → Prop} {s : Shared} {env : Env}
theorem isTrueC_or {x rest pos whole} {Q : Bool → Shared → Prop}
    (h : wpC M A (isTrue x env (eval x env)) (fun c s' => if c then Q true s' else wpC M A (isTrue (.BoolOp .Or rest pos) env whole) Q E s') E s) :
    wpC M A (isTrue (.BoolOp .Or (x :: rest) pos) env whole) Q E s := by
  show wpC M A (do
    match BoolOp.Or, ← isTrue x env (eval x env) with
    | .And, false => pure false
    | .Or, true => pure true
    | _, _ => allTrue .Or rest env) Q E s
  refine wpC_bind (wpC_mono h (fun c s' h' => ?_) fun _ _ x => x)
  cases c with
  | false => exact h'
  | true => exact wpC_pure h'
theorem isTrueC_cmp {l op r pos whole} {Q : Bool → Shared → Prop}
    (h : wpC M A (eval l env) (fun a s₁ => wpAny M A (eval r env) (fun b s₂ => wpAny M A (compareOp op a b)
      (fun c s₃ => wpAny M A (truthy c) Q E s₃) E s₂) E s₁) E s)
    (hm : behindInMarks op r = false := by with_unfolding_all rfl) : wpC M A (isTrue (.Compare l [op] [r] pos) env whole) Q E s := fun Γ p hΓ hc => by
  simp only [isTrue_Compare1, markedBehindIn_of_false hm, Sem.wp_bind', Sem.wp_holding, Sem.wp_cmd_standAt, Sem.wp_operate]
  exact Sem.wp_mono M Γ _ (fun a p₁ s₁ h₁ => Sem.wp_mono M Γ _ (fun b _ s₂ h₂ => Sem.wp_mono M Γ _ (fun c p₃ s₃ h₃ => h₃ Γ p₃ hΓ)
    (fun _ _ _ h' => h') _ _ (h₂ Γ _ hΓ)) (fun _ _ _ h' => h') _ _ (h₁ Γ p₁ hΓ)) (fun _ _ _ h' => h') _ _ (h Γ p hΓ hc)
end
theorem revPick (vs : List Value) : slicePick vs.toArray none none (some (-1)) = vs.reverse.toArray := by
  unfold slicePick
  congr 1
  have e : sliceBounds none none (some (-1)) vs.toArray.size = ((vs.length : Int) - 1, -1, -1) := by simp [sliceBounds]
  rw [e]
  have e2 : sliceRange ((vs.length : Int) - 1) (-1) (-1) = (List.range vs.length).map fun k => vs.length - 1 - k := by
    unfold sliceRange
    dsimp only
    rw [if_neg (by lia)]
    have : (if (vs.length : Int) - 1 > -1 then ((vs.length : Int) - 1 - -1 - -1 - 1) / - -1 else 0).toNat = vs.length := by
      split
      · rw [show (- -1 : Int) = 1 by rfl, Int.ediv_one]; lia
      · lia
    rw [this]
    apply List.map_congr_left
    intro k hk
    rw [List.mem_range] at hk
    lia
  rw [e2, List.filterMap_map]
  apply List.ext_getElem?
  intro j
  have key : ∀ (n : Nat), n ≤ vs.length → (List.range n).filterMap ((fun x => vs.toArray[x]?) ∘ fun k => vs.length - 1 - k) = vs.reverse.take n := by
    intro n
    induction n with
    | zero => intro _; simp
    | succ n ih =>
      intro hn
      rw [List.range_succ, List.filterMap_append, ih (by lia)]
      have hlt : n < vs.reverse.length := by simp; lia
      rw [List.take_add_one, List.getElem?_eq_getElem hlt]
      have : ((fun x => vs.toArray[x]?) ∘ fun k => vs.length - 1 - k) n = some vs.reverse[n] := by
        show vs.toArray[vs.length - 1 - n]? = _
        rw [List.getElem_reverse, List.getElem?_toArray, List.getElem?_eq_getElem]
      simp only [List.filterMap_cons, this, List.filterMap_nil, Option.toList]
  rw [key vs.length (Nat.le_refl _), List.take_of_length_le (by simp)]
section
variable {prog : Program} {w : World} {A : Around} {E : Value → Shared → Prop} {s : Shared} {h₀ : Heap} {L a : Addr} {m : Str → Option Value} {news : List (Addr × Obj)} {vs ws : List Value} {c cw : Nat}
theorem sliceL {sl : Addr} {vl vu vst : Value} {lo hi st : Option Int} {Q : Value → Shared → Prop} (us : List Value) (F : Fr h₀ L s.heap m) (N : Led h₀ L s.heap news) (ha : s.heap.get? a = some (lsO vs c)) (hs : s.heap.IsSliceOf sl vl vu vst) (pl : IsPart vl lo) (pu : IsPart vu hi) (ps : IsPart vst st) (h0 : st ≠ some 0)
    (he : slicePick vs.toArray lo hi st = us.toArray) (hz : vs.length ≤ 1000)
    (h : ∀ h' r, s.heap.StaysIn h' → Fr h₀ L h' m → Led h₀ L h' ((r, lsO us 0) :: news) → Q (.ref r) { s with heap := h' }) : wpAny (model prog w) A (getItem (.ref a) (.ref sl)) Q E s := by
  refine wpAny_getItem_list_slice (isL ha) hs pl pu ps h0 ?_ (by rw [List.size_toArray]; exact Nat.le_trans hz (by decide))
  rw [he]
  exact h _ _ (stays_push _ _) (Fr.stays F (stays_push _ _)) (Led.push F N (lsO us 0))
theorem sliceT {value slice : Expr} {ops : List Value} {sl : Addr} {vl vu vst : Value} {lo hi st : Option Int} {Q : Value → Shared → Prop} (us : List Value) (F : Fr h₀ L s.heap m) (N : Led h₀ L s.heap news) (ha : s.heap.get? a = some (lsO vs c)) (hs : s.heap.IsSliceOf sl vl vu vst) (pl : IsPart vl lo) (pu : IsPart vu hi) (ps : IsPart vst st) (h0 : st ≠ some 0)
    (he : slicePick vs.toArray lo hi st = us.toArray) (hz : vs.length ≤ 1000) (hsub : subscripted slice false (.ref a) (.ref sl) = operate ops (getItem (.ref a) (.ref sl)))
    (h : ∀ h' r, s.heap.StaysIn h' → Fr h₀ L h' m → Led h₀ L h' ((r, lsO us 0) :: news) → Q (.ref r) { s with heap := h' }) : wpAny (model prog w) A (subscriptTail value slice (.ref a) (.ref sl)) Q E s :=
  tail_any (T := "list") (isL ha).typeIs PySem.F.slot_list_getitem.lookup (sliceL us F N ha hs pl pu ps h0 he hz h) hsub
theorem addLs {b : Addr} {Q : Value → Shared → Prop} (F : Fr h₀ L s.heap m) (N : Led h₀ L s.heap news) (ha : s.heap.get? a = some (lsO vs c)) (hb : s.heap.get? b = some (lsO ws cw)) (hz : vs.length + ws.length ≤ 1000)
    (h : ∀ h' r, s.heap.StaysIn h' → Fr h₀ L h' m → Led h₀ L h' ((r, lsO (vs ++ ws) 0) :: news) → Q (.ref r) { s with heap := h' }) : wpAny (model prog w) A (binaryOp .Add (.ref a) (.ref b)) Q E s := by
  refine P.add_list ha hb ?_ (by rw [List.size_toArray, List.size_toArray]; exact Nat.le_trans hz (by decide))
  rw [List.append_toArray]
  exact h _ _ (stays_push _ _) (Fr.stays F (stays_push _ _)) (Led.push F N (lsO (vs ++ ws) 0))
theorem copyLs {Q : Value → Shared → Prop} (F : Fr h₀ L s.heap m) (N : Led h₀ L s.heap news) (ha : s.heap.get? a = some (lsO vs c)) (hz : vs.length ≤ 1000)
    (h : ∀ h' r cr, s.heap.StaysIn h' → Fr h₀ L h' m → Led h₀ L h' ((r, lsO vs cr) :: news) → Q (.ref r) { s with heap := h' }) : wpAny (model prog w) A (call (.type "list") [.ref a]) Q E s :=
  call_list_seq (T := "list") a (.inl rfl) ha rfl rfl (fun h' c' hk hD => h h' _ c' hk (Fr.stays F hk) (Led.new' F N hk (get_size_none _) hD)) (by rw [List.size_toArray]; exact Nat.le_trans hz (by decide))
end
/- RSF15 -/

noncomputable def menu9 : List Int := [3, 1, 0, 1, 1, 0, 1, 1, 0]
noncomputable def numL (ns : List Int) : List Int := ns.take 9 ++ menu9.drop ns.length
noncomputable def nChk (ns : List Int) : Nat := (((numL ns).getD 0 0).fmod 7).toNat + 1
noncomputable def bnd (ns : List Int) : Int := ([256, 2, 5] : List Int).getD (((numL ns).getD 1 0).fmod 3).toNat 0
noncomputable def sumsL (ns : List Int) : List UInt8 := (List.range (nChk ns)).map fun p => (((numL ns).getD (2 + p) 0).fmod (bnd ns)).toNat.toUInt8
theorem ints_take {vs : List Value} {ns : List Int} (h : IntsAre vs ns) : ∀ k, IntsAre (vs.take k) (ns.take k) := by
  induction h with
  | nil => intro k; simp; exact .nil
  | cons n t h ih => intro k; cases k with
    | zero => exact .nil
    | succ k => exact .cons n t (ih k)
theorem ints_drop {vs : List Value} {ns : List Int} (h : IntsAre vs ns) : ∀ k, IntsAre (vs.drop k) (ns.drop k) := by
  induction h with
  | nil => intro k; simp; exact .nil
  | cons n t h ih => intro k; cases k with
    | zero => exact .cons n t h
    | succ k => exact ih k

theorem bnd_range (ns : List Int) : bnd ns = 256 ∨ bnd ns = 2 ∨ bnd ns = 5 := by
  unfold bnd
  have h0 : 0 ≤ ((numL ns).getD 1 0).fmod 3 := Int.fmod_nonneg_of_pos _ (by decide)
  have h1 : ((numL ns).getD 1 0).fmod 3 < 3 := Int.fmod_lt_of_pos _ (by decide)
  have h2 : (((numL ns).getD 1 0).fmod 3).toNat < 3 := by lia
  generalize (((numL ns).getD 1 0).fmod 3).toNat = k at h2
  have : k = 0 ∨ k = 1 ∨ k = 2 := by lia
  rcases this with rfl | rfl | rfl <;> simp
theorem nChk_range (ns : List Int) : 1 ≤ nChk ns ∧ nChk ns ≤ 7 := by
  unfold nChk
  have h0 : 0 ≤ ((numL ns).getD 0 0).fmod 7 := Int.fmod_nonneg_of_pos _ (by decide)
  have h1 : ((numL ns).getD 0 0).fmod 7 < 7 := Int.fmod_lt_of_pos _ (by decide)
  lia
theorem numL_len {ns : List Int} : (numL ns).length = 9 := by unfold numL menu9; simp; lia
theorem sumsL_len (ns : List Int) : (sumsL ns).length = nChk ns := by unfold sumsL; simp

theorem lawB {w : World} {A : Around} {s : Shared} {mg : Str → Option Value} {a r L : Addr} {h₀ : Heap} {cdv : Value} {m : Str → Option Value} {o1 o2 : Obj} {nvs : List Value} {c : Nat} {ns : List Int} {cv bv : Int} {tb tc : Tok} {Q : Flow → Shared → Prop}
    (hh : A.handled = none) (G : Gs mg h₀) (F : Fr h₀ L s.heap m) (N : Led h₀ L s.heap [(r, lsO nvs c), (L + 1 + 1, o1), (L + 1, o2)]) (d1 : o1.data = .cell (some (.int bv tb))) (d2 : o2.data = .cell (some (.ref r))) (hnv : IntsAre nvs (numL ns))
    (x : m "checks" = some (.int cv tc)) (hcv : cv = (nChk ns : Int)) (hbv : bv = bnd ns)
    (hQ : ∀ h' tk aSu svs cs m', Fr h₀ L h' m' → Led h₀ L h' [(aSu, lsO svs cs)] → IntsAre svs ((sumsL ns).map iu) → m' "sums" = some (.ref aSu) → m' "checks" = some (.int cv tc) →
      wpC (model P w) (A.deeper (envOfC (nameAt 17) (scopeAt 17) L a cdv)) (execs ((bodyAt 17).drop 4) (envOfC (nameAt 17) (scopeAt 17) L a cdv)) Q (fun _ _ => False) { s with heap := h', toks := tk }) :
    wpC (model P w) (A.deeper (envOfC (nameAt 17) (scopeAt 17) L a cdv)) (execs ((bodyAt 17).drop 3) (envOfC (nameAt 17) (scopeAt 17) L a cdv)) Q (fun _ _ => False) s := by
  have GG := G.glo
  have mR := G.range
  have hnl := ints_len hnv
  rw [numL_len] at hnl
  obtain ⟨hc1, hc7⟩ := nChk_range ns
  have hb0 : bv ≠ 0 := by rcases bnd_range ns with e | e | e <;> lia
  refine execsA_cons (compRA (h₀ := h₀) _ (fun _ => true) (fun i => ((numL ns).getD (2 + i.toNat) 0).fmod bv) ?_ hh (by rfl) (by rfl) (by decide +kernel) (by rfl) (by decide +kernel) (by rfl) (by kernel_rfl!) (by kernel_rfl!))
  walk_at "go"
  refine call_range_1 ?_
  generalize hg₂ : s.heap.push _ = h₂
  have k₂ : s.heap.StaysIn h₂ := hg₂ ▸ stays_push _ _
  have F₂ := Fr.stays F k₂
  have N₂ := Led.stays N k₂
  have G₂ := GG.keeps F₂.keep
  have hr₂ := N₂.get (.head _)
  have hcN : h₂.IsCell (L + 1) (some (.ref r)) := ⟨_, N₂.get (.tail _ (.tail _ (.head _))), d2⟩
  have hcB : h₂.IsCell (L + 1 + 1) (some (.int bv tb)) := ⟨_, N₂.get (.tail _ (.head _)), d1⟩
  refine ⟨0, nChk ns, _, _, F₂, N₂, by lia, ⟨⟨_, _, _, _, _, rfl, hg₂ ▸ Heap.get?_push_size _ rfl, by lia, by lia⟩, fun C i t s₃ m' hi F' hm => ?_, fun C i t s₃ m' hi _ F' hm => ?_⟩, ?_⟩
  · exact tests_nil ⟨rfl, _, _, rfl, fun _ _ e => e⟩
  · obtain ⟨tx, hx⟩ := (ints_get hnv).2 (2 + i) ((numL ns).getD (2 + i) 0) (by rw [List.getD_eq_getElem?_getD, List.getElem?_eq_getElem (by rw [numL_len]; lia)]; rfl)
    have ei : ((0 : Int) + (i : Nat)).toNat = i := by lia
    rw [ei]
    walk_at "go"
    refine subL (2 + i) (F'.keep _ _ hr₂) (by lia) (by lia) hx (by with_unfolding_all rfl) ?_
    walk_at "go"
    exact ⟨⟨_, rfl⟩, _, _, rfl, fun _ _ e => e⟩
  · intro D h₃ tk₃ svs cs F₃ N₃ hsv
    have hf : ∀ x : Int, 0 ≤ x.fmod bv ∧ x.fmod bv < 256 := fun x => by
      have hp : 0 < bv := by rcases bnd_range ns with e | e | e <;> lia
      have h1 := Int.fmod_nonneg_of_pos x hp
      have h2 := Int.fmod_lt_of_pos x hp
      rcases bnd_range ns with e | e | e <;> lia
    have e : ((((List.range (nChk ns)).map fun j : Nat => (0 : Int) + (j : Int)).filter (fun _ => true)).map fun i => ((numL ns).getD (2 + i.toNat) 0).fmod bv) = (sumsL ns).map iu := by
      rw [List.filter_eq_self.mpr (fun _ _ => rfl), List.map_map]
      unfold sumsL
      rw [List.map_map]
      apply List.map_congr_left
      intro j hj
      show ((numL ns).getD (2 + ((0 : Int) + (j : Int)).toNat) 0).fmod bv = iu ((((numL ns).getD (2 + j) 0).fmod (bnd ns)).toNat.toUInt8)
      rw [show ((0 : Int) + (j : Int)).toNat = j by lia, ← hbv]
      have := hf ((numL ns).getD (2 + j) 0)
      unfold iu
      rw [Nat.toUInt8_eq, UInt8.toNat_ofNat']
      lia
    rw [e] at hsv
    refine hQ _ _ D svs cs _ F₃ (N₃.subl (.cons_cons _ (List.nil_sublist _))) hsv rfl ?_
    exact x
theorem menu_at (ns : List Int) (t1 t2 t3 : Tok) : ∃ t, [Value.int 256 t1, .int 2 t2, .int 5 t3][(((numL ns).getD 1 0).fmod 3).toNat]? = some (.int (bnd ns) t) := by
  have h0 : 0 ≤ ((numL ns).getD 1 0).fmod 3 := Int.fmod_nonneg_of_pos _ (by decide)
  have h1 : ((numL ns).getD 1 0).fmod 3 < 3 := Int.fmod_lt_of_pos _ (by decide)
  have h2 : (((numL ns).getD 1 0).fmod 3).toNat < 3 := by lia
  unfold bnd
  generalize (((numL ns).getD 1 0).fmod 3).toNat = k at h2
  have : k = 0 ∨ k = 1 ∨ k = 2 := by lia
  rcases this with rfl | rfl | rfl <;> exact ⟨_, rfl⟩
theorem subLe {prog : Program} {w : World} {A : Around} {E : Value → Shared → Prop} {s : Shared} {a : Addr} {vs : List Value} {c : Nat} {value slice : Expr} {Q : Value → Shared → Prop} {i n : Int} {u : Tok} (j : Nat) (h : s.heap.get? a = some (lsO vs c)) (hi : i = (j : Int)) (hb : vs.length ≤ 1000000) (hx : ∃ t, vs[j]? = some (.int n t))
    (hs : subscripted slice false (.ref a) (.int i u) = operate [.ref a, .int i u] (getItem (.ref a) (.int i u))) (hq : ∀ t, Q (.int n t) s) : wpAny (model prog w) A (subscriptTail value slice (.ref a) (.int i u)) Q E s :=
  let ⟨t, e⟩ := hx; subL j h hi hb e hs (hq t)
theorem lawA {w : World} {A : Around} {R : Result → Shared → Prop} {s : Shared} {mg : Str → Option Value} {a aS : Addr} {vs : List Value} {c : Nat} {ns : List Int}
    (hroom : A.depth + 10 < recursionLimit) (hh : A.handled = none) (hf : FnAt s.heap 17 a .none) (G : Gs mg s.heap)
    (hS : s.heap.get? aS = some (lsO vs c)) (hvs : IntsAre vs ns) (hlen : ns.length ≤ 63)
    (hQ : ∀ L cdv h' tk aSu svs cs m' tc, Fr s.heap L h' m' → Led s.heap L h' [(aSu, lsO svs cs)] → IntsAre svs ((sumsL ns).map iu) → m' "sums" = some (.ref aSu) → m' "checks" = some (.int (nChk ns : Int) tc) →
      wpC (model P w) (A.deeper (envOfC (nameAt 17) (scopeAt 17) L a cdv)) (execs ((bodyAt 17).drop 4) (envOfC (nameAt 17) (scopeAt 17) L a cdv)) (fun f s' => R (.ok (.ret (match f with | .ret v => v | _ => .none))) s') (fun _ _ => False) { s with heap := h', toks := tk }) :
    codeC (model P w) A (.call (.ref a) ⟨[.ref aS], []⟩) R s := by
  refine enterCC (binds := [("script", .ref aS)]) (by lia) hf G.glo.nolimit (fun pm cdv => BindsTo.of_eq rfl) (fun L cdv h₁ tk cells F N Y => ?_) (kinds_ok (by kernel_rfl!) _)
  refine wpC_mono (E := fun _ _ => False) ?_ (fun _ _ x => x) (fun _ _ x => x.elim)
  obtain ⟨o1, o2, he, d1, d2⟩ := CellsAre.two Y
  subst he
  have GG := G.glo
  have mR := G.range
  have mL := G.len
  have mLi := G.list
  have hvl := ints_len hvs
  refine execsA_cons (wpAny_Assign_Name ?_)
  walk_at "go"
  have k₂ := stays_push h₁ { cls := .type "slice", data := .fields #[.none, .int 9 tk, .none] }
  have F₂ := Fr.stays F k₂
  have N₂ := Led.stays N k₂
  refine sliceT (vs.take 9) F₂ N₂ (F₂.keep _ _ hS) ⟨_, Heap.get?_push_size _ rfl, rfl, rfl⟩ .none (.int _ _) .none (by intro h; cases h) (slicePick_upto' vs.toArray 9) (by lia) (by with_unfolding_all rfl) fun h₃ r₃ k₃ F₃ N₃ => ?_
  walk_at "go"
  refine mkListL F₃ N₃ (by simp) fun h₄ r₄ k₄ F₄ N₄ => ?_
  walk_at "go"
  refine lenL (ns.length : Int) (F₄.keep _ _ hS) (by lia) (by lia) ?_
  walk_at "go"
  refine sliceT (List.drop ns.length _) (Fr.stays F₄ (stays_push _ _)) (Led.stays N₄ (stays_push _ _)) ((stays_push _ _) _ _ (N₄.get (.head _))) ⟨_, Heap.get?_push_size _ rfl, rfl, rfl⟩ (.int _ _) .none .none (by intro h; cases h) (slicePick_from' _ ns.length) (by simp) (by with_unfolding_all rfl) fun h₅ r₅ k₅ F₅ N₅ => ?_
  walk_at "go"
  refine addLs F₅ N₅ (N₅.get (.tail _ (.tail _ (.head _)))) (N₅.get (.head _)) (by simp; lia) fun h₆ r₆ k₆ F₆ N₆ => ?_
  have hnum : IntsAre (List.take 9 vs ++ List.drop ns.length [Value.int 3 (tk + 1), .int 1 (tk + 1 + 1), .int 0 (tk + 1 + 1 + 1), .int 1 (tk + 1 + 1 + 1 + 1), .int 1 (tk + 1 + 1 + 1 + 1 + 1), .int 0 (tk + 1 + 1 + 1 + 1 + 1 + 1), .int 1 (tk + 1 + 1 + 1 + 1 + 1 + 1 + 1), .int 1 (tk + 1 + 1 + 1 + 1 + 1 + 1 + 1 + 1), .int 0 (tk + 1 + 1 + 1 + 1 + 1 + 1 + 1 + 1 + 1)]) (numL ns) :=
    (ints_take hvs 9).append (ints_drop (.cons _ _ (.cons _ _ (.cons _ _ (.cons _ _ (.cons _ _ (.cons _ _ (.cons _ _ (.cons _ _ (.cons _ _ .nil))))))))) _)
  have N₇ := N₆.subl (.cons_cons _ (.cons _ (.cons _ (.cons _ (List.Sublist.refl _)))))
  obtain ⟨nvs, hnv, N₈⟩ : ∃ nvs, IntsAre nvs (numL ns) ∧ Led s.heap L h₆ [(r₆, lsO nvs 0), (L + 1 + 1, o1), (L + 1, o2)] := ⟨_, hnum, N₇⟩
  clear N₂ N₃ N₄ N₅ N₆ N₇ hnum N F F₂ F₃ F₄ F₅
  have hnl := ints_len hnv
  have h9 : (numL ns).length = 9 := by unfold numL menu9; simp; lia
  refine stC F₆ N₈ (by rfl) d2 (fun _ => .tail (.tail .head)) (by kernel_rfl!) (by kernel_rfl!) fun h₇ o2' d2' F₇ N₉ => ?_
  clear N₈ F₆
  dsimp only
  have num_at : ∀ j : Nat, j < 9 → ∃ t, nvs[j]? = some (.int ((numL ns).getD j 0) t) := fun j hj => (ints_get hnv).2 j _ (by rw [List.getD_eq_getElem?_getD, List.getElem?_eq_getElem (by lia)]; rfl)
  obtain ⟨t0, e0⟩ := num_at 0 (by decide)
  obtain ⟨t1, e1⟩ := num_at 1 (by decide)
  have hc2 : h₇.IsCell (L + 1) (some (.ref r₆)) := ⟨_, N₉.get (.tail _ (.tail _ (.head _))), d2'⟩
  refine execsA_cons ?_
  walk_at "go"
  refine subL 0 (N₉.get (.head _)) rfl (by lia) e0 (by with_unfolding_all rfl) ?_
  walk_at "go"
  rename_i h₈ F₈ N₁₀
  clear hc2
  have hc2 : h₈.IsCell (L + 1) (some (.ref r₆)) := ⟨_, N₁₀.get (.tail _ (.tail _ (.head _))), d2'⟩
  refine execsA_cons (wpAny_Assign_Name ?_)
  walk_at "go"
  refine mkListL F₈ N₁₀ (by simp) fun h₉ r₉ k₉ F₉ N₁₁ => ?_
  clear hc2
  have hc2 : h₉.IsCell (L + 1) (some (.ref r₆)) := ⟨_, N₁₁.get (.tail _ (.tail _ (.tail _ (.head _)))), d2'⟩
  walk_at "go"
  refine subL 1 (N₁₁.get (.tail _ (.head _))) rfl (by lia) e1 (by with_unfolding_all rfl) ?_
  walk_at "go"
  refine subLe (((numL ns).getD 1 0).fmod 3).toNat (N₁₁.get (.head _)) ?_ (by simp) (menu_at ns _ _ _) (by with_unfolding_all rfl) fun tbm => ?_
  · have := Int.fmod_nonneg_of_pos ((numL ns).getD 1 0) (show (0 : Int) < 3 by decide); lia
  refine stC F₉ N₁₁ (by rfl) d1 (fun _ => .tail (.tail .head)) (by kernel_rfl!) (by kernel_rfl!) fun h₁₀ o1' d1' F₁₀ N₁₂ => ?_
  have N₁₃ := N₁₂.tail
  clear N₁₂ N₁₁ N₁₀ N₉ hc2 F₉ F₈ F₇
  dsimp only
  refine lawB hh G F₁₀ N₁₃ d1' d2' hnv rfl ?_ rfl fun h' tk' aSu svs cs m' F' N' hsv y1 y2 => ?_
  · unfold nChk
    have := Int.fmod_nonneg_of_pos ((numL ns).getD 0 0) (show (0 : Int) < 7 by decide)
    lia
  · have e : ((numL ns).getD 0 0).fmod 7 + 1 = (nChk ns : Int) := by
      unfold nChk
      have := Int.fmod_nonneg_of_pos ((numL ns).getD 0 0) (show (0 : Int) < 7 by decide)
      lia
    rw [e] at y2
    exact hQ L cdv _ _ aSu svs cs m' _ F' N' hsv y1 y2
/- RSF16 -/

theorem stays_hide {h₀ h : Heap} {L : Addr} {m : Str → Option Value} (F : Fr h₀ L h m) : h₀.StaysIn (h.hide L) := fun _ _ e => hide_get (F.keep _ _ e) fun q => by
  subst q; exact absurd (Heap.lt_size e) (Nat.not_lt.mpr F.above)
noncomputable abbrev Sat (sl : List UInt8) (j : Nat) : UInt8 := sl.getD j 0
noncomputable def Given (sl : List UInt8) (m : Str → Option Value) (news : List (Addr × Obj)) : Prop :=
  (2 * ((bmOut (Sat sl) sl.length).length - 1) ≤ sl.length ∧ ∃ ag gvs gc, m "given" = some (.ref ag) ∧ (ag, lsO gvs gc) ∈ news ∧ IntsAre gvs ((bmOut (Sat sl) sl.length).map iu)) ∨
  (sl.length < 2 * ((bmOut (Sat sl) sl.length).length - 1) ∧ m "given" = some .none)
/-- the functions that the law calls -/
structure LawFns (mg : Str → Option Value) (h : Heap) : Prop where
  g : Gs mg h
  own : ∃ C, Own C mg h
  f10 : ∃ a d od td nd, mg "rs_find_error_locator" = some (.ref a) ∧ FnAt h 10 a (.ref d) ∧ h.get? d = some od ∧ od.data = .seq #[.none, .int 0 td] nd
  f13 : ∃ a, mg "_law_field" = some (.ref a) ∧ FnAt h 13 a .none
  f14 : ∃ a, mg "_law_product" = some (.ref a) ∧ FnAt h 14 a .none
  f15 : ∃ a, mg "_law_taps" = some (.ref a) ∧ FnAt h 15 a .none
  f16 : ∃ a, mg "_law_answer" = some (.ref a) ∧ FnAt h 16 a .none

theorem lawC1 {w : World} {A : Around} {s : Shared} {mg : Str → Option Value} {a aSu L : Addr} {h₀ : Heap} {cdv : Value} {m : Str → Option Value} {svs : List Value} {cs : Nat} {sl : List UInt8} {cv : Int} {tc : Tok} {Q : Flow → Shared → Prop}
    (hroom : A.depth + 10 < recursionLimit) (hg : A.guards = some []) (hh : A.handled = none) (hfr : A.frames = some []) (X : LawFns mg h₀)
    (F : Fr h₀ L s.heap m) (N : Led h₀ L s.heap [(aSu, lsO svs cs)]) (hsv : IntsAre svs (sl.map iu)) (x1 : m "sums" = some (.ref aSu)) (x2 : m "checks" = some (.int cv tc)) (hcv : cv = (sl.length : Int)) (hn : sl.length ≤ 7)
    (hQ : ∀ h' tk m' news', Fr h₀ L h' m' → Led h₀ L h' news' → (aSu, lsO svs cs) ∈ news' → (∃ ah hc, m' "handed" = some (.ref ah) ∧ (ah, lsO svs hc) ∈ news') → m' "sums" = some (.ref aSu) → m' "checks" = some (.int cv tc) → Given sl m' news' →
      wpC (model P w) (A.deeper (envOfC (nameAt 17) (scopeAt 17) L a cdv)) (execs ((bodyAt 17).drop 6) (envOfC (nameAt 17) (scopeAt 17) L a cdv)) Q (fun _ _ => False) { s with heap := h', toks := tk }) :
    wpC (model P w) (A.deeper (envOfC (nameAt 17) (scopeAt 17) L a cdv)) (execs ((bodyAt 17).drop 4) (envOfC (nameAt 17) (scopeAt 17) L a cdv)) Q (fun _ _ => False) s := by
  have G := X.g
  have GG := G.glo
  have mLi := G.list
  obtain ⟨C, O⟩ := X.own
  obtain ⟨a10, d10, od, td, nd, m10, f10, e10, dd10⟩ := X.f10
  have hsl := ints_len hsv
  rw [List.length_map] at hsl
  refine execsA_cons ?_
  walk_at "go"
  refine copyLs F N (N.get (.head _)) (by lia) fun h₂ ah ch k₂ F₂ N₂ => ?_
  walk_at "go"
  rename_i h₃ F₃ N₃
  clear N₂ N
  refine execsC_cons (tryC ?_)
  refine execsC_cons (assignC (callNameC ?_))
  walk_at "go"
  refine callFnC f10 (argC (wpC_of ?_))
  walk_at "go"
  refine argC (wpC_of ?_)
  walk_at "go"
  have K := belowB (A := A.deeper (envOfC (nameAt 17) (scopeAt 17) L a cdv)) (env := envOfC (nameAt 17) (scopeAt 17) L a cdv) F₃ (Around.frames_deeper hfr) rfl (by show (scopeAt 17).kind ≠ .module; decide +kernel)
  have kB := stays_hide F₃
  refine argC_nil ⟨F₃.keep, wpC_call (find_spec (C := C) (B := h₃.hide L) (n := sl.length) (sh := 0) (S := Sat sl) (by show A.depth + 1 + 2 < _; lia) hg hh (f10.keeps F₃.keep) (F₃.keep _ _ e10) dd10 (G.keeps F₃.keep) (O.keeps F₃.keep) K (N₃.get (.head _)) (by lia) (fun j hj => ints_at hsv hj) hcv (by lia) (by lia) (fun hc h' tk r ws cw k' hr e hws => ?_) (fun hc h' tk e t as hfl htup hnt hu => ?_))⟩
  · have F₄ := Fr.stays F₃ k'
    have N₄ := Led.new' F₃ N₃ k' hr e
    walk_at "go"
    rename_i h₅ F₅ N₅
    refine execsC_nil ?_
    dsimp only
    exact hQ _ _ _ _ F₅ N₅ (.tail _ (.tail _ (.head _))) ⟨ah, ch, rfl, .tail _ (.head _)⟩ x1 x2 (.inl ⟨hc, r, ws, cw, rfl, .head _, hws⟩)
  · refine caughtB (Around.frames_deeper hfr) rfl hfl (GG.g.keeps kB) (O.keeps kB) (by decide) rfl (by kernel_rfl!) (by kernel_rfl!) (by kernel_rfl!) fun h₄ k₄ u₄ => ?_
    obtain ⟨F₄, N₄⟩ := afterB F₃ N₃ k₄ (hu.trans u₄)
    refine wpAny_execs_cons ?_
    walk_at "go"
    rename_i h₅ F₅ N₅
    exact hQ _ _ _ _ F₅ N₅ (.tail _ (.head _)) ⟨ah, ch, rfl, .head _⟩ x1 x2 (.inr ⟨hc, rfl⟩)
/- RSF17 -/

theorem lawC2 {w : World} {A : Around} {s : Shared} {mg : Str → Option Value} {a aSu ah L : Addr} {h₀ : Heap} {cdv : Value} {m : Str → Option Value} {svs : List Value} {cs hc : Nat} {sl : List UInt8} {cv : Int} {tc : Tok} {Q : Flow → Shared → Prop} {news : List (Addr × Obj)}
    (hroom : A.depth + 10 < recursionLimit) (hg : A.guards = some []) (hh : A.handled = none) (hfr : A.frames = some []) (hun : A.units + 200 < cLine) (X : LawFns mg h₀)
    (F : Fr h₀ L s.heap m) (N : Led h₀ L s.heap news) (hms : (aSu, lsO svs cs) ∈ news) (hmh : (ah, lsO svs hc) ∈ news) (hsv : IntsAre svs (sl.map iu)) (x0 : m "handed" = some (.ref ah)) (x1 : m "sums" = some (.ref aSu)) (x2 : m "checks" = some (.int cv tc)) (hcv : cv = (sl.length : Int)) (hn : sl.length ≤ 7)
    (hG : Given sl m news)
    (hQ : ∀ h' tk, Fr h₀ L h' m → Led h₀ L h' news →
      wpC (model P w) (A.deeper (envOfC (nameAt 17) (scopeAt 17) L a cdv)) (execs ((bodyAt 17).drop 7) (envOfC (nameAt 17) (scopeAt 17) L a cdv)) Q (fun _ _ => False) { s with heap := h', toks := tk }) :
    wpC (model P w) (A.deeper (envOfC (nameAt 17) (scopeAt 17) L a cdv)) (execs ((bodyAt 17).drop 6) (envOfC (nameAt 17) (scopeAt 17) L a cdv)) Q (fun _ _ => False) s := by
  have G := X.g
  have GG := G.glo
  obtain ⟨C, O⟩ := X.own
  obtain ⟨a10, d10, od, td, nd, m10, f10, e10, dd10⟩ := X.f10
  obtain ⟨a16, m16, f16⟩ := X.f16
  have hsl := ints_len hsv
  rw [List.length_map] at hsl
  have hu : (A.deeper (envOfC (nameAt 17) (scopeAt 17) L a cdv)).units + 64 < cLine := by
    show A.units + 3 + 64 < cLine
    lia
  refine execsC_cons (ifC (isTrueC_or (wpC_of ?_)))
  walk_at "go"
  refine ne_intsK (isL (N.get hmh)) hsv (isL (N.get hms)) hsv hu ?_
  rw [decide_eq_true rfl]
  walk_at "go"
  refine isTrueC_or (isTrueC_cmp (callNameC ?_))
  walk_at "go"
  refine callFnC f16 (argC (wpC_of ?_))
  walk_at "go"
  refine mkListL F N (by simp) fun h₂ b₂ k₂ F₂ N₂ => ?_
  walk_at "go"
  refine addLs F₂ N₂ (N₂.get (.head _)) (N₂.get (.tail _ hms)) (by simp; lia) fun h₃ r₃ k₃ F₃ N₃ => ?_
  refine argC (wpC_of ?_)
  walk_at "go"
  have N₄ := N₃.drop2
  have N₅ : Led h₀ L h₃ ((r₃, lsO ([Value.int 0 s.toks] ++ svs) 0) :: news) := N₄
  have K := belowB (A := A.deeper (envOfC (nameAt 17) (scopeAt 17) L a cdv)) (env := envOfC (nameAt 17) (scopeAt 17) L a cdv) F₃ (Around.frames_deeper hfr) rfl (by show (scopeAt 17).kind ≠ .module; decide +kernel)
  have kB := stays_hide F₃
  refine argC_nil ⟨F₃.keep, wpC_call (answer_spec (C := C) (B := h₃.hide L) (n := sl.length) (sh := 1) (S := Sat sl) (by show A.depth + 1 + 3 < _; lia) hg hh (f16.keeps F₃.keep) m10 (f10.keeps F₃.keep) (F₃.keep _ _ e10) dd10 (G.keeps F₃.keep) (O.keeps F₃.keep) K (GG.g.keeps kB) (O.keeps kB) (N₅.get (.head _)) (by simp; lia) (fun j hj => ints_at hsv hj) hcv (by lia) (by lia) (fun hcc h' tk r ws cw k' hr e hws => ?_) (fun hcc h' tk k' u' => ?_))⟩
  · have F₆ := Fr.stays F₃ k'
    have N₆ := Led.new' F₃ N₅ k' hr e
    rcases hG with ⟨_, ag, gvs, gc, y1, y2, y3⟩ | ⟨hcc', _⟩
    · walk_at "go"
      refine ne_intsK (isL (N₆.get (.head _))) hws (isL (N₆.get (.tail _ (.tail _ y2)))) y3 hu ?_
      rw [decide_eq_true rfl]
      walk_at "go"
      rw [if_neg (by decide)]
      refine wpC_of (isTrue_or_nil ?_)
      rw [if_neg (by decide)]
      exact execsC_nil (hQ _ _ F₆ N₆.tail.tail)
    · lia
  · obtain ⟨F₆, N₆⟩ := afterB F₃ N₅ k' u'
    rcases hG with ⟨hcc', _⟩ | ⟨_, y1⟩
    · lia
    · walk_at "go"
      refine wpC_of (isTrue_or_nil ?_)
      rw [if_neg (by decide)]
      exact execsC_nil (hQ _ _ F₆ N₆.tail)
/- RSF18 -/

noncomputable def tapsNone (sl : List UInt8) (sz : Nat) : Prop := ∃ k, k < (cols sl sz sz).1.length - (cols sl sz sz).2.length ∧ ((cols sl sz sz).1.getD ((cols sl sz sz).2.length + k) []).getD sz 0 ≠ 0
noncomputable def tapsAt (sl : List UInt8) (sz : Nat) : List UInt8 := tapsOf (cols sl sz sz).1 sz (cols sl sz sz).2 (cols sl sz sz).2.length
theorem taps_all {sl : List UInt8} {sz : Nat} (h : tapsNone sl sz) : sz < sl.length := by
  obtain ⟨k, hk, _⟩ := h
  have := (cols_shape sl sz sz).1
  omega
theorem Given.mono {sl : List UInt8} {m m' : Str → Option Value} {news news' : List (Addr × Obj)} (x : Given sl m news) (hn : ∀ p ∈ news, p ∈ news') (hm : m' "given" = m "given") : Given sl m' news' := by
  rcases x with ⟨h, ag, gvs, gc, y1, y2, y3⟩ | ⟨h, y⟩
  · exact .inl ⟨h, ag, gvs, gc, hm.trans y1, hn _ y2, y3⟩
  · exact .inr ⟨h, hm.trans y⟩
/-- what the law keeps to its end -/
structure LK (sl : List UInt8) (cv : Int) (tc : Tok) (aSu aP aL : Addr) (svs ps ls : List Value) (cs cp cl : Nat) (m : Str → Option Value) (news : List (Addr × Obj)) : Prop where
  s1 : m "sums" = some (.ref aSu)
  s2 : m "checks" = some (.int cv tc)
  s3 : m "powers" = some (.ref aP)
  s4 : m "logs" = some (.ref aL)
  ms : (aSu, lsO svs cs) ∈ news
  mp : (aP, lsO ps cp) ∈ news
  ml : (aL, lsO ls cl) ∈ news
  gv : Given sl m news
theorem LK.put {sl : List UInt8} {cv : Int} {tc : Tok} {aSu aP aL : Addr} {svs ps ls : List Value} {cs cp cl : Nat} {m : Str → Option Value} {news : List (Addr × Obj)} (X : LK sl cv tc aSu aP aL svs ps ls cs cp cl m news) (x : Str) (v : Value)
    (h : (([("sums" : Str), "checks", "powers", "logs", "given"] : List Str).all fun y => !(y == x)) = true := by decide +kernel) : LK sl cv tc aSu aP aL svs ps ls cs cp cl (fun y => if y = x then some v else m y) news := by
  simp only [List.all_cons, List.all_nil, Bool.and_true, Bool.and_eq_true, Bool.not_eq_true'] at h
  obtain ⟨h1, h2, h3, h4, h5⟩ := h
  exact ⟨(if_neg (ne_of_beq_false h1)).trans X.s1, (if_neg (ne_of_beq_false h2)).trans X.s2, (if_neg (ne_of_beq_false h3)).trans X.s3, (if_neg (ne_of_beq_false h4)).trans X.s4, X.ms, X.mp, X.ml, X.gv.mono (fun _ h => h) (if_neg (ne_of_beq_false h5))⟩
theorem LK.more {sl : List UInt8} {cv : Int} {tc : Tok} {aSu aP aL : Addr} {svs ps ls : List Value} {cs cp cl : Nat} {m : Str → Option Value} {news : List (Addr × Obj)} (X : LK sl cv tc aSu aP aL svs ps ls cs cp cl m news) (p : Addr × Obj) : LK sl cv tc aSu aP aL svs ps ls cs cp cl m (p :: news) :=
  ⟨X.s1, X.s2, X.s3, X.s4, .tail _ X.ms, .tail _ X.mp, .tail _ X.ml, X.gv.mono (fun _ h => .tail _ h) rfl⟩
theorem LK.tabs {sl : List UInt8} {cv : Int} {tc : Tok} {aSu aP aL : Addr} {svs ps ls : List Value} {cs cp cl : Nat} {m : Str → Option Value} {news : List (Addr × Obj)} {h₀ h : Heap} {L : Addr} (X : LK sl cv tc aSu aP aL svs ps ls cs cp cl m news) (N : Led h₀ L h news) (ips : IntsAre ps (powL.map iu)) (ils : IntsAre ls (logTab.map iu)) : LTabs h aP aL :=
  ⟨⟨ps, cp, N.get X.mp, ips⟩, ⟨ls, cl, N.get X.ml, ils⟩⟩

theorem tapsCall {w : World} {A : Around} {s : Shared} {mg : Str → Option Value} {a aSu aP aL L : Addr} {h₀ : Heap} {cdv : Value} {m : Str → Option Value} {svs ps ls : List Value} {cs cp cl : Nat} {sl : List UInt8} {cv szv : Int} {tc tz : Tok} {sz : Nat} {Q : Flow → Shared → Prop} {news : List (Addr × Obj)} {q0 q1 q2 q3 q4 q5 q6 q7 : Pos}
    (hroom : A.depth + 10 < recursionLimit) (hun : A.units + 200 < cLine) (hh : A.handled = none) (X : LawFns mg h₀)
    (F : Fr h₀ L s.heap m) (N : Led h₀ L s.heap news) (Y : LK sl cv tc aSu aP aL svs ps ls cs cp cl m news) (ips : IntsAre ps (powL.map iu)) (ils : IntsAre ls (logTab.map iu)) (hsv : IntsAre svs (sl.map iu)) (hn : sl.length ≤ 7)
    (z : m "size" = some (.int szv tz)) (hz : szv = (sz : Int)) (hsz : sz ≤ 7)
    (hN : tapsNone sl sz → ∀ h' tk, Fr h₀ L h' (fun y => if y = "taps" then some .none else m y) → Led h₀ L h' news → Q .next { s with heap := h', toks := tk })
    (hT : ¬ tapsNone sl sz → ∀ h' tk aT tvs tcn, Fr h₀ L h' (fun y => if y = "taps" then some (.ref aT) else m y) → Led h₀ L h' ((aT, lsO tvs tcn) :: news) → IntsAre tvs ((tapsAt sl sz).map iu) → Q .next { s with heap := h', toks := tk }) :
    wpC (model P w) (A.deeper (envOfC (nameAt 17) (scopeAt 17) L a cdv)) (exec (.Assign [.Name "taps" q0] (.Call (.Name "_law_taps" q1) [.Name "powers" q2, .Name "logs" q3, .Name "sums" q4, .Name "size" q5] [] q6) q7) (envOfC (nameAt 17) (scopeAt 17) L a cdv)) Q (fun _ _ => False) s := by
  have G := X.g
  have GG := G.glo
  obtain ⟨a14, m14, f14⟩ := X.f14
  obtain ⟨a15, m15, f15⟩ := X.f15
  obtain ⟨y1, y2, y3, y4, y5, y6, y7, y8⟩ := id Y
  refine assignC (callNameC ?_)
  walk_at "go"
  refine callFnC f15 (argC (wpC_of ?_))
  walk_at "go"
  refine argC (wpC_of ?_)
  walk_at "go"
  refine argC (wpC_of ?_)
  walk_at "go"
  refine argC (wpC_of ?_)
  walk_at "go"
  refine argC_nil ⟨F.keep, wpC_call (taps_spec (sl := sl) (sz := sz) (by show A.depth + 1 + 2 < _; omega) (by show A.units + 3 + 100 < _; omega) hh (f15.keeps F.keep) (G.keeps F.keep) m14 (f14.keeps F.keep) (Y.tabs N ips ils) (N.get y5) hsv (by omega) hz (by omega) (fun hc h' tk k => ?_) fun hc h' tk r tvs tcn k hr e ht => ?_)⟩
  · have F₂ := Fr.stays F k
    have N₂ := Led.stays N k
    walk_at "go"
    rename_i h₃ F₃ N₃
    exact hN hc _ _ F₃ N₃
  · have F₂ := Fr.stays F k
    have N₂ := Led.new' F N k hr e
    walk_at "go"
    rename_i h₃ F₃ N₃
    refine hT (fun hc' => ?_) _ _ r tvs tcn F₃ N₃ ht
    obtain ⟨k, hk, hne⟩ := hc'
    exact hne (hc k hk)
/- RSF19 -/

/-- the loop's state: the size tried, and what came of it -/
noncomputable def LoopSt (sl : List UInt8) (sz : Nat) (m : Str → Option Value) (news : List (Addr × Obj)) : Prop :=
  (∃ tz, m "size" = some (.int (sz : Int) tz)) ∧ (∀ j, j < sz → tapsNone sl j) ∧
  ((tapsNone sl sz ∧ m "taps" = some .none) ∨ (¬ tapsNone sl sz ∧ ∃ aT tvs tcn, m "taps" = some (.ref aT) ∧ (aT, lsO tvs tcn) ∈ news ∧ IntsAre tvs ((tapsAt sl sz).map iu)))

theorem lawD1 {w : World} {A : Around} {s : Shared} {mg : Str → Option Value} {a aSu L : Addr} {h₀ : Heap} {cdv : Value} {m : Str → Option Value} {svs : List Value} {cs : Nat} {sl : List UInt8} {cv : Int} {tc : Tok} {Q : Flow → Shared → Prop} {news : List (Addr × Obj)}
    (hroom : A.depth + 10 < recursionLimit) (hun : A.units + 200 < cLine) (hh : A.handled = none) (X : LawFns mg h₀)
    (F : Fr h₀ L s.heap m) (N : Led h₀ L s.heap news) (hms : (aSu, lsO svs cs) ∈ news) (hsv : IntsAre svs (sl.map iu)) (x1 : m "sums" = some (.ref aSu)) (x2 : m "checks" = some (.int cv tc)) (hn : sl.length ≤ 7)
    (hG : Given sl m news)
    (hQ : ∀ h' tk m' news' aP aL ps ls cp cl (sz : Nat) tz aT tvs tcn, Fr h₀ L h' m' → Led h₀ L h' news' → LK sl cv tc aSu aP aL svs ps ls cs cp cl m' news' → IntsAre ps (powL.map iu) → IntsAre ls (logTab.map iu) →
      m' "size" = some (.int (sz : Int) tz) → (∀ j, j < sz → tapsNone sl j) → ¬ tapsNone sl sz → sz ≤ sl.length → m' "taps" = some (.ref aT) → (aT, lsO tvs tcn) ∈ news' → IntsAre tvs ((tapsAt sl sz).map iu) →
      wpC (model P w) (A.deeper (envOfC (nameAt 17) (scopeAt 17) L a cdv)) (execs ((bodyAt 17).drop 11) (envOfC (nameAt 17) (scopeAt 17) L a cdv)) Q (fun _ _ => False) { s with heap := h', toks := tk }) :
    wpC (model P w) (A.deeper (envOfC (nameAt 17) (scopeAt 17) L a cdv)) (execs ((bodyAt 17).drop 7) (envOfC (nameAt 17) (scopeAt 17) L a cdv)) Q (fun _ _ => False) s := by
  have G := X.g
  have GG := G.glo
  obtain ⟨a13, m13, f13⟩ := X.f13
  obtain ⟨o13, pm13, cd13, e13, d13, _⟩ := id f13
  refine execsC_cons (assignTupleC (callNameC ?_))
  walk_at "go"
  refine callWithC_fn0 (F.keep _ _ e13) d13 (wpC_call (field_spec (by show A.depth + 1 + 1 < _; lia) hh (f13.keeps F.keep) (GG.keeps F.keep) G.range fun h₁ tk₁ r aP aL ps cp ls cl ct k₁ er hP hL eP eL ips ils => ?_))
  have F₁ := Fr.stays F k₁
  have hPL : aP ≠ aL := fun q => by
    have := eP.symm.trans (q ▸ eL)
    have h1 := ints_len ips
    have h2 := ints_len ils
    rw [List.length_map] at h1 h2
    simp only [Option.some.injEq, Obj.mk.injEq, Data.seq.injEq, true_and] at this
    have e3 : ps = ls := by have := congrArg Array.toList this.1.1; simpa using this
    rw [e3] at h1
    have h3 : powL.length = 255 := by simp [powL]
    rw [logTab_len] at h2
    lia
  have N₁ := Led.new2 F N k₁ hP hL hPL eP eL
  refine wpAny_assign_Tuple hh ⟨_, er, rfl, ct, rfl⟩ (by rfl) (by rfl) fun h₂ hx₂ => ?_
  have k₂ : h₁.StaysIn h₂ := fun b o e => hx₂ b o (Nat.ne_of_lt (Heap.lt_size e)) e
  have F₂ := Fr.stays F₁ k₂
  have N₂ := Led.stays N₁ k₂
  refine wpAny_assignInOrder_more (wpAny_assign_Name (stL F₂ N₂ (by kernel_rfl!) (by kernel_rfl!) fun h₃ F₃ N₃ => ?_))
  refine wpAny_assignInOrder_more (wpAny_assign_Name (stL F₃ N₃ (by kernel_rfl!) (by kernel_rfl!) fun h₄ F₄ N₄ => ?_))
  refine wpAny_assignInOrder_none ?_
  clear N₁ N₂ N₃ F₁ F₂ F₃ N
  dsimp only at F₄ N₄ ⊢
  have Y₄ : LK sl cv tc aSu aP aL svs ps ls cs cp cl (fun y => if y = "logs" then some (.ref aL) else if y = "powers" then some (.ref aP) else m y) ((aP, lsO ps cp) :: (aL, lsO ls cl) :: news) := ⟨x1, x2, rfl, rfl, .tail _ (.tail _ hms), .head _, .tail _ (.head _), hG.mono (fun _ h => .tail _ (.tail _ h)) rfl⟩
  refine execsA_cons ?_
  walk_at "go"
  rename_i h₅ F₅ N₅
  have Y₅ := Y₄.put "size" (.int 0 (tk₁ + 1 + 1))
  have loop : ∀ h' tk m' news', Fr h₀ L h' m' → Led h₀ L h' news' → LK sl cv tc aSu aP aL svs ps ls cs cp cl m' news' → LoopSt sl 0 m' news' →
      wpC (model P w) (A.deeper (envOfC (nameAt 17) (scopeAt 17) L a cdv)) (execs ((bodyAt 17).drop 10) (envOfC (nameAt 17) (scopeAt 17) L a cdv)) Q (fun _ _ => False) { s with heap := h', toks := tk } := by
    intro h₆ tk₆ m₆ news₆ F₆ N₆ Y₆ Z₆
    refine execsC_cons (whileC (fun k s' => ∃ h' tk m' news' sz, s' = { s with heap := h', toks := tk } ∧ Fr h₀ L h' m' ∧ Led h₀ L h' news' ∧ LK sl cv tc aSu aP aL svs ps ls cs cp cl m' news' ∧ LoopSt sl sz m' news' ∧ sz ≤ sl.length ∧ k = sl.length - sz)
      _ ⟨_, _, _, _, 0, rfl, F₆, N₆, Y₆, Z₆, Nat.zero_le _, rfl⟩ ?_)
    rintro k s' ⟨h₇, tk₇, m₇, news₇, sz, rfl, F₇, N₇, Y₇, ⟨⟨tz, z1⟩, z2, z3⟩, hle, hk⟩
    rcases z3 with ⟨hno, zt⟩ | ⟨hyes, aT, tvs, tcn, zt, zm, zi⟩
    · have hlt := taps_all hno
      walk_at "go"
      refine execsA_cons ?_
      walk_at "go"
      rename_i h₈ F₈ N₈
      have Y₈ := fun v => Y₇.put "size" v
      have z1' : ((sz : Int) + 1) = ((sz + 1 : Nat) : Int) := by lia
      have z2' : ∀ j, j < sz + 1 → tapsNone sl j := fun j hj => by
        rcases Nat.lt_succ_iff_lt_or_eq.mp hj with h1 | rfl
        · exact z2 j h1
        · exact hno
      refine execsC_cons (tapsCall (sz := sz + 1) hroom hun hh X F₈ N₈ (Y₈ _) ips ils hsv hn rfl z1' (by lia) (fun hc h' tk F' N' => ?_) fun hc h' tk aT tvs tcn F' N' ht => ?_)
      · exact execsC_nil ⟨sl.length - (sz + 1), by lia, _, _, _, _, sz + 1, rfl, F', N', (Y₈ _).put "taps" .none, ⟨⟨_, congrArg (fun z => some (Value.int z _)) z1'⟩, z2', .inl ⟨hc, rfl⟩⟩, hlt, rfl⟩
      · exact execsC_nil ⟨sl.length - (sz + 1), by lia, _, _, _, _, sz + 1, rfl, F', N', ((Y₈ _).more _).put "taps" (.ref aT), ⟨⟨_, congrArg (fun z => some (Value.int z _)) z1'⟩, z2', .inr ⟨hc, aT, tvs, tcn, rfl, .head _, ht⟩⟩, hlt, rfl⟩
    · walk_at "go"
      exact hQ _ _ _ _ aP aL ps ls cp cl sz tz aT tvs tcn F₇ N₇ Y₇ ips ils z1 z2 hyes hle zt zm zi
  refine execsC_cons (tapsCall hroom hun hh X F₅ N₅ Y₅ ips ils hsv hn rfl rfl (Nat.zero_le _) (fun hc h' tk F' N' => ?_) fun hc h' tk aT tvs tcn F' N' ht => ?_)
  · exact loop _ _ _ _ F' N' (Y₅.put "taps" .none) ⟨⟨_, rfl⟩, fun j hj => absurd hj (Nat.not_lt_zero _), .inl ⟨hc, rfl⟩⟩
  · exact loop _ _ _ _ F' N' ((Y₅.more _).put "taps" (.ref aT)) ⟨⟨_, rfl⟩, fun j hj => absurd hj (Nat.not_lt_zero _), .inr ⟨hc, aT, tvs, tcn, rfl, .head _, ht⟩⟩
/- RSF20 -/

/-- the plain law that the walk leans on -/
structure PlainLaw (sl : List UInt8) (sz : Nat) : Prop where
  small : 2 * sz ≤ sl.length → 2 * ((bmOut (Sat sl) sl.length).length - 1) ≤ sl.length ∧ bmOut (Sat sl) sl.length = ((tapsAt sl sz).reverse ++ [1]).dropWhile (· == 0)
  ends : 1 ≤ (bmOut (Sat sl) sl.length).length ∧ (bmOut (Sat sl) sl.length).getD ((bmOut (Sat sl) sl.length).length - 1) 0 = 1 ∧ (bmOut (Sat sl) sl.length).getD 0 0 ≠ 0
  big : sl.length < 2 * sz → 2 * ((bmOut (Sat sl) sl.length).length - 1) ≤ sl.length → ∀ place, sz ≤ place → place < sl.length →
    xs (fun st => gmul ((bmOut (Sat sl) sl.length).getD ((bmOut (Sat sl) sl.length).length - 1 - st) 0) (Sat sl (place - st))) (bmOut (Sat sl) sl.length).length = 0
theorem tapsAt_len (sl : List UInt8) (sz : Nat) : (tapsAt sl sz).length = sz := tapsOf_len _ _ _ _

theorem lawD2 {w : World} {A : Around} {s : Shared} {mg : Str → Option Value} {a aSu aP aL aT L : Addr} {h₀ : Heap} {cdv : Value} {m : Str → Option Value} {svs ps ls tvs : List Value} {cs cp cl tcn : Nat} {sl : List UInt8} {cv : Int} {tc tz : Tok} {sz : Nat} {Q : Flow → Shared → Prop} {news : List (Addr × Obj)}
    (hun : A.units + 200 < cLine) (hh : A.handled = none) (X : LawFns mg h₀)
    (F : Fr h₀ L s.heap m) (N : Led h₀ L s.heap news) (Y : LK sl cv tc aSu aP aL svs ps ls cs cp cl m news) (hn : sl.length ≤ 7) (hcv : cv = (sl.length : Int))
    (z : m "size" = some (.int (sz : Int) tz)) (hsz : sz ≤ sl.length) (zt : m "taps" = some (.ref aT)) (zm : (aT, lsO tvs tcn) ∈ news) (zi : IntsAre tvs ((tapsAt sl sz).map iu)) (M : PlainLaw sl sz) (hc : 2 * sz ≤ sl.length)
    (hQ : ∀ h' tk, h₀.StaysIn h' → Q (.ret (.bool true)) { s with heap := h', toks := tk }) :
    wpC (model P w) (A.deeper (envOfC (nameAt 17) (scopeAt 17) L a cdv)) (execs ((bodyAt 17).drop 11) (envOfC (nameAt 17) (scopeAt 17) L a cdv)) Q (fun _ _ => False) s := by
  have G := X.g
  have GG := G.glo
  obtain ⟨y1, y2, y3, y4, y5, y6, y7, y8⟩ := id Y
  have htl := ints_len zi
  rw [List.length_map, tapsAt_len] at htl
  obtain ⟨hm1, hm2⟩ := M.small hc
  have hu : (A.deeper (envOfC (nameAt 17) (scopeAt 17) L a cdv)).units + 64 < cLine := by
    show A.units + 3 + 64 < cLine
    lia
  refine execsC_cons (ifA ?_)
  walk_at "go"
  rw [if_pos (by simp; lia)]
  refine execsA_cons ?_
  walk_at "go"
  refine sliceT tvs.reverse (Fr.stays F (stays_push _ _)) (Led.stays N (stays_push _ _)) ((stays_push _ _) _ _ (N.get zm)) ⟨_, Heap.get?_push_size _ rfl, rfl, rfl⟩ .none .none (.int _ _) (by intro h; cases h) (revPick tvs) (by lia) (by with_unfolding_all rfl) fun h₂ r₂ k₂ F₂ N₂ => ?_
  walk_at "go"
  refine mkListL F₂ N₂ (by simp) fun h₃ r₃ k₃ F₃ N₃ => ?_
  walk_at "go"
  refine addLs F₃ N₃ (N₃.get (.tail _ (.head _))) (N₃.get (.head _)) (by simp; lia) fun h₄ r₄ k₄ F₄ N₄ => ?_
  walk_at "go"
  rename_i h₅ F₅ N₅
  have N₆ := N₅.drop2.drop2
  clear N₅ N₄ N₃ N₂ N F F₂ F₃ F₄
  have hdue : ∃ dvs, IntsAre dvs (((tapsAt sl sz).reverse ++ [1]).map iu) ∧ Led h₀ L h₅ ((r₄, lsO dvs 0) :: news) := by
    refine ⟨_, ?_, N₆⟩
    rw [List.map_append, List.map_reverse]
    exact (IntsAre.reverse zi).append (.cons _ _ .nil)
  obtain ⟨dvs, hdv, N₇⟩ := hdue
  clear N₆
  have hdl := ints_len hdv
  rw [List.length_map, List.length_append, List.length_reverse, tapsAt_len, List.length_singleton] at hdl
  refine execsC_cons (whileC (fun k s' => ∃ h' tk r dvs c us m', s' = { s with heap := h', toks := tk } ∧ Fr h₀ L h' m' ∧ Led h₀ L h' ((r, lsO dvs c) :: news) ∧ m' "due" = some (.ref r) ∧ m' "given" = m "given" ∧ IntsAre dvs (us.map iu) ∧
      us.dropWhile (· == 0) = bmOut (Sat sl) sl.length ∧ us.length = k ∧ us.length ≤ 10) _ ⟨_, _, r₄, dvs, 0, (tapsAt sl sz).reverse ++ [1], _, rfl, F₅, N₇, rfl, rfl, hdv, hm2.symm, rfl, ?_⟩ ?_)
  · rw [List.length_append, List.length_reverse, tapsAt_len, List.length_singleton]; lia
  rintro k s' ⟨h₆, tk₆, r, dvs₆, c₆, us, m₆, rfl, F₆, N₆, x1, x2, hdv₆, hus, hk, hkz⟩
  have hdl₆ := ints_len hdv₆
  rw [List.length_map] at hdl₆
  cases us with
  | nil =>
    have := M.ends.1
    rw [← hus] at this
    exact absurd this (by simp)
  | cons u us =>
    cases hdv₆ with
    | cons _ tu hdv₇ =>
    rename_i dvs₇
    walk_at "go"
    refine subL 0 (N₆.get (.head _)) (by rfl) (by lia) (by rfl) (by with_unfolding_all rfl) ?_
    walk_at "go"
    rw [iu_eq0]
    by_cases hu0 : u = 0
    · rw [if_pos (by simp [hu0])]
      refine execsA_cons ?_
      walk_at "go"
      refine sliceT dvs₇ (Fr.stays F₆ (stays_push _ _)) (Led.stays N₆ (stays_push _ _)) ((stays_push _ _) _ _ (N₆.get (.head _))) ⟨_, Heap.get?_push_size _ rfl, rfl, rfl⟩ (.int _ _) .none .none (by intro h; cases h) (slicePick_from' _ 1) (by lia) (by with_unfolding_all rfl) fun h₇ r₇ k₇ F₇ N₇ => ?_
      walk_at "go"
      rename_i h₈ F₈ N₈
      refine execsC_nil ⟨us.length, ?_, _, _, r₇, dvs₇, 0, us, _, rfl, F₈, N₈.drop2, rfl, x2, hdv₇, ?_, rfl, ?_⟩
      · simp only [List.length_cons] at hk; lia
      · rw [← hus]; simp [hu0]
      · simp only [List.length_cons] at hkz; lia
    · rw [if_neg (by simp [hu0])]
      dsimp only
      have hb : bmOut (Sat sl) sl.length = u :: us := by rw [← hus]; simp [hu0]
      rcases y8 with ⟨_, ag, gvs, gc, g1, g2, g3⟩ | ⟨hcc', _⟩
      · have x2' := x2.trans g1
        refine execsA_cons ?_
        walk_at "go"
        refine eq_intsK (isL (N₆.get (.tail _ g2))) g3 (isL (N₆.get (.head _))) (.cons _ _ hdv₇) hu ?_
        rw [decide_eq_true (by rw [hb]; rfl)]
        exact hQ _ _ F₆.keep
      · lia
/- RSF21 -/

noncomputable abbrev JIn (sl : List UInt8) (sz i : Nat) (m : Str → Option Value) (news : List (Addr × Obj)) (j : Nat) (m' : Str → Option Value) (news' : List (Addr × Obj)) : Prop :=
  (∃ t, m' "whole" = some (.int (iu (xs (fun st => gmul ((bmOut (Sat sl) sl.length).getD ((bmOut (Sat sl) sl.length).length - 1 - st) 0) (Sat sl (sz + i - st))) j)) t)) ∧ (∃ t, m' "place" = some (.int ((sz : Int) + i) t)) ∧
          (∀ y : Str, y ≠ "place" → y ≠ "whole" → y ≠ "step" → m' y = m y) ∧ news' = news
noncomputable abbrev JOut (m : Str → Option Value) (news : List (Addr × Obj)) (_ : Nat) (m' : Str → Option Value) (news' : List (Addr × Obj)) : Prop := (∀ y : Str, y ≠ "place" → y ≠ "whole" → y ≠ "step" → m' y = m y) ∧ news' = news
theorem lawD3 {w : World} {A : Around} {s : Shared} {mg : Str → Option Value} {a aSu aP aL L : Addr} {h₀ : Heap} {cdv : Value} {m : Str → Option Value} {svs ps ls : List Value} {cs cp cl : Nat} {sl : List UInt8} {cv : Int} {tc tz : Tok} {sz : Nat} {Q : Flow → Shared → Prop} {news : List (Addr × Obj)}
    (hroom : A.depth + 10 < recursionLimit) (hh : A.handled = none) (X : LawFns mg h₀)
    (F : Fr h₀ L s.heap m) (N : Led h₀ L s.heap news) (Y : LK sl cv tc aSu aP aL svs ps ls cs cp cl m news) (ips : IntsAre ps (powL.map iu)) (ils : IntsAre ls (logTab.map iu)) (hsv : IntsAre svs (sl.map iu)) (hn : sl.length ≤ 7) (hcv : cv = (sl.length : Int))
    (z : m "size" = some (.int (sz : Int) tz)) (hsz : sz ≤ sl.length) (M : PlainLaw sl sz) (hc : sl.length < 2 * sz)
    (hQ : ∀ h' tk, h₀.StaysIn h' → Q (.ret (.bool true)) { s with heap := h', toks := tk }) :
    wpC (model P w) (A.deeper (envOfC (nameAt 17) (scopeAt 17) L a cdv)) (execs ((bodyAt 17).drop 11) (envOfC (nameAt 17) (scopeAt 17) L a cdv)) Q (fun _ _ => False) s := by
  have G := X.g
  have GG := G.glo
  have mR := G.range
  have mL := G.len
  obtain ⟨a14, m14, f14⟩ := X.f14
  obtain ⟨y1, y2, y3, y4, y5, y6, y7, y8⟩ := id Y
  have hsl := ints_len hsv
  rw [List.length_map] at hsl
  obtain ⟨he1, he2, he3⟩ := M.ends
  refine execsC_cons (ifA ?_)
  walk_at "go"
  rw [if_neg (by simp; lia)]
  refine execsC_nil ?_
  dsimp only
  rcases y8 with ⟨hcc, ag, gvs, gc, g1, g2, g3⟩ | ⟨hcc, g1⟩
  · have hgl := ints_len g3
    rw [List.length_map] at hgl
    refine execsA_cons ?_
    walk_at "go"
    obtain ⟨tl, hl⟩ := ints_at g3 (j := (bmOut (Sat sl) sl.length).length - 1) (by lia)
    rw [he2] at hl
    obtain ⟨t0, h0⟩ := ints_at g3 (j := 0) (by lia)
    refine execsA_cons ?_
    walk_at "go"
    refine subLneg ((bmOut (Sat sl) sl.length).length - 1) (N.get g2) (by lia) (by lia) hl (by with_unfolding_all rfl) ?_
    walk_at "go"
    rw [if_neg (by decide)]
    walk_at "go"
    refine subL 0 (N.get g2) rfl (by lia) h0 (by with_unfolding_all rfl) ?_
    walk_at "go"
    rw [iu_eq0, if_neg (by simpa using he3)]
    walk_at "go"
    refine lenL ((bmOut (Sat sl) sl.length).length : Int) (N.get g2) (by lia) (by lia) ?_
    walk_at "go"
    rw [if_neg (by simp; lia)]
    walk_at "go"
    refine execsC_cons (forRange (h₀ := h₀) ?_ hh (by kernel_rfl!) (by kernel_rfl!))
    walk_at "go"
    refine call_range_2 ?_
    refine ⟨_, (sz : Int), cv, _, _, _, sl.length - sz, _, _, JOut m news,
      rfl, Heap.get?_push_size _ rfl, by lia, by lia, Fr.stays F (stays_push _ _), Led.stays N (stays_push _ _), ⟨fun _ _ _ _ => rfl, rfl⟩, ?_, ?_⟩
    · rintro i t m₁ news₁ I h₂ tk₂ hi ⟨yr, rfl⟩ F₂ N₂
      have zr : ∀ y : Str, y ≠ "place" → y ≠ "whole" → y ≠ "step" → (if y = "place" then some (Value.int ((sz : Int) + i) t) else m₁ y) = m y := fun y h1 h2 h3 => by rw [if_neg h1]; exact yr y h1 h2 h3
      have z1 : m₁ "given" = some (.ref ag) := (yr _ (by decide) (by decide) (by decide)).trans g1
      have z2 : m₁ "sums" = some (.ref aSu) := (yr _ (by decide) (by decide) (by decide)).trans y1
      have z3 : m₁ "powers" = some (.ref aP) := (yr _ (by decide) (by decide) (by decide)).trans y3
      have z4 : m₁ "logs" = some (.ref aL) := (yr _ (by decide) (by decide) (by decide)).trans y4
      refine execsA_cons ?_
      walk_at "go"
      rename_i h₃ F₃ N₃
      refine execsC_cons (forRange (h₀ := h₀) ?_ hh (by kernel_rfl!) (by kernel_rfl!))
      walk_at "go"
      refine lenL ((bmOut (Sat sl) sl.length).length : Int) (N₃.get (.tail _ g2)) (by lia) (by lia) ?_
      walk_at "go"
      refine call_range_1 ?_
      have hbig := M.big hc hcc (sz + i) (by lia) (by lia)
      refine ⟨_, 0, ((bmOut (Sat sl) sl.length).length : Int), _, _, _, (bmOut (Sat sl) sl.length).length, _, _, JIn sl sz i m ((I, rIt ((sz : Int) + i + 1) (((sl.length - sz : Nat) : Int) - i - 1)) :: news₁),
        rfl, Heap.get?_push_size _ rfl, by lia, by lia, Fr.stays F₃ (stays_push _ _), Led.stays N₃ (stays_push _ _), ⟨⟨_, rfl⟩, ⟨_, rfl⟩, fun y h1 h2 h3 => ?_, rfl⟩, ?_, ?_⟩
      · dsimp only
        rw [if_neg h2, if_neg h1]
        exact yr y h1 h2 h3
      · rintro j t4 m₂ news₂ I' h₄ tk₄ hj ⟨⟨tw, w1⟩, ⟨tp, w2⟩, wr, rfl⟩ F₄ N₄
        have z1' : m₂ "given" = some (.ref ag) := (wr _ (by decide) (by decide) (by decide)).trans g1
        have z2' : m₂ "sums" = some (.ref aSu) := (wr _ (by decide) (by decide) (by decide)).trans y1
        have z3' : m₂ "powers" = some (.ref aP) := (wr _ (by decide) (by decide) (by decide)).trans y3
        have z4' : m₂ "logs" = some (.ref aL) := (wr _ (by decide) (by decide) (by decide)).trans y4
        refine execsA_cons ?_
        walk_at "go"
        refine callFn f14 ?_
        walk_at "go"
        obtain ⟨ta, ha⟩ := ints_at g3 (j := (bmOut (Sat sl) sl.length).length - 1 - j) (by lia)
        refine subLneg ((bmOut (Sat sl) sl.length).length - 1 - j) (N₄.get (.tail _ (.tail _ g2))) (by lia) (by lia) ha (by with_unfolding_all rfl) ?_
        walk_at "go"
        obtain ⟨tb, hb⟩ := ints_at hsv (j := sz + i - j) (by lia)
        refine subL (sz + i - j) (N₄.get (.tail _ (.tail _ y5))) (by lia) (by lia) hb (by with_unfolding_all rfl) ?_
        walk_at "go"
        refine ⟨F₄.keep, product_spec (by show A.depth + 1 < _; lia) (f14.keeps F₄.keep) (GG.keeps F₄.keep) ⟨⟨ps, cp, N₄.get (.tail _ (.tail _ y6)), ips⟩, ⟨ls, cl, N₄.get (.tail _ (.tail _ y7)), ils⟩⟩ fun t' h₅ tk₅ k₅ => ?_⟩
        have F₅ := Fr.stays F₄ k₅
        have N₅ := Led.stays N₄ k₅
        walk_at "go"
        rename_i h₆ F₆ N₆
        rw [iu_xor] at F₆
        refine execsC_nil ⟨_, _, _, _, rfl, F₆, N₆, ⟨_, rfl⟩, ⟨_, w2⟩, fun y h1 h2 h3 => ?_, rfl⟩
        dsimp only
        rw [if_neg h2, if_neg h3]
        exact wr y h1 h2 h3
      · rintro h₄ tk₄ m₂ news₂ ⟨⟨tw, w1⟩, ⟨tp, w2⟩, wr, rfl⟩ F₄ N₄
        rw [hbig] at w1
        refine execsA_cons ?_
        walk_at "go"
        rw [if_neg (by decide)]
        walk_at "go"
        exact execsC_nil ⟨_, _, _, _, rfl, F₄, N₄, wr, rfl⟩
    · rintro h₂ tk₂ m₁ news₁ ⟨yr, rfl⟩ F₂ N₂
      refine execsA_cons ?_
      walk_at "go"
      exact hQ _ _ F₂.keep
  · refine execsA_cons ?_
    walk_at "go"
    exact hQ _ _ F.keep
/- RSM3 -/
/-! Berlekamp and Massey's steps answer as they should -/
noncomputable def cf (l : List UInt8) (k : Nat) : UInt8 := l.reverse.getD k 0
noncomputable def dv (S : Nat → UInt8) (l : List UInt8) (p : Nat) : UInt8 := xs (fun k => gmul (cf l k) (S (p - k))) l.length
theorem getD_beyond {l : List UInt8} {k : Nat} (h : l.length ≤ k) : l.getD k 0 = 0 := by
  rw [List.getD_eq_getElem?_getD, List.getElem?_eq_none h]; rfl
theorem cf_beyond {l : List UInt8} {k : Nat} (h : l.length ≤ k) : cf l k = 0 := getD_beyond (by simpa using h)
theorem cf_get {l : List UInt8} {k : Nat} (h : k < l.length) : cf l k = l.getD (l.length - 1 - k) 0 := by
  unfold cf
  rw [List.getD_eq_getElem?_getD, List.getD_eq_getElem?_getD, List.getElem?_reverse h]
theorem dv_ext (S : Nat → UInt8) {l : List UInt8} {N p : Nat} (h : l.length ≤ N) : xs (fun k => gmul (cf l k) (S (p - k))) N = dv S l p :=
  xs_more h fun k h1 _ => by rw [cf_beyond h1, gmul_zero_left]
theorem cf_app0 (l : List UInt8) (k : Nat) : cf (l ++ [0]) (k + 1) = cf l k := by unfold cf; simp
theorem cf_app00 (l : List UInt8) : cf (l ++ [0]) 0 = 0 := by unfold cf; simp
theorem dv_app0 (S : Nat → UInt8) (l : List UInt8) (p : Nat) : dv S (l ++ [0]) (p + 1) = dv S l p := by
  unfold dv
  rw [List.length_append, List.length_singleton, xs_first, cf_app00, gmul_zero_left, zerox]
  refine xs_congr fun k _ => ?_
  rw [cf_app0, Nat.succ_sub_succ]
theorem getD_map0 {f : UInt8 → UInt8} (hf : f 0 = 0) (l : List UInt8) (k : Nat) : (l.map f).getD k 0 = f (l.getD k 0) := by
  rw [List.getD_eq_getElem?_getD, List.getD_eq_getElem?_getD, List.getElem?_map]
  cases l[k]? with
  | none => exact hf.symm
  | some u => rfl
theorem cf_map (l : List UInt8) (d : UInt8) (k : Nat) : cf (l.map (gmul · d)) k = gmul (cf l k) d := by
  unfold cf
  rw [← List.map_reverse, getD_map0 (f := (gmul · d)) (gmul_zero_left d)]
theorem dv_map (S : Nat → UInt8) (l : List UInt8) (d : UInt8) (p : Nat) : dv S (l.map (gmul · d)) p = gmul d (dv S l p) := by
  unfold dv
  rw [List.length_map, ← xs_mul]
  refine xs_congr fun k _ => ?_
  rw [cf_map, gmul_comm (cf l k) d, gmul_assoc]
theorem padL_len {N : Nat} {l : List UInt8} (h : l.length ≤ N) : (padL N l).length = N := by unfold padL; simp; lia
theorem padL_rev (N : Nat) (l : List UInt8) (t : Nat) : (padL N l).reverse.getD t 0 = cf l t := by
  unfold padL cf
  rw [List.reverse_append, List.reverse_replicate, List.getD_eq_getElem?_getD, List.getElem?_append, List.getD_eq_getElem?_getD]
  split
  · rfl
  · rename_i h
    rw [List.getElem?_eq_none (l := l.reverse) (by lia)]
    rw [List.getElem?_replicate]
    split <;> rfl
theorem cf_padd (l k : List UInt8) {t : Nat} (ht : t < max l.length k.length) : cf (padd l k) t = cf l t ^^^ cf k t := by
  have hlen : (padd l k).length = max l.length k.length := padd_len l k
  rw [cf_get (by rw [hlen]; exact ht), hlen, ← padL_rev (max l.length k.length) l t, ← padL_rev (max l.length k.length) k t]
  generalize hN : max l.length k.length = N at *
  have h1 : (padL N l).length = N := padL_len (by lia)
  have h2 : (padL N k).length = N := padL_len (by lia)
  have key : ∀ {q : List UInt8}, q.length = N → q.reverse.getD t 0 = q.getD (N - 1 - t) 0 := fun {q} hq => by
    rw [List.getD_eq_getElem?_getD, List.getD_eq_getElem?_getD, List.getElem?_reverse (by lia), hq]
  rw [key h1, key h2]
  have hlt : N - 1 - t < N := by lia
  unfold padd
  rw [hN, List.getD_eq_getElem?_getD, List.getElem?_map, List.getElem?_range hlt]
  rfl
theorem dv_padd (S : Nat → UInt8) (l k : List UInt8) (p : Nat) : dv S (padd l k) p = dv S l p ^^^ dv S k p := by
  rw [← dv_ext S (l := l) (N := max l.length k.length) (by lia), ← dv_ext S (l := k) (N := max l.length k.length) (by lia), ← xs_xor]
  unfold dv
  rw [padd_len]
  refine xs_congr fun t ht => ?_
  rw [cf_padd l k ht, xor_gmul]
theorem dsum_xs (S : Nat → UInt8) (i : Nat) (err : List UInt8) : ∀ j, dsum S i err j = S i ^^^ xs (fun t => gmul (err.getD (err.length - 2 - t) 0) (S (i - (t + 1)))) j
  | 0 => by show S i = S i ^^^ 0; rw [xzero]
  | j + 1 => by
    show dsum S i err j ^^^ _ = S i ^^^ (xs _ j ^^^ _)
    rw [dsum_xs S i err j, UInt8.xor_assoc]
theorem delta_dv (S : Nat → UInt8) (i : Nat) {err : List UInt8} (h1 : 1 ≤ err.length) (h : cf err 0 = 1) : delta S i err = dv S err i := by
  unfold delta dv
  rw [dsum_xs]
  obtain ⟨n, hn⟩ : ∃ n, err.length = n + 1 := ⟨err.length - 1, by lia⟩
  rw [hn, xs_first, h, gmul_one, Nat.sub_zero]
  congr 1
  refine xs_congr fun t ht => ?_
  have : t < n := by lia
  rw [cf_get (by lia), hn, show n + 1 - 1 - (t + 1) = n + 1 - 2 - t by lia]

structure BInv (S : Nat → UInt8) (i : Nat) (p : List UInt8 × List UInt8) : Prop where
  l1 : 1 ≤ p.1.length
  l2 : 1 ≤ p.2.length
  len : p.1.length + p.2.length = i + 2
  one : cf p.1 0 = 1
  gen : ∀ q, p.1.length - 1 ≤ q → q < i → dv S p.1 q = 0
  ph : (p.1 = [1] ∧ p.2 = 1 :: List.replicate i 0 ∧ ∀ q, q < i → S q = 0) ∨
    (2 ≤ p.1.length ∧ 1 ≤ i ∧ (∀ q, p.2.length - 1 ≤ q → q + 1 < i → dv S p.2 q = 0) ∧ dv S p.2 (i - 1) = 1)
theorem dv_one (S : Nat → UInt8) (p : Nat) : dv S [1] p = S p := by
  show (0 : UInt8) ^^^ gmul 1 (S (p - 0)) = S p
  rw [zerox, gmul_one]; rfl
theorem cf_one : cf [1] 0 = 1 := rfl
theorem cf_head (l : List UInt8) (k : List UInt8) (h : 1 ≤ max l.length k.length) : cf (padd l k) 0 = cf l 0 ^^^ cf k 0 := cf_padd l k h
theorem bmStep_inv {S : Nat → UInt8} {i : Nat} {p : List UInt8 × List UInt8} (I : BInv S i p) : BInv S (i + 1) (bmStep S i p) := by
  obtain ⟨err, old⟩ := p
  obtain ⟨l1, l2, len, one, gen, ph⟩ := I
  dsimp only at l1 l2 len one gen ph
  have hd := delta_dv S i l1 one
  have hlo : (old ++ [0]).length = old.length + 1 := by simp
  unfold bmStep
  dsimp only
  by_cases h0 : delta S i err = 0
  · rw [if_pos h0]
    rw [hd] at h0
    refine ⟨l1, by simp, by simp; lia, one, fun q h1 h2 => ?_, ?_⟩
    · dsimp only at h1 ⊢
      rcases Nat.lt_or_ge q i with h | h
      · exact gen q h1 h
      · rw [show q = i by lia]; exact h0
    · dsimp only
      rcases ph with ⟨rfl, rfl, hz⟩ | ⟨k1, k2, k3, k4⟩
      · refine .inl ⟨rfl, ?_, fun q hq => ?_⟩
        · rw [List.cons_append, List.replicate_succ']
        · rcases Nat.lt_or_ge q i with h | h
          · exact hz q h
          · rw [show q = i by lia, ← dv_one S i]; exact h0
      · refine .inr ⟨k1, by lia, fun q h1 h2 => ?_, ?_⟩
        · rw [hlo] at h1
          obtain ⟨q', rfl⟩ : ∃ q', q = q' + 1 := ⟨q - 1, by lia⟩
          rw [dv_app0]; exact k3 q' (by lia) (by lia)
        · obtain ⟨i', rfl⟩ : ∃ i', i = i' + 1 := ⟨i - 1, by lia⟩
          rw [show i' + 1 + 1 - 1 = i' + 1 by lia, dv_app0]; exact k4
  · rw [if_neg h0]
    have hgg : ∀ q, dv S ((err.map (gmul · (ginv (delta S i err)))).map (gmul · (delta S i err))) q = dv S err q := fun q => by
      rw [dv_map, dv_map, ← gmul_assoc, gmul_ginv h0, gmul_one]
    have hcc : cf ((err.map (gmul · (ginv (delta S i err)))).map (gmul · (delta S i err))) 0 = 1 := by
      rw [cf_map, cf_map, gmul_assoc, ginv_gmul h0, gmul_one', one]
    by_cases hsw : err.length < (old ++ [0]).length
    · rw [if_pos hsw]
      rw [hlo] at hsw
      have hl : (padd ((old ++ [0]).map (gmul · (delta S i err))) ((err.map (gmul · (ginv (delta S i err)))).map (gmul · (delta S i err)))).length = old.length + 1 := by
        rw [padd_len]; simp; lia
      have hdv : ∀ q, dv S (padd ((old ++ [0]).map (gmul · (delta S i err))) ((err.map (gmul · (ginv (delta S i err)))).map (gmul · (delta S i err)))) q = gmul (delta S i err) (dv S (old ++ [0]) q) ^^^ dv S err q := fun q => by
        rw [dv_padd, dv_map, hgg]
      refine ⟨by dsimp only; lia, by dsimp only; rw [List.length_map]; exact l1, by dsimp only; rw [hl, List.length_map]; lia, ?_, fun q h1 h2 => ?_, ?_⟩
      · dsimp only
        rw [cf_head _ _ (by simp; lia), cf_map, cf_app00, gmul_zero_left, zerox, hcc]
      · dsimp only at h1 ⊢
        rw [hl] at h1
        rw [hdv]
        rcases ph with ⟨rfl, rfl, hz⟩ | ⟨k1, k2, k3, k4⟩
        · simp only [List.length_cons, List.length_replicate] at h1; lia
        · obtain ⟨q', rfl⟩ : ∃ q', q = q' + 1 := ⟨q - 1, by lia⟩
          rw [dv_app0]
          rcases Nat.lt_or_ge (q' + 1) i with h | h
          · rw [k3 q' (by lia) h, gmul_zero_right, gen (q' + 1) (by lia) h]; rfl
          · have e : q' + 1 = i := by lia
            rw [e, ← hd, show q' = i - 1 by lia, k4, gmul_one', xself]
      · dsimp only
        refine .inr ⟨by lia, by lia, fun q h1 h2 => ?_, ?_⟩
        · rw [List.length_map] at h1
          rw [dv_map, gen q h1 (by lia), gmul_zero_right]
        · rw [Nat.add_sub_cancel, dv_map, ← hd, ginv_gmul h0]
    · rw [if_neg hsw]
      rw [hlo] at hsw
      have hl : (padd err ((old ++ [0]).map (gmul · (delta S i err)))).length = err.length := by rw [padd_len]; simp; lia
      rcases ph with ⟨rfl, rfl, hz⟩ | ⟨k1, k2, k3, k4⟩
      · simp at hsw
      · refine ⟨by dsimp only; lia, by simp, by dsimp only; rw [hl, hlo]; lia, ?_, fun q h1 h2 => ?_, .inr ⟨by dsimp only; lia, by lia, fun q h1 h2 => ?_, ?_⟩⟩
        · dsimp only
          rw [cf_head _ _ (by lia), cf_map, cf_app00, gmul_zero_left, xzero, one]
        · dsimp only at h1 ⊢
          rw [hl] at h1
          obtain ⟨q', rfl⟩ : ∃ q', q = q' + 1 := ⟨q - 1, by lia⟩
          rw [dv_padd, dv_map, dv_app0]
          rcases Nat.lt_or_ge (q' + 1) i with h | h
          · rw [k3 q' (by lia) h, gmul_zero_right, gen (q' + 1) (by lia) h]; rfl
          · have e : q' + 1 = i := by lia
            rw [e, ← hd, show q' = i - 1 by lia, k4, gmul_one', xself]
        · dsimp only at h1 ⊢
          rw [hlo] at h1
          obtain ⟨q', rfl⟩ : ∃ q', q = q' + 1 := ⟨q - 1, by lia⟩
          rw [dv_app0]; exact k3 q' (by lia) (by lia)
        · dsimp only
          obtain ⟨i', rfl⟩ : ∃ i', i = i' + 1 := ⟨i - 1, by lia⟩
          rw [show i' + 1 + 1 - 1 = i' + 1 by lia, dv_app0]; exact k4
theorem bm_inv (S : Nat → UInt8) : ∀ i, BInv S i (bm S i)
  | 0 => ⟨Nat.le_refl _, Nat.le_refl _, rfl, rfl, fun q _ h => absurd h (Nat.not_lt_zero _), .inl ⟨rfl, rfl, fun q h => absurd h (Nat.not_lt_zero _)⟩⟩
  | i + 1 => bmStep_inv (bm_inv S i)
theorem dsc_dv (S : Nat → UInt8) {l : List UInt8} (h : 1 ≤ l.length) (p : Nat) : dsc S (cf l) (l.length - 1) p = dv S l p := by
  unfold dsc dv
  rw [show l.length - 1 + 1 = l.length by lia]
theorem bm_gen (S : Nat → UInt8) (i : Nat) : Gen S (cf (bm S i).1) ((bm S i).1.length - 1) i :=
  ⟨(bm_inv S i).one, fun p h1 h2 => by rw [dsc_dv S (bm_inv S i).l1]; exact (bm_inv S i).gen p h1 h2⟩
theorem bm_min (S : Nat → UInt8) : ∀ (i : Nat) (c : Nat → UInt8) (M : Nat), Gen S c M i → (bm S i).1.length - 1 ≤ M
  | 0, _, _, _ => Nat.zero_le _
  | i + 1, c, M, h => by
    have ih := bm_min S i c M (h.less (Nat.le_succ i))
    have I := bm_inv S i
    have hd := delta_dv S i I.l1 I.one
    show (bmStep S i (bm S i)).1.length - 1 ≤ M
    unfold bmStep
    dsimp only
    by_cases h0 : delta S i (bm S i).1 = 0
    · rw [if_pos h0]; exact ih
    · rw [if_neg h0]
      by_cases hsw : (bm S i).1.length < ((bm S i).2 ++ [0]).length
      · rw [if_pos hsw]
        dsimp only
        rw [padd_len]
        simp only [List.length_map, List.length_append, List.length_singleton] at hsw ⊢
        have := massey (bm_gen S i) (by rw [dsc_dv S I.l1, ← hd]; exact h0) h
        have := I.len
        have := I.l1
        lia
      · rw [if_neg hsw]
        dsimp only
        rw [padd_len]
        simp only [List.length_map, List.length_append, List.length_singleton] at hsw ⊢
        lia
theorem drop_zeros : ∀ (l : List UInt8), ∃ z, l = List.replicate z 0 ++ l.dropWhile (· == 0)
  | [] => ⟨0, rfl⟩
  | u :: l => by
    by_cases h : u = 0
    · obtain ⟨z, e⟩ := drop_zeros l
      refine ⟨z + 1, ?_⟩
      rw [List.dropWhile_cons_of_pos (by simp [h]), List.replicate_succ, List.cons_append, ← e, h]
    · exact ⟨0, by rw [List.dropWhile_cons_of_neg (by simp [h])]; rfl⟩
theorem drop_head : ∀ (l : List UInt8), l.dropWhile (· == 0) ≠ [] → (l.dropWhile (· == 0)).getD 0 0 ≠ 0
  | [], h => absurd rfl h
  | u :: l, h => by
    by_cases hu : u = 0
    · rw [List.dropWhile_cons_of_pos (by simp [hu])] at h ⊢; exact drop_head l h
    · rw [List.dropWhile_cons_of_neg (by simp [hu])]; simpa using hu
theorem cf_zeros (z : Nat) (b : List UInt8) (k : Nat) : cf (List.replicate z 0 ++ b) k = cf b k := by
  unfold cf
  rw [List.reverse_append, List.reverse_replicate, List.getD_eq_getElem?_getD, List.getElem?_append, List.getD_eq_getElem?_getD]
  split
  · rfl
  · rename_i h
    rw [List.getElem?_eq_none (l := b.reverse) (by lia), List.getElem?_replicate]
    split <;> rfl
theorem out_cf (S : Nat → UInt8) (n k : Nat) : cf (bmOut S n) k = cf (bm S n).1 k := by
  obtain ⟨z, e⟩ := drop_zeros (bm S n).1
  unfold bmOut
  conv => rhs; rw [e]
  rw [cf_zeros]
theorem out_len (S : Nat → UInt8) (n : Nat) : 1 ≤ (bmOut S n).length ∧ (bmOut S n).length ≤ (bm S n).1.length := by
  constructor
  · rcases Nat.eq_zero_or_pos (bmOut S n).length with h | h
    · have h1 := (bm_inv S n).one
      rw [← out_cf, cf_beyond (by lia)] at h1
      exact absurd h1 (by decide)
    · exact h
  · exact (List.dropWhile_sublist _).length_le
theorem out_ends (S : Nat → UInt8) (n : Nat) : (bmOut S n).getD ((bmOut S n).length - 1) 0 = 1 ∧ (bmOut S n).getD 0 0 ≠ 0 := by
  obtain ⟨h1, h2⟩ := out_len S n
  constructor
  · have := cf_get (l := bmOut S n) (k := 0) (by lia)
    rw [Nat.sub_zero, out_cf, (bm_inv S n).one] at this
    exact this.symm
  · exact drop_head _ (fun e => by have : (bmOut S n) = [] := e; rw [this] at h1; exact absurd h1 (by decide))
theorem out_dv (S : Nat → UInt8) (n p : Nat) : dv S (bmOut S n) p = dv S (bm S n).1 p := by
  rw [← dv_ext S (out_len S n).2]
  unfold dv
  exact xs_congr fun k _ => by rw [out_cf]
/- RSM4 -/
/-! solving the equations by columns answers as it should -/
noncomputable def en (rws : List (List UInt8)) (k j : Nat) : UInt8 := (rws.getD k []).getD j 0
theorem rgetD_set (rws : List (List UInt8)) (r k : Nat) (v : List UInt8) (hk : k < rws.length) : (rws.set r v).getD k [] = if r = k then v else rws.getD k [] := by
  rw [List.getD_eq_getElem?_getD, List.getD_eq_getElem?_getD, List.getElem?_set]
  by_cases h : r = k
  · subst h; rw [if_pos rfl, if_pos rfl, if_pos hk]; rfl
  · rw [if_neg h, if_neg h]
theorem zip_getD {f : UInt8 → UInt8 → UInt8} {a b : List UInt8} {j : Nat} (ha : j < a.length) (hb : j < b.length) : (List.zipWith f a b).getD j 0 = f (a.getD j 0) (b.getD j 0) := by
  rw [List.getD_eq_getElem?_getD, List.getElem?_zipWith, List.getD_eq_getElem?_getD, List.getD_eq_getElem?_getD, List.getElem?_eq_getElem ha, List.getElem?_eq_getElem hb]
  rfl
/-- the row's value under x: nought where x solves it -/
noncomputable def val (sz : Nat) (x : Nat → UInt8) (g : Nat → UInt8) : UInt8 := xs (fun j => gmul (g j) (x j)) sz ^^^ g sz
theorem val_congr {sz : Nat} {x f g : Nat → UInt8} (h : ∀ j, j ≤ sz → f j = g j) : val sz x f = val sz x g := by
  unfold val
  rw [h sz (Nat.le_refl _), xs_congr fun j hj => by rw [h j (Nat.le_of_lt hj)]]
theorem val_xor (sz : Nat) (x f g : Nat → UInt8) : val sz x (fun j => f j ^^^ g j) = val sz x f ^^^ val sz x g := by
  unfold val
  rw [xs_congr (g := fun j => gmul (f j) (x j) ^^^ gmul (g j) (x j)) fun j _ => xor_gmul .., xs_xor, xac]
theorem val_mul (sz : Nat) (x g : Nat → UInt8) (c : UInt8) : val sz x (fun j => gmul c (g j)) = gmul c (val sz x g) := by
  unfold val
  rw [xs_congr (g := fun j => gmul c (gmul (g j) (x j))) fun j _ => gmul_assoc .., xs_mul, gmul_xor]
noncomputable def Sol (sz : Nat) (rws : List (List UInt8)) (x : Nat → UInt8) : Prop := ∀ k, k < rws.length → val sz x (en rws k) = 0

section
variable {rws : List (List UInt8)} {heads : List Nat} {col sz r : Nat} {rest : List Nat}
/-- the lead row's items -/
noncomputable def ldv (rws : List (List UInt8)) (r col j : Nat) : UInt8 := gmul (en rws r j) (ginv (en rws r col))
noncomputable def r2 (rws : List (List UInt8)) (heads : List Nat) (r col k j : Nat) : UInt8 := if k = heads.length then ldv rws r col j else if k = r then en rws heads.length j else en rws k j
theorem col_en (hf : fnd rws heads.length col = r :: rest) (hl : ∀ q ∈ rws, q.length = sz + 1) (hcs : col < sz) {k j : Nat} (hk : k < rws.length) (hj : j ≤ sz) :
    en (colStep col (rws, heads)).1 k j = if k = heads.length then ldv rws r col j else r2 rws heads r col k j ^^^ gmul (r2 rws heads r col k col) (ldv rws r col j) := by
  obtain ⟨hr1, hr2, hr3⟩ := fnd_lt (hf ▸ List.Mem.head _ : r ∈ fnd rws heads.length col)
  unfold colStep
  dsimp only
  rw [hf]
  dsimp only
  generalize hlead : (rws.getD r []).map (gmul · (ginv ((rws.getD r []).getD col 0))) = lead
  have hll : lead.length = sz + 1 := by rw [← hlead, List.length_map]; exact hl _ (rmem hr2)
  have hlg : ∀ j, lead.getD j 0 = ldv rws r col j := fun j => by
    rw [← hlead, getD_map0 (f := (gmul · (ginv ((rws.getD r []).getD col 0)))) (gmul_zero_left _)]; rfl
  generalize hrw : (rws.set r (rws.getD heads.length [])).set heads.length lead = rows2
  have hlen : rows2.length = rws.length := by rw [← hrw]; simp
  have hg2 : ∀ k, k < rws.length → rows2.getD k [] = if heads.length = k then lead else if r = k then rws.getD heads.length [] else rws.getD k [] := fun k hk => by
    rw [← hrw, rgetD_set _ _ _ _ (by simpa using hk), rgetD_set _ _ _ _ hk]
  have hrl : ∀ k, k < rws.length → (rows2.getD k []).length = sz + 1 := fun k hk => by
    rw [hg2 k hk]
    split
    · exact hll
    · split
      · exact hl _ (rmem (by lia))
      · exact hl _ (rmem hk)
  have he2 : ∀ k j, k < rws.length → en rows2 k j = r2 rws heads r col k j := fun k j hk => by
    unfold en r2
    rw [hg2 k hk]
    by_cases h1 : k = heads.length
    · rw [if_pos h1, if_pos h1.symm]; exact hlg j
    · rw [if_neg h1, if_neg (Ne.symm h1)]
      by_cases h2 : k = r
      · rw [if_pos h2, if_pos h2.symm]; rfl
      · rw [if_neg h2, if_neg (Ne.symm h2)]; rfl
  have hout : ∀ f : Nat → List UInt8, ((List.range rows2.length).map f).getD k [] = f k := fun f => by
    rw [List.getD_eq_getElem?_getD, List.getElem?_map, List.getElem?_range (by lia)]; rfl
  unfold en
  rw [hout]
  by_cases hkr : k = heads.length
  · rw [if_pos hkr, if_neg (fun h => h.1 hkr)]
    have := he2 k j hk
    unfold en r2 at this
    rw [if_pos hkr] at this
    exact this
  · rw [if_neg hkr]
    have e1 := he2 k j hk
    have e2 := he2 k col hk
    unfold en at e1 e2
    rw [← e1, ← e2]
    by_cases hz : (rows2.getD k []).getD col 0 = 0
    · rw [if_neg (fun h => h.2 hz), hz, gmul_zero_left, xzero]
    · rw [if_pos ⟨hkr, hz⟩, zip_getD (by rw [hrl k hk]; lia) (by rw [hll]; lia), hlg]
theorem ldv_one (h : en rws r col ≠ 0) : ldv rws r col col = 1 := gmul_ginv h
theorem val_ldv (x : Nat → UInt8) : val sz x (ldv rws r col) = gmul (ginv (en rws r col)) (val sz x (en rws r)) := by
  rw [← val_mul]
  exact val_congr fun j _ => gmul_comm _ _
theorem col_len : (colStep col (rws, heads)).1.length = rws.length := by
  unfold colStep
  dsimp only
  split
  · rfl
  · simp
theorem col_sol (hl : ∀ q ∈ rws, q.length = sz + 1) (hcs : col < sz) (x : Nat → UInt8) : Sol sz rws x ↔ Sol sz (colStep col (rws, heads)).1 x := by
  cases hf : fnd rws heads.length col with
  | nil =>
    have : colStep col (rws, heads) = (rws, heads) := by unfold colStep; dsimp only; rw [hf]
    rw [this]
  | cons r rest =>
    obtain ⟨hr1, hr2, hr3⟩ := fnd_lt (hf ▸ List.Mem.head _ : r ∈ fnd rws heads.length col)
    have hpiv : en rws r col ≠ 0 := hr3
    have hvo : ∀ k, k < rws.length → val sz x (en (colStep col (rws, heads)).1 k) = if k = heads.length then val sz x (ldv rws r col) else val sz x (r2 rws heads r col k) ^^^ gmul (r2 rws heads r col k col) (val sz x (ldv rws r col)) := fun k hk => by
      by_cases h : k = heads.length
      · rw [if_pos h]
        exact val_congr fun j hj => by rw [col_en hf hl hcs hk hj, if_pos h]
      · rw [if_neg h, ← val_mul, ← val_xor]
        exact val_congr fun j hj => by rw [col_en hf hl hcs hk hj, if_neg h]
    have hv2 : ∀ k, val sz x (r2 rws heads r col k) = if k = heads.length then val sz x (ldv rws r col) else if k = r then val sz x (en rws heads.length) else val sz x (en rws k) := fun k => by
      by_cases h : k = heads.length
      · rw [if_pos h]; exact val_congr fun j _ => by unfold r2; rw [if_pos h]
      · rw [if_neg h]
        by_cases h' : k = r
        · rw [if_pos h']; exact val_congr fun j _ => by unfold r2; rw [if_neg h, if_pos h']
        · rw [if_neg h']; exact val_congr fun j _ => by unfold r2; rw [if_neg h, if_neg h']
    constructor
    · intro hs k hk
      rw [col_len] at hk
      rw [hvo k hk]
      have hld : val sz x (ldv rws r col) = 0 := by rw [val_ldv, hs r hr2, gmul_zero_right]
      split
      · exact hld
      · rw [hld, gmul_zero_right, xzero, hv2]
        split
        · exact hld
        · split
          · exact hs _ (by lia)
          · exact hs k hk
    · intro hs
      have hld : val sz x (ldv rws r col) = 0 := by
        have := hs heads.length (by rw [col_len]; lia)
        rw [hvo _ (by lia), if_pos rfl] at this
        exact this
      have hr0 : val sz x (en rws r) = 0 := by
        rw [val_ldv] at hld
        rcases Classical.em (val sz x (en rws r) = 0) with h | h
        · exact h
        · refine absurd hld (gmul_ne (fun hz => ?_) h)
          have := gmul_ginv hpiv
          rw [hz, gmul_zero_right] at this
          exact absurd this (by decide)
      have h2 : ∀ k, k < rws.length → k ≠ heads.length → val sz x (r2 rws heads r col k) = 0 := fun k hk hne => by
        have := hs k (by rw [col_len]; exact hk)
        rw [hvo k hk, if_neg hne, hld, gmul_zero_right, xzero] at this
        exact this
      intro k hk
      by_cases h1 : k = r
      · rw [h1]; exact hr0
      by_cases h3 : k = heads.length
      · subst h3
        have := h2 r hr2 (Ne.symm h1)
        rw [hv2, if_neg (Ne.symm h1), if_pos rfl] at this
        exact this
      · have := h2 k hk h3
        rw [hv2, if_neg h3, if_neg h1] at this
        exact this
end
/-- the shape that the columns bring about -/
structure Red (i : Nat) (p : List (List UInt8) × List Nat) : Prop where
  piv : ∀ t u, t < p.2.length → u < p.2.length → en p.1 t (p.2.getD u 0) = if t = u then 1 else 0
  low : ∀ t c, p.2.length ≤ t → t < p.1.length → c < i → en p.1 t c = 0
theorem fnd_nil {rws : List (List UInt8)} {ready col : Nat} (h : fnd rws ready col = []) : ∀ t, ready ≤ t → t < rws.length → en rws t col = 0 := by
  intro t h1 h2
  unfold fnd at h
  rw [List.filter_eq_nil_iff] at h
  have := h t (List.mem_map.mpr ⟨t - ready, List.mem_range.mpr (by lia), by lia⟩)
  simpa [en] using this
theorem col_red {rws : List (List UInt8)} {heads : List Nat} {i sz : Nat} (hl : ∀ q ∈ rws, q.length = sz + 1) (hcs : i < sz) (hh : ∀ c ∈ heads, c < i) (I : Red i (rws, heads)) : Red (i + 1) (colStep i (rws, heads)) := by
  cases hf : fnd rws heads.length i with
  | nil =>
    have : colStep i (rws, heads) = (rws, heads) := by unfold colStep; dsimp only; rw [hf]
    rw [this]
    refine ⟨I.piv, fun t c h1 h2 h3 => ?_⟩
    rcases Nat.lt_succ_iff_lt_or_eq.mp h3 with h | rfl
    · exact I.low t c h1 h2 h
    · exact fnd_nil hf t h1 h2
  | cons r rest =>
    obtain ⟨hr1, hr2, hr3⟩ := fnd_lt (hf ▸ List.Mem.head _ : r ∈ fnd rws heads.length i)
    have hpiv : en rws r i ≠ 0 := hr3
    have hh2 : (colStep i (rws, heads)).2 = heads ++ [i] := by unfold colStep; dsimp only; rw [hf]
    have hlow : ∀ c, c < i → ldv rws r i c = 0 := fun c hc => by
      unfold ldv
      rw [I.low r c hr1 hr2 hc, gmul_zero_left]
    have hgu : ∀ u, u < heads.length → heads.getD u 0 < i := fun u hu => hh _ (by rw [List.getD_eq_getElem?_getD, List.getElem?_eq_getElem hu]; exact List.getElem_mem hu)
    have hga : ∀ u, u < heads.length → (heads ++ [i]).getD u 0 = heads.getD u 0 := fun u hu => by
      rw [List.getD_eq_getElem?_getD, List.getD_eq_getElem?_getD, List.getElem?_append_left hu]
    have hgl : (heads ++ [i]).getD heads.length 0 = i := by
      rw [List.getD_eq_getElem?_getD, List.getElem?_append_right (Nat.le_refl _)]; simp
    have hcol : ∀ k, k < rws.length → k ≠ heads.length → en (colStep i (rws, heads)).1 k i = 0 := fun k hk hne => by
      rw [col_en hf hl hcs hk (Nat.le_of_lt hcs), if_neg hne, ldv_one hpiv, gmul_one', xself]
    have hleft : ∀ k c, k < rws.length → k ≠ heads.length → c < i → en (colStep i (rws, heads)).1 k c = r2 rws heads r i k c := fun k c hk hne hc => by
      rw [col_en hf hl hcs hk (by lia), if_neg hne, hlow c hc, gmul_zero_right, xzero]
    refine ⟨fun t u ht hu => ?_, fun t c h1 h2 h3 => ?_⟩
    · rw [hh2, List.length_append, List.length_singleton] at ht hu
      rw [hh2]
      by_cases htm : t = heads.length
      · subst htm
        rw [show en (colStep i (rws, heads)).1 heads.length ((heads ++ [i]).getD u 0) = ldv rws r i ((heads ++ [i]).getD u 0) by
          rw [col_en hf hl hcs (by lia) ?_, if_pos rfl]
          rcases Nat.lt_succ_iff_lt_or_eq.mp hu with h | h
          · rw [hga u h]; have := hgu u h; lia
          · rw [h, hgl]; lia]
        rcases Nat.lt_succ_iff_lt_or_eq.mp hu with h | h
        · rw [hga u h, hlow _ (hgu u h), if_neg (by lia)]
        · subst h; rw [hgl, ldv_one hpiv, if_pos rfl]
      · have ht' : t < heads.length := by lia
        rcases Nat.lt_succ_iff_lt_or_eq.mp hu with h | h
        · rw [hga u h, hleft t _ (by lia) htm (hgu u h)]
          unfold r2
          rw [if_neg htm, if_neg (by lia)]
          exact I.piv t u ht' h
        · subst h; rw [hgl, hcol t (by lia) htm, if_neg htm]
    · rw [hh2, List.length_append, List.length_singleton] at h1
      rw [col_len] at h2
      rcases Nat.lt_succ_iff_lt_or_eq.mp h3 with h | rfl
      · rw [hleft t c h2 (by lia) h]
        unfold r2
        rw [if_neg (by lia)]
        split
        · exact I.low _ c (Nat.le_refl _) (by show heads.length < rws.length; lia) h
        · exact I.low t c (by show heads.length ≤ t; lia) h2 h
      · exact hcol t h2 (by lia)
theorem cols_red (sl : List UInt8) (sz : Nat) : ∀ i, i ≤ sz → Red i (cols sl sz i) ∧ ∀ x, Sol sz (rows0 sl sz) x ↔ Sol sz (cols sl sz i).1 x
  | 0, _ => ⟨⟨fun t u ht _ => absurd ht (Nat.not_lt_zero _), fun t c _ _ hc => absurd hc (Nat.not_lt_zero _)⟩, fun x => Iff.rfl⟩
  | i + 1, hi => by
    obtain ⟨I, hs⟩ := cols_red sl sz i (by lia)
    obtain ⟨g1, g2, g3, g4⟩ := cols_shape sl sz i
    exact ⟨col_red (rws := (cols sl sz i).1) (heads := (cols sl sz i).2) g2 (by lia) g4 I, fun x => (hs x).trans (col_sol (heads := (cols sl sz i).2) g2 (by lia) x)⟩
/-- the recurrence that x tells -/
noncomputable def rec (x : Nat → UInt8) : Nat → UInt8
  | 0 => 1
  | k + 1 => x k
theorem rows0_en (sl : List UInt8) (sz : Nat) {k : Nat} (hk : k < sl.length - sz) : (∀ j, j < sz → en (rows0 sl sz) k j = Sat sl (sz + k - 1 - j)) ∧ en (rows0 sl sz) k sz = Sat sl (sz + k) := by
  have hrow : (rows0 sl sz).getD k [] = ((List.range sz).map fun st => sl.getD (sz + k - 1 - st) 0) ++ [sl.getD (sz + k) 0] := by
    unfold rows0
    rw [List.getD_eq_getElem?_getD, List.getElem?_map, List.getElem?_range hk]; rfl
  unfold en
  rw [hrow]
  constructor
  · intro j hj
    rw [List.getD_eq_getElem?_getD, List.getElem?_append_left (by simpa using hj), List.getElem?_map, List.getElem?_range hj]; rfl
  · rw [List.getD_eq_getElem?_getD, List.getElem?_append_right (by simp)]; simp
theorem sol_gen (sl : List UInt8) (sz : Nat) (x : Nat → UInt8) : Sol sz (rows0 sl sz) x ↔ Gen (Sat sl) (rec x) sz sl.length := by
  have key : ∀ k, k < sl.length - sz → val sz x (en (rows0 sl sz) k) = dsc (Sat sl) (rec x) sz (sz + k) := fun k hk => by
    obtain ⟨h1, h2⟩ := rows0_en sl sz hk
    unfold val dsc
    rw [xs_first, h2, UInt8.xor_comm]
    show _ = gmul 1 (Sat sl (sz + k - 0)) ^^^ _
    rw [gmul_one, Nat.sub_zero]
    congr 1
    refine xs_congr fun j hj => ?_
    rw [h1 j hj, gmul_comm]
    show gmul (x j) (Sat sl (sz + k - 1 - j)) = gmul (x j) (Sat sl (sz + k - (j + 1)))
    rw [show sz + k - 1 - j = sz + k - (j + 1) by lia]
  constructor
  · intro h
    refine ⟨rfl, fun p h1 h2 => ?_⟩
    have := h (p - sz) (by rw [rows0_len]; lia)
    rw [key _ (by lia), show sz + (p - sz) = p by lia] at this
    exact this
  · intro h k hk
    rw [rows0_len] at hk
    rw [key k hk]
    exact h.2 _ (by lia) (by lia)
theorem rec_of {c : Nat → UInt8} (h : c 0 = 1) : rec (fun k => c (k + 1)) = c := by
  funext k
  cases k with
  | zero => exact h.symm
  | succ k => rfl
theorem gauss_none {sl : List UInt8} {sz : Nat} (h : tapsNone sl sz) (c : Nat → UInt8) : ¬ Gen (Sat sl) c sz sl.length := by
  intro hg
  obtain ⟨I, hs⟩ := cols_red sl sz sz (Nat.le_refl _)
  have := (hs (fun k => c (k + 1))).mp ((sol_gen sl sz _).mpr (by rw [rec_of hg.1]; exact hg))
  obtain ⟨k, hk, hne⟩ := h
  have hv := this ((cols sl sz sz).2.length + k) (by lia)
  unfold val at hv
  rw [xs_none fun j hj => by rw [I.low _ j (by lia) (by lia) hj, gmul_zero_left], zerox] at hv
  exact hne hv
theorem taps_get (rws : List (List UInt8)) (sz : Nat) (heads : List Nat) (hd : ∀ t u, t < heads.length → u < heads.length → heads.getD t 0 = heads.getD u 0 → t = u) (hlt : ∀ t, t < heads.length → heads.getD t 0 < sz) : ∀ i, i ≤ heads.length →
    (∀ t, t < i → (tapsOf rws sz heads i).getD (heads.getD t 0) 0 = (rws.getD t []).getD sz 0) ∧ (∀ c, (∀ t, t < i → heads.getD t 0 ≠ c) → (tapsOf rws sz heads i).getD c 0 = 0)
  | 0, _ => ⟨fun t ht => absurd ht (Nat.not_lt_zero _), fun c _ => by
      show (List.replicate sz (0 : UInt8)).getD c 0 = 0
      rw [List.getD_eq_getElem?_getD, List.getElem?_replicate]
      split <;> rfl⟩
  | i + 1, hi => by
    obtain ⟨h1, h2⟩ := taps_get rws sz heads hd hlt i (by lia)
    have hset : ∀ c, (tapsOf rws sz heads (i + 1)).getD c 0 = if heads.getD i 0 = c then (rws.getD i []).getD sz 0 else (tapsOf rws sz heads i).getD c 0 := fun c => by
      show ((tapsOf rws sz heads i).set (heads.getD i 0) ((rws.getD i []).getD sz 0)).getD c 0 = _
      have hb := hlt i (by lia)
      have hlen := tapsOf_len rws sz heads i
      generalize heads.getD i 0 = hc at hb
      generalize (rws.getD i []).getD sz 0 = v
      generalize tapsOf rws sz heads i = l at hlen
      rw [List.getD_eq_getElem?_getD, List.getElem?_set, List.getD_eq_getElem?_getD]
      by_cases e : hc = c
      · rw [if_pos e, if_pos e, if_pos (by lia)]; rfl
      · rw [if_neg e, if_neg e]
    refine ⟨fun t ht => ?_, fun c hc => ?_⟩
    · rw [hset]
      by_cases e : heads.getD i 0 = heads.getD t 0
      · rw [if_pos e, hd i t (by lia) (by lia) e]
      · rw [if_neg e]
        exact h1 t (by
          rcases Nat.lt_succ_iff_lt_or_eq.mp ht with h | h
          · exact h
          · exact absurd (by rw [h]) e)
    · rw [hset, if_neg (hc i (Nat.lt_succ_self _))]
      exact h2 c fun t ht => hc t (Nat.lt_succ_of_lt ht)
theorem gauss_some {sl : List UInt8} {sz : Nat} (h : ¬ tapsNone sl sz) : Gen (Sat sl) (rec fun k => (tapsAt sl sz).getD k 0) sz sl.length := by
  obtain ⟨I, hs⟩ := cols_red sl sz sz (Nat.le_refl _)
  obtain ⟨g1, g2, g3, g4⟩ := cols_shape sl sz sz
  refine (sol_gen sl sz _).mp ((hs _).mpr ?_)
  have hdist : ∀ t u, t < (cols sl sz sz).2.length → u < (cols sl sz sz).2.length → (cols sl sz sz).2.getD t 0 = (cols sl sz sz).2.getD u 0 → t = u := fun t u ht hu e => by
    have a := I.piv t t ht ht
    have b := I.piv t u ht hu
    rw [← e, a, if_pos rfl] at b
    by_cases h : t = u
    · exact h
    · rw [if_neg h] at b; exact absurd b (by decide)
  have hlt : ∀ t, t < (cols sl sz sz).2.length → (cols sl sz sz).2.getD t 0 < sz := fun t ht => g4 _ (by rw [List.getD_eq_getElem?_getD, List.getElem?_eq_getElem ht]; exact List.getElem_mem ht)
  obtain ⟨t1, t2⟩ := taps_get (cols sl sz sz).1 sz (cols sl sz sz).2 hdist hlt _ (Nat.le_refl _)
  intro k hk
  unfold val
  rcases Nat.lt_or_ge k (cols sl sz sz).2.length with hkm | hkm
  · rw [xs_one (k := (cols sl sz sz).2.getD k 0) (hlt k hkm) fun j hj hne => ?_]
    · rw [I.piv k k hkm hkm, if_pos rfl, gmul_one]
      show (tapsAt sl sz).getD _ 0 ^^^ _ = 0
      unfold tapsAt
      rw [t1 k hkm]
      exact xself _
    · by_cases hex : ∃ u, u < (cols sl sz sz).2.length ∧ (cols sl sz sz).2.getD u 0 = j
      · obtain ⟨u, hu, e⟩ := hex
        rw [← e, I.piv k u hkm hu, if_neg (fun q => hne (by rw [← e, q])), gmul_zero_left]
      · show gmul _ ((tapsAt sl sz).getD j 0) = 0
        unfold tapsAt
        rw [t2 j fun t ht e => hex ⟨t, ht, e⟩, gmul_zero_right]
  · rw [xs_none fun j hj => by rw [I.low k j hkm hk hj, gmul_zero_left], zerox]
    apply Classical.byContradiction
    intro hne
    exact h ⟨k - (cols sl sz sz).2.length, by lia, by rw [show (cols sl sz sz).2.length + (k - (cols sl sz sz).2.length) = k by lia]; exact hne⟩

theorem plain_law {sl : List UInt8} {sz : Nat} (h1 : ∀ j, j < sz → tapsNone sl j) (h2 : ¬ tapsNone sl sz) : PlainLaw sl sz := by
  have hL : (bm (Sat sl) sl.length).1.length - 1 = sz := by
    have a := bm_min (Sat sl) sl.length _ sz (gauss_some h2)
    rcases Nat.lt_or_ge ((bm (Sat sl) sl.length).1.length - 1) sz with h | h
    · exact absurd (bm_gen (Sat sl) sl.length) (gauss_none (h1 _ h) _)
    · lia
  have l1 := (bm_inv (Sat sl) sl.length).l1
  obtain ⟨o1, o2⟩ := out_len (Sat sl) sl.length
  refine ⟨fun hs => ⟨by lia, ?_⟩, ⟨o1, out_ends _ _⟩, fun hb hc place p1 p2 => ?_⟩
  · have hu := unique (bm_gen (Sat sl) sl.length) (by rw [hL]; exact gauss_some h2) (by lia) (fun e M hM => by rw [hL] at hM; exact gauss_none (h1 M hM) e)
    rw [hL] at hu
    have e : (bm (Sat sl) sl.length).1 = (tapsAt sl sz).reverse ++ [1] := by
      apply List.ext_getElem?
      intro j
      have hlen : (bm (Sat sl) sl.length).1.length = sz + 1 := by lia
      have htl := tapsAt_len sl sz
      rcases Nat.lt_or_ge j (sz + 1) with hj | hj
      · have hcf := cf_get (l := (bm (Sat sl) sl.length).1) (k := sz - j) (by lia)
        rw [hlen, show sz + 1 - 1 - (sz - j) = j by lia, hu _ (by lia)] at hcf
        have hbj : (bm (Sat sl) sl.length).1[j]? = some ((bm (Sat sl) sl.length).1.getD j 0) := getD_some (by lia)
        rw [hbj, ← hcf]
        rcases Nat.lt_or_ge j sz with hjs | hjs
        · rw [List.getElem?_append_left (by simp [htl]; exact hjs), List.getElem?_reverse (by lia), htl]
          rw [getD_some (l := tapsAt sl sz) (j := sz - 1 - j) (by lia)]
          obtain ⟨d, hd⟩ : ∃ d, sz - j = d + 1 := ⟨sz - j - 1, by lia⟩
          rw [hd, show sz - 1 - j = d by lia]
          rfl
        · have : j = sz := by lia
          subst this
          rw [List.getElem?_append_right (by simp [htl])]
          simp [htl, rec]
      · rw [List.getElem?_eq_none (by lia), List.getElem?_eq_none (by simp [htl]; lia)]
    unfold bmOut
    rw [e]
  · have := (bm_inv (Sat sl) sl.length).gen place (by lia) p2
    rw [← out_dv] at this
    unfold dv at this
    exact (xs_congr fun st hst => by rw [cf_get hst]).trans this
/- RSF22 -/
theorem law_spec {w : World} {A : Around} {R : Result → Shared → Prop} {s : Shared} {mg : Str → Option Value} {a aS : Addr} {vs : List Value} {c : Nat} {ns : List Int}
    (hroom : A.depth + 10 < recursionLimit) (hg : A.guards = some []) (hh : A.handled = none) (hfr : A.frames = some []) (hun : A.units + 200 < cLine) (X : LawFns mg s.heap) (hf : FnAt s.heap 17 a .none)
    (hS : s.heap.get? aS = some (lsO vs c)) (hvs : IntsAre vs ns) (hlen : ns.length ≤ 63)
    (hR : ∀ h' tk, s.heap.StaysIn h' → R (.ok (.ret (.bool true))) { s with heap := h', toks := tk }) :
    codeC (model P w) A (.call (.ref a) ⟨[.ref aS], []⟩) R s := by
  have hn := nChk_range ns
  have hsl := sumsL_len ns
  refine lawA hroom hh hf X.g hS hvs hlen fun L cdv h₁ tk₁ aSu svs cs m₁ tc F₁ N₁ hsv x1 x2 => ?_
  refine lawC1 (sl := sumsL ns) hroom hg hh hfr X F₁ N₁ hsv x1 x2 (by rw [hsl]) (by lia) fun h₂ tk₂ m₂ news₂ F₂ N₂ hms ⟨ah, hc, x0, hmh⟩ y1 y2 hG => ?_
  refine lawC2 hroom hg hh hfr hun X F₂ N₂ hms hmh hsv x0 y1 y2 (by rw [hsl]) (by lia) hG fun h₃ tk₃ F₃ N₃ => ?_
  refine lawD1 hroom hun hh X F₃ N₃ hms hsv y1 y2 (by lia) hG fun h₄ tk₄ m₄ news₄ aP aL ps ls cp cl sz tz aT tvs tcn F₄ N₄ Y₄ ips ils z1 z2 z3 z4 z5 z6 z7 => ?_
  have M := plain_law z2 z3
  rcases Nat.lt_or_ge (sumsL ns).length (2 * sz) with hb | hb
  · exact lawD3 hroom hh X F₄ N₄ Y₄ ips ils hsv (by lia) (by rw [hsl]) z1 z4 M hb fun h' tk k => hR h' tk k
  · exact lawD2 hun hh X F₄ N₄ Y₄ (by lia) (by rw [hsl]) z1 z4 z5 z6 z7 M hb fun h' tk k => hR h' tk k
/- RSH10 -/
noncomputable abbrev RR : RowW := PySem.Challenge.rw_nc0022_01.row.toRowW
theorem items_int : ∀ {xs : List WData}, WShape.hasItems [] xs .int = true → ∃ ns : List Int, xs = ns.map .int
  | [], _ => ⟨[], rfl⟩
  | x :: xs, h => by
    have h' : (WShape.has [] x .int && WShape.hasItems [] xs .int) = true := h
    obtain ⟨h1, h2⟩ := Bool.and_eq_true_iff.mp h'
    obtain ⟨ns, rfl⟩ := items_int h2
    cases x with
    | int i => exact ⟨i :: ns, rfl⟩
    | _ => exact absurd h1 (by simp [WShape.has, WShape.arms])
theorem args_are {args : List WData} (h : RR.claim.pre args = true) : ∃ ns : List Int, args = [.list (ns.map .int)] ∧ ns.length ≤ 63 := by
  obtain ⟨h1, h2⟩ := pre_splitW h
  obtain ⟨d, r, rfl, hd, hr⟩ := hasAllW_cons (e := .list .int) (es := []) h1
  obtain rfl := hasAllW_nil hr
  cases d with
  | list xs =>
    have hd' : WShape.has [] (.list xs) (.list .int) = true := hd
    have : WShape.hasItems [] xs .int = true := by simpa [WShape.has, WShape.arms] using hd'
    obtain ⟨ns, rfl⟩ := items_int this
    refine ⟨ns, rfl, ?_⟩
    have h3 : (OpenLaw.pre PySem.Challenge.rw_nc0022_01).holds [] { args := [.list (ns.map .int)] } = true := h2
    simp [OpenLaw.pre, PySem.Challenge.rw_nc0022_01, WTm.holds, WTm.value] at h3
    rcases Nat.lt_or_ge 63 ns.length with hlt | hge
    · have e : less? (WData.int 63) (WData.int (ns.length : Int)) = some true := by
        show some (decide ((63 : Int) < (ns.length : Int))) = some true
        rw [decide_eq_true (by omega)]
      rw [e] at h3
      cases h3
    · exact hge
  | _ => exact absurd hd (by simp [WShape.has, WShape.arms])
theorem lay_ints' {R : WRecords} {cl : Str → Option Addr} {Pm : Params} {ord : List DictEntry → List DictEntry} : ∀ (ns : List Int) (s : Shared), ∃ us tk, layAllW R cl Pm ord (ns.map .int) s = some (us, { s with toks := tk }) ∧ IntsAre us ns
  | [], s => ⟨[], s.toks, rfl, .nil⟩
  | n :: ns, s => by
    obtain ⟨us, tk, e, hi⟩ := lay_ints' (R := R) (cl := cl) (Pm := Pm) (ord := ord) ns { s with toks := s.toks + 1 }
    refine ⟨.int n s.toks :: us, tk, ?_, .cons _ _ hi⟩
    rw [List.map_cons]
    simp only [layAllW, layW]
    rw [e]
theorem lay_script {R : WRecords} {cl : Str → Option Addr} {Pm : Params} {ord : List DictEntry → List DictEntry} {ns : List Int} {s s₁ : Shared} {vs : List Value} (h : layAllW R cl Pm ord [.list (ns.map .int)] s = some (vs, s₁)) :
    ∃ us, vs = [.ref s.heap.objs.size] ∧ s₁.heap.get? s.heap.objs.size = some (lsO us 0) ∧ IntsAre us ns := by
  obtain ⟨us, tk, e, hi⟩ := lay_ints' (R := R) (cl := cl) (Pm := Pm) (ord := ord) ns s
  simp only [layAllW, layW] at h
  rw [e] at h
  simp only [Option.some.injEq, Prod.mk.injEq] at h
  obtain ⟨rfl, rfl⟩ := h
  exact ⟨us, rfl, Heap.get?_push_size _ rfl, hi⟩
/- RSH11 -/
noncomputable def puts : List Str := ["law", "_law_answer", "_law_taps", "_law_product", "_law_field", "__name__", "field_charac", "gf_exp", "gf_log"]
theorem fn_but {h h' : Heap} {i : Nat} {a : Addr} {dV : Value} {m : Str → Option Value} (x : FnAt h i a dV) (d12 : dataAt h 12 = some (.fields psM)) (hg : h.Ns mainGlobals m) (k : But h h') : FnAt h' i a dV := by
  obtain ⟨o, pm, cdv, e, d, c, oc, vs, t, rfl, ec, dc, q⟩ := x
  obtain ⟨o12, e12, dd12⟩ := data_get d12
  obtain ⟨o3, es, ep, e3, d3, _⟩ := hg
  refine ⟨o, pm, .ref c, k _ _ (fun z => ?_) (fun z => ?_) e, d, c, oc, vs, t, rfl, k _ _ (fun z => ?_) (fun z => ?_) ec, dc, q⟩
  · rw [z, e12] at e; cases e; rw [dd12] at d; cases d
  · rw [z, e3] at e; cases e; rw [d3] at d; cases d
  · rw [z, e12] at ec; cases ec; rw [dd12] at dc; cases dc; cases q
  · rw [z, e3] at ec; cases ec; rw [d3] at dc; cases dc
theorem FinF.look {w : World} {os : OsState} {mg : Str → Option Value} {s : Shared} (F : FinF w os mg s) : LawFns mg s.heap ∧ ∃ a, mg "law" = some (.ref a) ∧ FnAt s.heap 17 a .none := by
  obtain ⟨sm, aL, aE, t, a13, a14, a15, a16, a17, nm, ps, X, b, hm, hmg, eL, eE, g13, g14, g15, g16, g17⟩ := F.mid
  have base : ∀ x : Str, (puts.all fun y => !(x == y)) = true → mg x = sm.heap.nsMap mainGlobals x := fun x hx => by
    simp only [puts, List.all_cons, List.all_nil, Bool.and_true, Bool.and_eq_true, Bool.not_eq_true'] at hx
    obtain ⟨q1, q2, q3, q4, q5, q6, q7, q8, q9⟩ := hx
    rw [hmg, put_ne q1, put_ne q2, put_ne q3, put_ne q4, put_ne q5, put_ne q6, put_ne q7, put_ne q8, put_ne q9]
  have mE : mg "gf_exp" = some (.ref aE) := by rw [hmg]; rfl
  have mLg : mg "gf_log" = some (.ref aL) := by rw [hmg]; rfl
  have mF : mg "field_charac" = some (.int 255 t) := by rw [hmg]; rfl
  have m13 : mg "_law_field" = some (.ref a13) := by rw [hmg]; rfl
  have m14 : mg "_law_product" = some (.ref a14) := by rw [hmg]; rfl
  have m15 : mg "_law_taps" = some (.ref a15) := by rw [hmg]; rfl
  have m16 : mg "_law_answer" = some (.ref a16) := by rw [hmg]; rfl
  have m17 : mg "law" = some (.ref a17) := by rw [hmg]; rfl
  have fb : ∀ {i : Nat} {a : Addr} {dV : Value}, FnAt sm.heap i a dV → FnAt s.heap i a dV := fun x => fn_but x X.d12 X.top.g b
  have ge : ∀ (a : Addr) (o : Obj), a ≠ 12 → a ≠ mainGlobals → sm.heap.get? a = some o → s.heap.get? a = some o := fun a o h1 h2 e => b a o h1 h2 e
  have glo : Glo mg s.heap := ⟨hm.g, ⟨_, X.top.b.at fun o e => ge _ o (by decide) (by decide) e, X.top.builtins⟩, X.top.nolimit.at fun o e => ge _ o (by decide) (by decide) e⟩
  have G : Gs mg s.heap := ⟨glo, ⟨⟨aE, mE, eE⟩, ⟨aL, mLg, eL⟩, ⟨t, mF⟩⟩, (base _ (by decide +kernel)).trans X.mX, (base _ (by decide +kernel)).trans X.mB,
    (base _ (by decide +kernel)).trans (X.none (by decide +kernel)), (base _ (by decide +kernel)).trans (X.none (by decide +kernel)), (base _ (by decide +kernel)).trans (X.none (by decide +kernel)), (base _ (by decide +kernel)).trans (X.none (by decide +kernel)),
    (base _ (by decide +kernel)).trans (X.none (by decide +kernel)), (base _ (by decide +kernel)).trans (X.none (by decide +kernel)),
    ⟨_, (base _ (by decide +kernel)).trans X.m5, fb X.f5⟩, ⟨_, (base _ (by decide +kernel)).trans X.m6, fb X.f6⟩, ⟨_, (base _ (by decide +kernel)).trans X.m8, fb X.f8⟩, ⟨_, (base _ (by decide +kernel)).trans X.m9, fb X.f9⟩⟩
  have hown : ∃ o, o ∈ ownsOf QC ∧ o.name = "ReedSolomonError" ∧ o.bm = ownBm ∧ o.newId = "Exception.__new__" := by
    refine ⟨(ownsOf QC).head (by decide +kernel), List.head_mem _, by decide +kernel, by decide +kernel, by decide +kernel⟩
  obtain ⟨ow, how, on, ob, oi⟩ := hown
  obtain ⟨C, O, _⟩ := X.top.own ow how
  rw [on, ob, oi] at O
  obtain ⟨bd, bm, N, nmm, q, bs, hdct, sn, sub, ab, col, dd, k0, k1, k2, k3, k5, mN, hC, hN, hq, T⟩ := O
  have hC24 : C = 24 := by have := X.mC.symm.trans bd; cases this; rfl
  subst hC24
  have hcn := X.cN
  unfold clsAt at hcn
  rw [hC] at hcn
  simp only [Option.bind_some, Option.some.injEq, Prod.mk.injEq, List.cons.injEq, true_and] at hcn
  obtain ⟨rfl, rfl⟩ := hcn
  have OO : Own 24 mg s.heap := ⟨(base _ (by decide +kernel)).trans X.mC, _, 23, nmm, q, bs, hdct, sn, sub, ab, col, dd, k0, k1, k2, k3, k5, mN, ge _ _ (by decide) (by decide) hC, hN.at fun o e => ge _ o (by decide) (by decide) e, hq, .base⟩
  obtain ⟨o70, e70, d70⟩ := data_get X.d70
  exact ⟨⟨G, ⟨24, OO⟩, ⟨77, 70, o70, 273, 0, (base _ (by decide +kernel)).trans X.m10, fb X.f10, ge _ _ (by decide) (by decide) e70, d70⟩, ⟨a13, m13, g13.at⟩, ⟨a14, m14, g14.at⟩, ⟨a15, m15, g15.at⟩, ⟨a16, m16, g16.at⟩⟩, a17, m17, g17.at⟩
/- RSH12 -/
theorem LawFns.keeps {mg : Str → Option Value} {h h' : Heap} (X : LawFns mg h) (k : h.StaysIn h') : LawFns mg h' :=
  ⟨X.g.keeps k, let ⟨C, O⟩ := X.own; ⟨C, O.keeps k⟩, let ⟨a, d, od, td, nd, h1, h2, h3, h4⟩ := X.f10; ⟨a, d, od, td, nd, h1, h2.keeps k, k _ _ h3, h4⟩,
   fk X.f13 k, fk X.f14 k, fk X.f15 k, fk X.f16 k⟩
theorem post_true (args ds : List WData) : RR.claim.post args (.bool true) ds = true := by
  show (WShape.has [] (.bool true) .bool && (WTm.eq .res (.lit (.bool true))).holds [] { args := args, res := some (.bool true), after := ds }) = true
  simp [WShape.has, WShape.arms, WTm.holds, WTm.value, PySem.W.same]
theorem raises_none (args : List WData) (cls : ExcName) : RR.claim.raises args cls = false := rfl
theorem call_from {w : World} {os : OsState} {mg : Str → Option Value} {s : Shared} (F : FinF w os mg s) (hz : s.asleep) {free : Addr → Prop} {gens : Prop} {kept : Heap → Prop} (hk : ∀ h', kept h') :
    RR.claim.CallFrom (callStub (Str.ofString "law")) w free gens kept s := by
  intro args hpre hlay ord hord
  obtain ⟨ns, rfl, hlen⟩ := args_are hpre
  obtain ⟨vs, s₁, hlaid⟩ : ∃ vs s₁, layAllW RR.claim.records (classAt s.heap) w.params ord [.list (ns.map .int)] s = some (vs, s₁) := by
    obtain ⟨us, tk, e, _⟩ := lay_ints' (R := RR.claim.records) (cl := classAt s.heap) (Pm := w.params) (ord := ord) ns s
    refine ⟨[.ref s.heap.objs.size], { ({ s with toks := tk } : Shared) with heap := s.heap.push (lsO us 0) }, ?_⟩
    simp only [layAllW, layW]
    rw [e]
  refine ⟨vs, s₁, hlaid, ?_⟩
  have keeps := layAllW_keeps _ _ _ hlaid
  have hal := layAllW_rest _ _ _ hlaid
  obtain ⟨as, hrd, hin, hold⟩ := reads_layAllW hord _ _ _ hlaid hlay s₁.heap (fun _ _ e => e)
  have hg₁ : s₁.gens = #[] := hal.1.trans F.hgens
  have L : Laid RR.claim.records w s s₁ [.list (ns.map .int)] vs as := ⟨⟨ord, hord, hlaid⟩, hrd, hin, hold, keeps, hg₁, hal.2.2.1⟩
  obtain ⟨us, rfl, hS, hi⟩ := lay_script hlaid
  obtain ⟨X, a, m17, f17⟩ := F.look
  have X₁ := X.keeps keeps
  have hz₁ : s₁.asleep := Shared.asleep_of_life hal.2.2.2 hz
  have hw : wpC (model P w) callerA (callStub (Str.ofString "law") [.ref s.heap.objs.size]).cur (fun fin s' => fin = .done (.ret (.bool true)) ∧ s₁.heap.StaysIn s'.heap ∧ s'.os = s₁.os ∧ s'.gens = #[]) (fun _ _ => False) s₁ := by
    refine wpC_bind (wpC_of (wpAny_nsGet X₁.g.glo.g ?_))
    rw [m17]
    refine wpC_bind (wpC_call (law_spec (by decide +kernel) rfl rfl rfl (by decide +kernel) X₁ (f17.keeps keeps) hS hi hlen fun h' tk k => ?_))
    exact wpC_pure ⟨rfl, k, rfl, hg₁⟩
  have hcl : Clean ⟨.builtin "claim.caller" {}, none, none, [], none⟩ := ⟨by show dec (Code.builtin "claim.caller" {}) = false; decide +kernel, fun x hx => nomatch hx⟩
  have hwp : wp (model P w) ⟨.builtin "claim.caller" {}, none, none, [], none⟩ (callStub (Str.ofString "law") [.ref s.heap.objs.size]).cur
      (Sem.finPost (model P w) ⟨.builtin "claim.caller" {}, none, none, [], none⟩ fun r s' => (r = .ok (.ret (.bool true)) ∧ s₁.heap.StaysIn s'.heap ∧ s'.os = s₁.os ∧ s'.gens = #[]) ∧ leftWithCleanup s'.gens = false)
      (fun e _ s' => (Except.error e = (.ok (.ret (.bool true)) : Result) ∧ s₁.heap.StaysIn s'.heap ∧ s'.os = s₁.os ∧ s'.gens = #[]) ∧ leftWithCleanup s'.gens = false) default s₁ :=
    Sem.wp_mono _ _ _ (fun fin p s' h => by
      obtain ⟨rfl, h1, h2, h3⟩ := h
      exact ⟨⟨rfl, h1, h2, h3⟩, by rw [h3]; simp [leftWithCleanup]⟩) (fun _ _ _ x => x.elim) _ _ (hw _ default caller_in hcl)
  obtain ⟨n, r, s', s'', hs, hr, hf, hR, hst, hos, hgs⟩ := wp_halts_full (M := model P w) hz₁ hwp
  obtain rfl : s'' = s' := Shared.eq_of_forget_eq hf hgs
  subst hR
  have g : GoodWG RR.claim (classAt s.heap) (ExcName.means s.heap) [.list (ns.map .int)] s₁ (.ok (.ret (.bool true))) s'' :=
    ⟨.inl ⟨.bool true, .bool true, [], rfl, raises_none _, .bool true, post_true _ _, fun _ => ⟨List.nodup_nil, fun a h => nomatch h⟩⟩, .of_keep hst, hos, .of_eq hgs⟩
  have E := g.laid (c := RR.claim) rfl rfl (fun a b => ident_freeW (r := RR) rfl rfl rfl a b) L
  have hlife : s''.heap.life = s.heap.life := (runN_life _ _ _ hr).trans hal.2.2.2
  refine ⟨n, _, s'', hs, ?_, (fun _ i x hx => by rw [F.hgens] at hx; simp at hx), hk _, by rw [hlife], Shared.rest_eq (hos.trans hal.2.2.1)⟩
  rcases E.1 with ⟨v, hv, d1, d2, d3, d4, d5⟩ | ⟨e, ob, cls, hv, d1, d2, d3, d4, d5⟩
  · cases hv
    exact .inl ⟨_, rfl, d1, d2, d3, fun b o y _ => d4 b o y, d5⟩
  · cases hv
/- RSH13 -/
theorem open_plain : opening P = plainProg P.main.scope.names := by kernel_rfl!
theorem fence_same (s : Shared) : fenceModules? P s = some s := by kernel_rfl!
theorem law_is {w : World} {os : OsState} {mg : Str → Option Value} {s : Shared} (F : FinF w os mg s) : isTheDefsW P s.heap "law" := by
  obtain ⟨X, a, m17, o, pm, cdv, e, d, _⟩ := F.look
  refine ⟨a, o, _, paramsAt 17, bodyAt 17, scopeAt 17, (Claim2Try.globalOf_of_ns X.g.glo.g _).trans m17, e, d, by kernel_rfl!, by kernel_rfl!, by kernel_rfl!, rfl, rfl, rfl, rfl, rfl, rfl, .inl ⟨by kernel_rfl!, rfl⟩, [], by kernel_rfl!, .inl ⟨rfl, rfl⟩⟩
theorem holds_by : RR.claim.HoldsOpenBy (callStub (Str.ofString "law")) ["law"] PySem.Challenge.rw_nc0022_01.row.keeps false := by
  refine ⟨⟨⟨rfl, rfl, rfl, rfl, rfl, by decide +kernel⟩, by decide +kernel, rfl⟩, ⟨[.list [.int 3, .int 1]], by decide +kernel, by decide +kernel⟩, fun w => ?_⟩
  obtain ⟨s₀, hf, hv⟩ := Option.map_eq_some_iff.mp (boot_open (p := P) (N := 1000) open_plain (by decide) fence_same w)
  rw [← table_eq_tree] at hf
  obtain ⟨s, h4, h5⟩ := Option.bind_eq_some_iff.mp hf
  have A := AfterImport.of_importEnds h4
  refine ⟨⟨s, A⟩, fun s' hs' => ?_⟩
  obtain rfl : s' = s := AfterImport.unique hs' A
  have e0 : s₀ = s0 w s₀.os := by
    obtain ⟨hp, g, d, k, os⟩ := s₀
    simp only [Prod.mk.injEq] at hv
    obtain ⟨rfl, rfl, rfl, rfl⟩ := hv
    rfl
  obtain ⟨s₁, mg, hT, F, hz⟩ := top_ran w s₀.os
  rw [← e0] at hT
  refine ⟨s₀, h5, by rw [e0]; rfl, s₁, hT, fun n hn => ?_, (fun x hx => nomatch hx), (fun x hx => nomatch hx), call_from F hz fun h' q => by cases q⟩
  obtain rfl := List.mem_singleton.mp hn
  exact law_is F
end Mine
theorem PySem.Challenge.cw_nc0022_01_holds : PySem.Challenge.rw_nc0022_01.Holds := by
  o_law
  rename_i said
  exact ⟨said, ⟨[.list [.int 3, .int 1]], by decide +kernel, by decide +kernel⟩, Mine.holds_by⟩
