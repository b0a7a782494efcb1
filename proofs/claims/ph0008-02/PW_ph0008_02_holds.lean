import PyProof.Rows.All
import Wide.All
import OpenK.AllK
import Wide.FinOn
import KE.KPar
import KE.KUnrMore
import Lean
import PySem.Challenge.RW_ph0008_02
set_option Elab.async false
set_option maxRecDepth 100000
set_option maxHeartbeats 8000000
set_option linter.all false
open PySem PySem.W PyProof.Rows
namespace Mine
open_top hd for PySem.Challenge.rw_ph0008_02
end Mine
namespace Mine
open PySem PySem.Calls PySem.W PyProof.Rows PySem.Flt
theorem lk_function_getattr : typeLookup (.type "function") "__getattr__" = pure none := by rw [typeLookup_type, builtinLookup_eq_fast]; kernel_rfl
theorem slot_function_ga : Slot "function" "__getattribute__" "object.__getattribute__" :=
  .of (owner := "object") (n := "__getattribute__") (by rw [typeLookup_type, builtinLookup_eq_fast]; kernel_rfl) (by decide +kernel) (by decide +kernel) (by decide +kernel)
    (by first | exact .inl (by decide +kernel) | exact .inr (by decide +kernel)) (by rw [isSubtype_type]; kernel_rfl)
theorem args_object_ga (a b : Value) : argsOk "object.__getattribute__" ⟨[a, b], []⟩ := by unfold argsOk; kernel_rfl
theorem canon_object_ga : (Manifest.canonical "object.__getattribute__" != "object.__getattribute__") = false := by decide +kernel
theorem sub_function_static : isSubtype (.type "function") (.type "staticmethod") = pure false := by rw [isSubtype_type]; kernel_rfl
theorem sub_function_classm : isSubtype (.type "function") (.type "classmethod") = pure false := by rw [isSubtype_type]; kernel_rfl
theorem slot_function_sa : Slot "function" "__setattr__" "object.__setattr__" :=
  .of (owner := "object") (n := "__setattr__") (by rw [typeLookup_type, builtinLookup_eq_fast]; kernel_rfl) (by decide +kernel) (by decide +kernel) (by decide +kernel)
    (by first | exact .inl (by decide +kernel) | exact .inr (by decide +kernel)) (by rw [isSubtype_type]; kernel_rfl)

/-- a function object with a dict of its own -/
def FnD (h : Heap) (a D : Addr) (md : Str → Option Value) : Prop := (∃ fd sl, h.get? a = some ⟨.type "function", some D, .func fd, sl⟩) ∧ h.Ns D md

section
variable {prog : Program} {w : World} {A : Around} {E : Value → Shared → Prop} {h : Heap} {g : Array GenState} {d : Drawn} {t : Nat} {os : OsState} {a D : Addr} {md : Str → Option Value}
theorem fn_entry {name : Str} {tk : Tok} {v : Value} {Q : Fin → Shared → Prop} (hm : FnD h a D md) (hnm : typeLookup (.type "function") name = pure none) (hv : md name = some v)
    (hq : Q (.done (.ret v)) ⟨h, g, d, t, os⟩) : wpAny (model prog w) A (Builtin.«object.__getattribute__» ⟨[.ref a, .str name tk], []⟩) Q E ⟨h, g, d, t, os⟩ := by
  obtain ⟨⟨fd, sl, hM⟩, hD⟩ := hm
  have hT : (⟨h, g, d, t, os⟩ : Shared).TypeIs (.ref a) "function" := ⟨_, hM, rfl⟩
  have f1 := sub_function_static
  have f2 := sub_function_classm
  repeat (any_goals (first | assumption | with_reducible apply wpAny_nsGet_known | with_reducible apply wpAny_loadPart_known | wp_step))

theorem fn_getMethod {name : Str} {v : Value} {pl : Sem Bool} {Q : Value × List Value → Shared → Prop} (hm : FnD h a D md) (hnm : typeLookup (.type "function") name = pure none) (hv : md name = some v)
    (hh : handedOut v = pure v) (hq : Q (v, []) ⟨h, g, d, t + 1, os⟩) : wpAny (model prog w) A (getMethod (.ref a) name pl) Q E ⟨h, g, d, t, os⟩ := by
  have hm' := hm
  obtain ⟨⟨fd, sl, hM⟩, hD⟩ := hm
  have hT : (⟨h, g, d, t, os⟩ : Shared).TypeIs (.ref a) "function" := ⟨_, hM, rfl⟩
  have hT1 : (⟨h, g, d, t + 1, os⟩ : Shared).TypeIs (.ref a) "function" := ⟨_, hM, rfl⟩
  have f1 := slot_function_ga.lookup
  have f2 := lk_function_getattr
  have f4 := slot_function_ga.bind (.ref a)
  unfold getMethod
  refine wpAny_bind (wpAny_specialOf hT f1 ?_)
  show wpAny _ A (if (Manifest.canonical "object.__getattribute__" != "object.__getattribute__") = true then _ else _) Q E _
  rw [canon_object_ga, if_neg Bool.false_ne_true]
  refine wpAny_bind (wpAny_specialOf hT f2 ?_)
  dsimp only
  refine wpAny_bind (wpAny_specialOf hT hnm ?_)
  repeat (any_goals (first | assumption | wp_step))
  refine codeAny_call_builtin slot_function_ga.plain F.entry_object_getattribute (slot_function_ga.check _ _ _ _ _ _ _ _ hT1 (args_object_ga _ _) (fn_entry hm' hnm hv ?_))
  repeat (any_goals (first | assumption | wp_step))

theorem fn_getAttr {name : Str} {v : Value} {ex : Bool} {Q : Value → Shared → Prop} (hm : FnD h a D md) (hnm : typeLookup (.type "function") name = pure none) (hv : md name = some v)
    (hh : handedOut v = pure v) (hq : Q v ⟨h, g, d, t + 1, os⟩) : wpAny (model prog w) A (getAttr (.ref a) name ex) Q E ⟨h, g, d, t, os⟩ := by
  have hm' := hm
  obtain ⟨⟨fd, sl, hM⟩, hD⟩ := hm
  have hT : (⟨h, g, d, t, os⟩ : Shared).TypeIs (.ref a) "function" := ⟨_, hM, rfl⟩
  have hT1 : (⟨h, g, d, t + 1, os⟩ : Shared).TypeIs (.ref a) "function" := ⟨_, hM, rfl⟩
  have f1 := slot_function_ga.lookup
  have f2 := lk_function_getattr
  have f4 := slot_function_ga.bind (.ref a)
  cases ex
  all_goals (
    repeat (any_goals (first | assumption | (rw [if_neg (show ¬ (true && onTheHeap (Value.builtin "object.__getattribute__")) = true by decide)]) | wp_step))
    refine codeAny_call_builtin slot_function_ga.plain F.entry_object_getattribute (slot_function_ga.check _ _ _ _ _ _ _ _ hT1 (args_object_ga _ _) (fn_entry hm' hnm hv ?_))
    repeat (any_goals (first | assumption | wp_step)))
end
end Mine
namespace Mine
open PySem PySem.Calls PySem.W PyProof.Rows PySem.Flt PySem.Builtin PySem.Builtin.ObjectAttr
theorem mro_function : mroOf (.type "function") = pure [.type "function", .type "object"] := by kernel_rfl
theorem refuse_function (self : Value) : refuseLoop self "__setattr__" [.type "function", .type "object"] = pure () := by kernel_rfl
theorem args_object_sa (a b c : Value) : argsOk "object.__setattr__" ⟨[a, b, c], []⟩ := by unfold argsOk; kernel_rfl

section
variable {prog : Program} {w : World} {A : Around} {E : Value → Shared → Prop} {h : Heap} {g : Array GenState} {d : Drawn} {t : Nat} {os : OsState} {a D : Addr} {fd : FuncData} {sl : Array (Option Value)}
theorem fn_setOpen {name : Str} {v : Value} {Q : Unit → Shared → Prop} {dd : Option Addr} (ha : h.get? a = some ⟨.type "function", dd, .func fd, sl⟩) (hnm : typeLookup (.type "function") name = pure none)
    (hq : wpAny (model prog w) A.in1 (instanceDict a true) (fun r s' => match r with
       | some d => wpAny (model prog w) A.in1 (nsSet d name v) (fun _ s'' => wpAny (model prog w) A.in1 (lookBehind d (some (.str name 0))) (fun _ s3 => Q () s3) E s'') E s'
       | none => False) E ⟨h, g, d, t + 1, os⟩) : wpAny (model prog w) A (setAttr (.ref a) name v) Q E ⟨h, g, d, t, os⟩ := by
  have hT : (⟨h, g, d, t + 1, os⟩ : Shared).TypeIs (.ref a) "function" := ⟨_, ha, rfl⟩
  unfold setAttr
  refine wpAny_bind (m := mkText name) ?_
  unfold mkText
  refine wpAny_bind (wpAny_fresh' (wpAny_pure (wpAny_bind ?_)))
  refine wpAny_callSpecial?_slot hT slot_function_sa (wpAny_call (codeAny_call_builtin slot_function_sa.plain F.entry_object_setattr (slot_function_sa.check _ _ _ _ _ _ _ _ hT (args_object_sa _ _ _) ?_)))
  rw [osa_eq, refuse_eq]
  refine wpAny_bind (wpAny_bind (wpAny_typeOf hT (wpAny_bind (wpAny_of_eq mro_function ?_))))
  rw [refuse_function]
  refine wpAny_pure (wpAny_bind (wpAny_typeOf hT (wpAny_bind (wpAny_of_eq hnm ?_))))
  refine wpAny_bind (m := storeTaker? none) (wpAny_pure ?_)
  dsimp only
  unfold storeInOwnDict
  refine wpAny_bind (m := ownStreamTells (.ref a) (.type "function")) (wpAny_of_eq (a := ()) (by kernel_rfl) ?_)
  dsimp only
  rw [if_neg (by decide)]
  refine wpAny_bind (m := ownDictForStores (.ref a)) ?_
  unfold ownDictForStores
  refine wpAny_mono hq (fun r s' h' => ?_) fun _ _ x => x
  cases r with
  | none => exact h'.elim
  | some d =>
    dsimp only at h' ⊢
    unfold storeInDict newKeyGuard
    refine wpAny_bind (wpAny_pure (wpAny_bind (wpAny_mono h' (fun _ s'' h'' => wpAny_bind (wpAny_mono h'' (fun _ s3 h3 => wpAny_pure (wpAny_pure h3)) fun _ _ x => x)) fun _ _ x => x)))
end
end Mine
namespace Mine
open PySem PySem.Calls PySem.W PyProof.Rows PySem.Flt PySem.Builtin PySem.Builtin.ObjectAttr
abbrev fnObj (dd : Option Addr) (fd : FuncData) : Obj := ⟨.type "function", dd, .func fd, #[]⟩
theorem hasDict_function : typeHasDict (.type "function") = true := by decide +kernel
section
variable {prog : Program} {w : World} {A : Around} {E : Value → Shared → Prop} {s : Shared} {h₀ : Heap} {L a D : Addr} {m : Str → Option Value} {news : List (Addr × Obj)} {fd : FuncData} {name : Str} {v : Value} {Q : Unit → Shared → Prop}
theorem fn_set0 (F : Fr h₀ L s.heap m) (N : News h₀ L s.heap ((a, fnObj none fd) :: news)) (h2 : ∀ p ∈ news, p.1 ≠ a) (hnm : typeLookup (.type "function") name = pure none)
    (h : ∀ D h' t' tk, Fr h₀ L h' m → News h₀ L h' ((D, dictOf [⟨PyData.keyHash w.params name, .str name t', v⟩] 1) :: (a, fnObj (some D) fd) :: news) → s.heap.objs.size ≤ D → Q () { s with heap := h', toks := tk }) :
    wpAny (model prog w) A (setAttr (.ref a) name v) Q E s := by
  obtain ⟨hp, g, d, t, os⟩ := s
  refine fn_setOpen (N _ (.head _)).1 hnm ?_
  have F1 : Fr h₀ L (hp.push (dictOf [] 0)) m := F.push _
  have N1 := N.push F (dictOf [] 0)
  have ne : a ≠ hp.objs.size := Nat.ne_of_lt (Heap.lt_size (N _ (.head _)).1)
  obtain ⟨U1, U2⟩ := news_upd (pre := [(hp.objs.size, dictOf [] 0)]) (d := a) (post := news) (o := fnObj none fd) (o' := fnObj (some hp.objs.size) fd) (f := fun o => { o with dict := some hp.objs.size }) F1 N1 (by intro p hp'; rw [List.mem_singleton.mp hp']; exact Ne.symm ne) h2 rfl rfl
  unfold instanceDict
  refine wpAny_bind (wpAny_loadPart (N _ (.head _)).1 ?_)
  dsimp only
  rw [hasDict_function]
  refine wpAny_bind (wpAny_alloc' ?_)
  refine wpAny_bind (wpAny_update' (N1 _ (.tail _ (.head _))).1 ?_)
  unfold dictMade
  dsimp only
  rw [if_neg (by decide +kernel)]
  refine wpAny_pure ?_
  dsimp only
  refine kp_nsSet (es := []) (n := 0) (s := ⟨_, g, d, t + 1, os⟩) (d := hp.objs.size) (news := (a, fnObj (some hp.objs.size) fd) :: news) U1 U2 ?_ (fun e he => nomatch he) (fun e he => nomatch he) fun h' F' N' => ?_
  · intro p hp'
    rcases List.mem_cons.mp hp' with rfl | hp'
    · exact ne
    · exact Nat.ne_of_lt (Heap.lt_size (N _ (.tail _ hp')).1)
  · refine wpAny_lookBehind (N' _ (.head _)).1 (pastItsLine_dict (by simp [sizeLine_eq])) ?_
    exact h _ h' _ _ F' N' (Nat.le_refl _)
theorem fn_set1 {es : List DictEntry} {n : Nat} (F : Fr h₀ L s.heap m) (N : News h₀ L s.heap ((D, dictOf es n) :: (a, fnObj (some D) fd) :: news)) (h2 : ∀ p ∈ (a, fnObj (some D) fd) :: news, p.1 ≠ D) (hnm : typeLookup (.type "function") name = pure none)
    (hs : ∀ e ∈ es, e.key.isStr name = false) (hr : ∀ e ∈ es, e.refKey = false) (hz : es.length ≤ 1000)
    (h : ∀ h' t' tk, Fr h₀ L h' m → News h₀ L h' ((D, dictOf (es ++ [⟨PyData.keyHash w.params name, .str name t', v⟩]) (n + 1)) :: (a, fnObj (some D) fd) :: news) → Q () { s with heap := h', toks := tk }) :
    wpAny (model prog w) A (setAttr (.ref a) name v) Q E s := by
  obtain ⟨hp, g, d, t, os⟩ := s
  refine fn_setOpen (N _ (.tail _ (.head _))).1 hnm ?_
  unfold instanceDict
  refine wpAny_bind (wpAny_loadPart (N _ (.tail _ (.head _))).1 ?_)
  dsimp only
  refine wpAny_pure ?_
  dsimp only
  refine kp_nsSet (s := ⟨_, g, d, t + 1, os⟩) F N h2 hs hr fun h' F' N' => ?_
  refine wpAny_lookBehind (N' _ (.head _)).1 (pastItsLine_dict (by simp [sizeLine_eq]; omega)) ?_
  exact h h' _ _ F' N'
end
end Mine
namespace Mine
open PySem PySem.Calls PySem.W PyProof.Rows PySem.Flt PySem.Builtin PySem.Builtin.ObjectAttr
theorem lk_function_bool : typeLookup (.type "function") "__bool__" = pure none := by rw [typeLookup_type, builtinLookup_eq_fast]; kernel_rfl
theorem lk_function_len : typeLookup (.type "function") "__len__" = pure none := by rw [typeLookup_type, builtinLookup_eq_fast]; kernel_rfl
theorem lk_function_span : typeLookup (.type "function") "span" = pure none := by rw [typeLookup_type, builtinLookup_eq_fast]; kernel_rfl
theorem lk_function_search : typeLookup (.type "function") "search" = pure none := by rw [typeLookup_type, builtinLookup_eq_fast]; kernel_rfl
theorem lk_function_given : typeLookup (.type "function") "given" = pure none := by rw [typeLookup_type, builtinLookup_eq_fast]; kernel_rfl
theorem lk_function_number : typeLookup (.type "function") "number" = pure none := by rw [typeLookup_type, builtinLookup_eq_fast]; kernel_rfl
theorem fn_truthy {M : Model} {A : Around} {E : Value → Shared → Prop} {s : Shared} {a : Addr} {dd : Option Addr} {fd : FuncData} {sl : Array (Option Value)} {Q : Bool → Shared → Prop}
    (ha : s.heap.get? a = some ⟨.type "function", dd, .func fd, sl⟩) (h : Q true s) : wpAny M A (truthy (.ref a)) Q E s := by
  have hT : s.TypeIs (.ref a) "function" := ⟨_, ha, rfl⟩
  unfold truthy
  refine wpAny_bind (wpAny_callSpecial?_none hT lk_function_bool ?_)
  dsimp only
  refine wpAny_bind (wpAny_specialOf hT lk_function_len ?_)
  exact wpAny_pure h
end Mine
namespace Mine
open PySem PySem.Calls PySem.W PyProof.Rows PySem.Flt PySem.Builtin PySem.Builtin.ObjectAttr

abbrev Ldg := List (Addr × Obj)
def CodeLike (oc : Obj) (q : Str) : Prop := ∃ vs t, oc.data = .fields vs ∧ vs[1]? = some (.str q t)
def TabAt (Λ : Ldg) (P : Addr) (q : Str) : Prop :=
  ∃ ps, (P, tabObj ps) ∈ Λ ∧ TriplesOk ps.toList ∧ ∀ pos v, codeAmong pos ps.toList = some v → ∃ c oc, v = .ref c ∧ (c, oc) ∈ Λ ∧ CodeLike oc q
def TabOk (sp : List (Addr × Str)) (Λ : Ldg) : Prop := ∀ x ∈ sp, TabAt Λ x.1 x.2
def NT (o : Obj) : Prop := ∀ ps, o = tabObj ps → ¬ TriplesOk ps.toList
theorem NT.of_cls {o : Obj} (h : o.cls ≠ .none) : NT o := fun _ e _ => h (by rw [e])
structure Step (Λ Λ' : Ldg) : Prop where
  keep : ∀ p ∈ Λ, NT p.2 → p ∈ Λ'
  addr : ∀ p ∈ Λ, ∃ q ∈ Λ', q.1 = p.1
  fresh : ∀ p ∈ Λ', (∃ q ∈ Λ, q.1 = p.1) ∨ ∀ q ∈ Λ, q.1 < p.1

theorem news_inj {h₀ h : Heap} {L : Addr} {Λ : Ldg} (N : News h₀ L h Λ) {a : Addr} {o o' : Obj} (h1 : (a, o) ∈ Λ) (h2 : (a, o') ∈ Λ) : o = o' := by
  have e1 := (N _ h1).1
  have e2 := (N _ h2).1
  rw [e1] at e2
  exact Option.some.inj e2
theorem news_sub {h₀ h : Heap} {L : Addr} {Λ Λ' : Ldg} (N : News h₀ L h Λ) (hs : ∀ p ∈ Λ', p ∈ Λ) : News h₀ L h Λ' := fun p hp => N p (hs p hp)

theorem Step.refl {Λ : Ldg} : Step Λ Λ := ⟨fun _ hp _ => hp, fun p hp => ⟨p, hp, rfl⟩, fun p hp => .inl ⟨p, hp, rfl⟩⟩
theorem Step.app {Λ X : Ldg} (hx : ∀ p ∈ X, ∀ q ∈ Λ, q.1 < p.1) : Step Λ (X ++ Λ) :=
  ⟨fun _ hp _ => List.mem_append_right _ hp, fun p hp => ⟨p, List.mem_append_right _ hp, rfl⟩, fun p hp => (List.mem_append.mp hp).elim (fun q => .inr (hx p q)) fun q => .inl ⟨p, q, rfl⟩⟩
theorem Step.cons {Λ : Ldg} {x : Addr × Obj} (hx : ∀ q ∈ Λ, q.1 < x.1) : Step Λ (x :: Λ) :=
  Step.app (X := [x]) fun p hp q hq => by rw [List.mem_singleton.mp hp]; exact hx q hq
theorem Step.trans {Λ Λ' Λ'' : Ldg} (a : Step Λ Λ') (b : Step Λ' Λ'') : Step Λ Λ'' :=
  ⟨fun p hp hc => b.keep p (a.keep p hp hc) hc, fun p hp => let ⟨q, hq, e⟩ := a.addr p hp; let ⟨r, hr, e'⟩ := b.addr q hq; ⟨r, hr, e'.trans e⟩, fun p hp => by
    rcases b.fresh p hp with ⟨q, hq, e⟩ | e
    · rw [← e]; exact a.fresh q hq
    · exact .inr fun q hq => by obtain ⟨r, hr, e'⟩ := a.addr q hq; rw [← e']; exact e r hr⟩

theorem codeAmong_snoc_ne {pos pos' : Pos} {c v : Value} (l : List Value) (h : TriplesOk l) (e : codeAmong pos (l ++ [rawInt pos'.line, rawInt pos'.col, c]) = some v) : codeAmong pos l = some v ∨ v = c := by
  fun_induction TriplesOk l with
  | case1 =>
    simp only [List.nil_append, codeAmong, rawInt] at e
    split at e
    · exact .inr (Option.some.inj e).symm
    · cases e
  | case2 a t b u x rest ih =>
    simp only [List.cons_append, codeAmong] at e ⊢
    split at e
    · rename_i hc; rw [if_pos hc]; exact .inl e
    · rename_i hc; rw [if_neg hc]; exact ih h e
  | case3 l h1 h2 => exact h.elim

theorem tab_not_code {ps : Array Value} {q : Str} (h : TriplesOk ps.toList) : ¬ CodeLike (tabObj ps) q := by
  rintro ⟨vs, t, d, v⟩
  cases d
  obtain ⟨l⟩ := ps
  match l, h, v with
  | [], _, v => simp at v
  | .int _ _ :: .int _ _ :: _ :: _, _, v => simp at v

theorem NT.of_code {o : Obj} {q : Str} (h : CodeLike o q) : NT o := fun _ e t => tab_not_code t (e ▸ h)

section
variable {M : Model} {A : Around} {E : Value → Shared → Prop} {s : Shared} {h₀ : Heap} {L a c P : Addr} {m mg mb : Str → Option Value} {cn : Str} {cs : Scope} {ccd : Value} {cl : List (Str × Addr)}
  {p : Program} {loose : List Str} {mean : ExcName → Option Value} {name qual : Str} {params : Arguments} {body : FuncBody} {scope : Scope} {pos : Pos} {firstLine : Nat} {clos : List (Str × Addr)} {sp : List (Addr × Str)} {Λ : Ldg}

theorem lam_led {dV : Value} {Q : Value → Shared → Prop} (F : Fr h₀ L s.heap m) (N : News h₀ L s.heap Λ) (T : Top p loose mean mg mb h₀) (C : CodeHd h₀ c P) (hcd : ccd = .ref c) (hT : TabOk sp Λ) (hnd : ∀ x ∈ sp, ∀ y ∈ sp, x.1 = y.1 → x.2 = y.2) (hP : (P, qual) ∈ sp)
    (hcl : closureFor scope (envX cn cs L a ccd cl) = pure clos)
    (h : ∀ f c' oc doc ctv h' tk Λ', Fr h₀ L h' m → News h₀ L h' ((f, kdv_obj name qual params body scope clos dV doc ((mg "__name__").getD .none) c' ctv) :: Λ') → TabOk sp Λ' → Step Λ Λ' → (c', oc) ∈ Λ' → CodeLike oc qual →
      (∀ q ∈ Λ', q.1 < f) → Q (.ref f) { s with heap := h', toks := tk }) :
    wpAny M A (makeTail name qual params body scope (envX cn cs L a ccd cl) dV .none none pos firstLine) Q E s := by
  obtain ⟨ps, hmem, htr, hcode⟩ := hT _ hP
  cases hf : codeAmong pos ps.toList with
  | some v =>
    obtain ⟨c', oc, rfl, hc', hlike⟩ := hcode pos v hf
    exact kdv_hit F N T C hcd hmem htr hf hcl fun f ctv doc h' tk F' N' hlt => h f c' oc doc ctv h' tk Λ F' N' hT .refl hc' hlike hlt
  | none =>
    have N0 : News h₀ L s.heap ((P, tabObj ps) :: Λ.filter fun p => p.1 != P) := news_sub N fun q hq => by
      rcases List.mem_cons.mp hq with rfl | hq
      · exact hmem
      · exact (List.mem_filter.mp hq).1
    refine kdv_nest F N0 T C hcd (.head fun q hq => by simpa using (List.mem_filter.mp hq).2) htr hf hcl fun f c' oc vs t ctv doc h' tk F' N' hd hv hlt hcf => ?_
    refine h f c' oc doc ctv h' tk _ F' N' ?_ ?_ (.head _) ⟨vs, t, hd, hv⟩ ?_
    · intro x hx
      by_cases hxP : x.1 = P
      · have hq : x.2 = qual := hnd x hx (P, qual) hP hxP
        rw [hxP, hq]
        refine ⟨ps ++ #[rawInt pos.line, rawInt pos.col, .ref c'], .tail _ (.head _), by simpa using TriplesOk_snoc _ _ _ _ htr, fun pos' v e => ?_⟩
        rcases codeAmong_snoc_ne ps.toList htr (by simpa using e) with e | rfl
        · obtain ⟨c2, oc2, rfl, h2, l2⟩ := hcode pos' v e
          have hc2 : c2 ≠ P := by
            rintro rfl
            have := news_inj N h2 hmem
            subst this
            exact tab_not_code htr l2
          exact ⟨c2, oc2, rfl, .tail _ (.tail _ (List.mem_filter.mpr ⟨h2, by simpa using hc2⟩)), l2⟩
        · exact ⟨c', oc, rfl, .head _, vs, t, hd, hv⟩
      · obtain ⟨ps2, m2, t2, k2⟩ := hT x hx
        refine ⟨ps2, .tail _ (.tail _ (List.mem_filter.mpr ⟨m2, by simpa using hxP⟩)), t2, fun pos' v e => ?_⟩
        obtain ⟨c2, oc2, rfl, h2, l2⟩ := k2 pos' v e
        have hc2 : c2 ≠ P := by
          rintro rfl
          have := news_inj N h2 hmem
          subst this
          exact tab_not_code htr l2
        exact ⟨c2, oc2, rfl, .tail _ (.tail _ (List.mem_filter.mpr ⟨h2, by simpa using hc2⟩)), l2⟩
    · have hlt' : ∀ q ∈ Λ, q.1 < c' := fun q hq => by
        by_cases hqP : q.1 = P
        · rw [hqP]; exact hlt (P, tabObj ps) (.head _)
        · exact hlt q (.tail _ (List.mem_filter.mpr ⟨hq, by simpa using hqP⟩))
      refine ⟨fun q hq hc => ?_, fun q hq => ?_, fun q hq => ?_⟩
      · by_cases hqP : q.1 = P
        · obtain ⟨qa, qo⟩ := q
          cases hqP
          have := news_inj N hq hmem
          subst this
          exact absurd htr (hc ps rfl)
        · exact .tail _ (.tail _ (List.mem_filter.mpr ⟨hq, by simpa using hqP⟩))
      · by_cases hqP : q.1 = P
        · exact ⟨_, .tail _ (.head _), hqP.symm⟩
        · exact ⟨q, .tail _ (.tail _ (List.mem_filter.mpr ⟨hq, by simpa using hqP⟩)), rfl⟩
      · rcases List.mem_cons.mp hq with rfl | hq
        · exact .inr hlt'
        · rcases List.mem_cons.mp hq with rfl | hq
          · exact .inl ⟨_, hmem, rfl⟩
          · exact .inl ⟨q, (List.mem_filter.mp hq).1, rfl⟩
    · intro q hq
      rcases List.mem_cons.mp hq with rfl | hq
      · exact hcf
      · rcases List.mem_cons.mp hq with rfl | hq
        · exact Nat.lt_trans (hlt (P, tabObj ps) (.head _)) hcf
        · exact Nat.lt_trans (hlt q (.tail _ hq)) hcf
end
end Mine
namespace Mine
open PySem PySem.Calls PySem.W PyProof.Rows PySem.Flt PySem.Builtin PySem.Builtin.ObjectAttr

structure Gl where
  prog : Program
  w : World
  K : Frag
  p : Program
  loose : List Str
  mean : ExcName → Option Value
  mg : Str → Option Value
  mb : Str → Option Value
  sp : List (Addr × Str)
  tabs : List (Addr × Addr)

structure Cx (G : Gl) (dp un : Nat) (A : Around) (h₀ : Heap) (L : Addr) (m : Str → Option Value) (h : Heap) (Λ : Ldg) : Prop where
  A : ∃ gd cn cs a ccd cl outer A₀ base, A = ktrTop dp un gd cn cs L a ccd cl outer ∧ Below A₀ base outer h₀ ∧ cs.kind = .function ∧ ∀ q ∈ G.tabs, CodeHd base q.1 q.2
  F : Fr h₀ L h m
  X : G.K.In h₀
  N : News h₀ L h Λ
  T : Top G.p G.loose G.mean G.mg G.mb h₀
  tab : TabOk G.sp Λ

def Con (G : Gl) (d u : Nat) (f : Addr) (vs : List Value) (Pre : Ldg → Prop) (Post : Ldg → Value → Ldg → Prop) : Prop :=
  ∀ (dp un : Nat) (A : Around) (h₀ : Heap) (L : Addr) (m : Str → Option Value) (Λ : Ldg) (s : Shared) (Q E : Value → Shared → Prop),
    Cx G dp un A h₀ L m s.heap Λ → Pre Λ → dp + d < recursionLimit → un + u < cLine →
    (∀ v Λ' h' tk', Cx G dp un A h₀ L m h' Λ' → Step Λ Λ' → Post Λ v Λ' → Q v { s with heap := h', toks := tk' }) →
    wpAny (model G.prog G.w) A (call (.ref f) vs) Q E s

def Sub (Λ Λ' : Ldg) : Prop := ∀ p ∈ Λ, NT p.2 → p ∈ Λ'
theorem Sub.refl {Λ : Ldg} : Sub Λ Λ := fun _ h _ => h
theorem Sub.trans {a b c : Ldg} (x : Sub a b) (y : Sub b c) : Sub a c := fun p h k => y p (x p h k) k
theorem Step.sub {a b : Ldg} (x : Step a b) : Sub a b := x.keep

abbrev tupObj (vs : List Value) : Obj := { cls := .type "tuple", data := .seq vs.toArray }

def Spans (G : Gl) (sp : Addr) (Λ : Ldg) (i j : Int) : Prop :=
  Con G 2 16 sp [] (Sub Λ) fun _ v Λ' => ∃ T ti tj, v = .ref T ∧ (T, tupObj [.int i ti, .int j tj]) ∈ Λ'

def IsHit (G : Gl) (an : Str) (Λ : Ldg) (v : Value) (i j : Int) (ok : Value → Prop) : Prop :=
  ∃ a D fd es n sp gv fd', v = .ref a ∧ (a, fnObj (some D) fd) ∈ Λ ∧ (D, dictOf es n) ∈ Λ ∧ StrKeys es.toArray ∧ nsFind es.toArray "span" = some (.ref sp) ∧ nsFind es.toArray an = some gv ∧ ok gv ∧ handedOut gv = pure gv ∧ (sp, fnObj none fd') ∈ Λ ∧ Spans G sp Λ i j

theorem Spans.mono {G : Gl} {sp : Addr} {Λ Λ' : Ldg} {i j : Int} (x : Spans G sp Λ i j) (hs : Sub Λ Λ') : Spans G sp Λ' i j :=
  fun dp un A h₀ L m Λ₁ s Q E c hp hd hu hr => x dp un A h₀ L m Λ₁ s Q E c (hs.trans hp) hd hu hr
theorem IsHit.mono {G : Gl} {an : Str} {Λ Λ' : Ldg} {v : Value} {i j : Int} {ok : Value → Prop} (x : IsHit G an Λ v i j ok) (hs : Sub Λ Λ') : IsHit G an Λ' v i j ok := by
  obtain ⟨a, D, fd, es, n, sp, gv, fd', e, h1, h2, h3, h4, h5, h6, h7, h8, h9⟩ := x
  exact ⟨a, D, fd, es, n, sp, gv, fd', e, hs _ h1 (.of_cls (by nofun)), hs _ h2 (.of_cls (by nofun)), h3, h4, h5, h6, h7, hs _ h8 (.of_cls (by nofun)), h9.mono hs⟩

/-- what a search hands back -/
def Found {γ : Type} (G : Gl) (an : Str) (ok : γ → Value → Prop) (Λ : Ldg) (v : Value) : Option (Int × Int × γ) → Prop
  | none => v = .none
  | some (i, j, g) => IsHit G an Λ v i j (ok g)
theorem Found.mono {γ : Type} {G : Gl} {an : Str} {ok : γ → Value → Prop} {Λ Λ' : Ldg} {v : Value} {r : Option (Int × Int × γ)} (x : Found G an ok Λ v r) (hs : Sub Λ Λ') : Found G an ok Λ' v r := by
  cases r with
  | none => exact x
  | some r => exact IsHit.mono x hs

structure Searches {γ : Type} (G : Gl) (an : Str) (ok : γ → Value → Prop) (sr : Addr) (Λ : Ldg) (chars : Str) (nx : Int → Option (Int × Int × γ)) : Prop where
  one : ∀ t, Con G 20 100 sr [.str chars t] (Sub Λ) fun _ v Λ' => Found G an ok Λ' v (nx 0)
  two : ∀ t j tj, 0 ≤ j → Con G 20 100 sr [.str chars t, .int j tj] (Sub Λ) fun _ v Λ' => Found G an ok Λ' v (nx j)
theorem Searches.mono {γ : Type} {G : Gl} {an : Str} {ok : γ → Value → Prop} {sr : Addr} {Λ Λ' : Ldg} {chars : Str} {nx : Int → Option (Int × Int × γ)} (x : Searches G an ok sr Λ chars nx) (hs : Sub Λ Λ') : Searches G an ok sr Λ' chars nx :=
  ⟨fun t dp un A h₀ L m Λ₁ s Q E c hp hd hu hr => x.one t dp un A h₀ L m Λ₁ s Q E c (hs.trans hp) hd hu hr,
   fun t j tj hj dp un A h₀ L m Λ₁ s Q E c hp hd hu hr => x.two t j tj hj dp un A h₀ L m Λ₁ s Q E c (hs.trans hp) hd hu hr⟩

def IsProg {γ : Type} (G : Gl) (an : Str) (ok : γ → Value → Prop) (Λ : Ldg) (pg : Addr) (chars : Str) (nx : Int → Option (Int × Int × γ)) : Prop :=
  ∃ D fd es n sr fd', (pg, fnObj (some D) fd) ∈ Λ ∧ (D, dictOf es n) ∈ Λ ∧ StrKeys es.toArray ∧ nsFind es.toArray "search" = some (.ref sr) ∧ (sr, fnObj none fd') ∈ Λ ∧ Searches G an ok sr Λ chars nx
theorem IsProg.mono {γ : Type} {G : Gl} {an : Str} {ok : γ → Value → Prop} {Λ Λ' : Ldg} {pg : Addr} {chars : Str} {nx : Int → Option (Int × Int × γ)} (x : IsProg G an ok Λ pg chars nx) (hs : Sub Λ Λ') : IsProg G an ok Λ' pg chars nx := by
  obtain ⟨D, fd, es, n, sr, fd', h1, h2, h3, h4, h5, h6⟩ := x
  exact ⟨D, fd, es, n, sr, fd', hs _ h1 (.of_cls (by nofun)), hs _ h2 (.of_cls (by nofun)), h3, h4, hs _ h5 (.of_cls (by nofun)), h6.mono hs⟩

def retOf : Flow → Value
  | .ret v => v
  | _ => .none
/-- what a body must reach -/
def Lv (G : Gl) (g : Heap) (L : Addr) (Λ : Ldg) (Post : Ldg → Value → Ldg → Prop) (s : Shared) (v : Value) (s' : Shared) : Prop :=
  ∃ m' Λ' h' tk, s' = { s with heap := h', toks := tk } ∧ Fr g L h' m' ∧ News g L h' Λ' ∧ TabOk G.sp Λ' ∧ Step Λ Λ' ∧ Post Λ v Λ'
theorem Lv.intro {G : Gl} {g : Heap} {L : Addr} {Λ Λ' : Ldg} {Post : Ldg → Value → Ldg → Prop} {s : Shared} {v : Value} {m' : Str → Option Value} {h' : Heap} {tk : Nat} (F : Fr g L h' m') (N : News g L h' Λ') (T : TabOk G.sp Λ') (S : Step Λ Λ') (P : Post Λ v Λ') :
    Lv G g L Λ Post s v { s with heap := h', toks := tk } := ⟨m', Λ', h', tk, rfl, F, N, T, S, P⟩

def Body {α : Type} (ret : α → Value) (G : Gl) (d u : Nat) (qual : Str) (scope : Scope) (f : Addr) (cdv : Value) (cl : List (Str × Addr)) (m : Str → Option Value) (run : Env → Sem α) (Pre : Ldg → Prop) (Post : Ldg → Value → Ldg → Prop) : Prop :=
  ∀ (dp un : Nat) (gd : Option (List Code)) (L : Addr) (outer : List Env) (A₀ : Around) (base g : Heap) (Λ : Ldg) (s : Shared) (E : Value → Shared → Prop),
    Below A₀ base outer g → Fr g L s.heap m → G.K.In g → News g L s.heap Λ → Top G.p G.loose G.mean G.mg G.mb g → (∀ q ∈ G.tabs, CodeHd base q.1 q.2) → TabOk G.sp Λ → Pre Λ → dp + d < recursionLimit → un + u < cLine →
    wpAny (model G.prog G.w) (ktrTop dp un gd qual scope L f cdv cl outer) (run (envX qual scope L f cdv cl)) (fun fl s' => Lv G g L Λ Post s (ret fl) s') E s

theorem Con.ofDef {G : Gl} {d u : Nat} {f : Addr} {vs : List Value} {Pre : Ldg → Prop} {Post : Ldg → Value → Ldg → Prop} {name qual : Str} {params : Arguments} {body : List Stmt} {scope : Scope} {dV kV doc pm cdv ct oc : Value} {an od : Option Addr} {osl : Array (Option Value)} {binds : List (Str × Value)}
    (ho : G.K.lookup f = some ⟨oc, od, .func (fnOf name qual params body scope dV kV doc pm an cdv ct), osl⟩) (hcd : codeIn G.K cdv qual = true)
    (hbind : ∀ s, BindsTo s (fnOf name qual params body scope dV kV doc pm an cdv ct) ⟨vs, []⟩ binds) (hloc : ∀ y ∈ binds, scope.names.lookup y.1 = some .local)
    (hco : scope.isCoroutine = false) (hgen : scope.isGenerator = false) (hk : scope.kind = .function) (hcell : ∀ x ∈ scope.names, x.2 ≠ .cell)
    (h : Body retOf G d u qual scope f cdv [] (fun y => binds.reverse.lookup y) (execs body) Pre Post) : Con G (d + 1) (u + 3) f vs Pre Post := by
  intro dp un A h₀ L m Λ s Q E c hp hd hu hr
  obtain ⟨⟨gd, cn, cs, a, ccd, cl, outer, A₀, base, rfl, B, hcs, hC⟩, F, X, N, T, tab⟩ := c
  refine wpAny_call ?_
  refine code_def B F X N T rfl rfl hcs ho hcd (by show dp < _; omega) (hbind _) hloc (fun g L' h₁ FG F' N' B' X' T' => ?_) hco hgen hk hcell
  refine wpAny_mono (h (dp + 1) (un + 3) gd L' _ _ base g Λ _ _ B' F' X' N' T' hC tab hp (by omega) (by omega)) (fun fl s' hl => ?_) fun _ _ e => e
  obtain ⟨m', Λ', h', tk, rfl, F1, N1, t1, S1, P1⟩ := hl
  refine leaveK_ F1 N1 fun F2 N2 => ?_
  have z := hr _ Λ' h' tk ⟨⟨gd, cn, cs, a, ccd, cl, outer, A₀, base, rfl, B, hcs, hC⟩, F2, X, N2, T, t1⟩ S1 P1
  cases fl <;> exact z

theorem Con.ofLam {G : Gl} {d u : Nat} {f : Addr} {vs : List Value} {Λ₀ : Ldg} {Post : Ldg → Value → Ldg → Prop} {name qual : Str} {params : Arguments} {body : Expr} {scope : Scope} {dV doc pm ctv : Value} {cl : List (Str × Addr)} {c' : Addr} {oc : Obj} {binds : List (Str × Value)}
    (ho : (f, kdv_obj name qual params (.expr body) scope cl dV doc pm c' ctv) ∈ Λ₀) (hoc : (c', oc) ∈ Λ₀) (hlike : CodeLike oc qual)
    (hbind : ∀ h₀ L s Λ, News h₀ L s.heap Λ → Sub Λ₀ Λ → BindsTo s (kdv_fn name qual params (.expr body) scope cl dV doc pm (.ref c') ctv) ⟨vs, []⟩ binds) (hloc : ∀ y ∈ binds, scope.names.lookup y.1 = some .local)
    (hco : scope.isCoroutine = false) (hgen : scope.isGenerator = false) (hk : scope.kind = .function) (hcell : ∀ x ∈ scope.names, x.2 ≠ .cell)
    (h : Body id G d u qual scope f (.ref c') cl (fun y => binds.reverse.lookup y) (fun env => eval body env) (Sub Λ₀) Post) : Con G (d + 1) (u + 3) f vs (Sub Λ₀) Post := by
  intro dp un A h₀ L m Λ s Q E c hp hd hu hr
  obtain ⟨⟨gd, cn, cs, a, ccd, cl₁, outer, A₀, base, rfl, B, hcs, hC⟩, F, X, N, T, tab⟩ := c
  obtain ⟨vs₁, t₁, d₁, v₁⟩ := hlike
  refine wpAny_call ?_
  refine kdv_codeE B F X N T rfl rfl hcs (hp _ ho (.of_cls (by nofun))) (codeRec_news N (hp _ hoc (.of_code ⟨vs₁, t₁, d₁, v₁⟩)) d₁ v₁) (by show dp < _; omega) (hbind _ _ _ _ N hp) hloc (fun g L' h₁ FG F' N' B' X' T' => ?_) hco hgen hk hcell
  refine wpAny_mono (h (dp + 1) (un + 3) gd L' _ _ base g Λ { s with heap := h₁, toks := s.toks + binds.length } _ B' F' X' N' T' hC tab hp (by omega) (by omega)) (fun v s' hl => ?_) fun _ _ e => e
  obtain ⟨m', Λ', h', tk, rfl, F1, N1, t1, S1, P1⟩ := hl
  refine leaveK_ F1 N1 fun F2 N2 => ?_
  exact hr _ Λ' h' tk ⟨⟨gd, cn, cs, a, ccd, cl₁, outer, A₀, base, rfl, B, hcs, hC⟩, F2, X, N2, T, t1⟩ S1 P1
end Mine
namespace Mine
open PySem PySem.Calls PySem.W PyProof.Rows PySem.Flt PySem.Builtin PySem.Builtin.ObjectAttr

def BodyC (G : Gl) (d u : Nat) (qual : Str) (scope : Scope) (f : Addr) (cdv : Value) (binds : List (Str × Value)) (body : List Stmt) (Pre : Ldg → Prop) (Post : Ldg → Value → Ldg → Prop) : Prop :=
  ∀ (dp un : Nat) (gd : Option (List Code)) (L : Addr) (outer : List Env) (A₀ : Around) (base g : Heap) (Λ cells : Ldg) (s : Shared) (E : Value → Shared → Prop),
    Below A₀ base outer g → Fr g L s.heap (bindL (envOfC qual scope L f cdv).kindOf binds fun _ => none) → G.K.In g → News g L s.heap (cells ++ Λ) →
    CellsAre (bindC (envOfC qual scope L f cdv).kindOf binds fun _ => none) (cellsFrom (L + 1) scope.names []) cells → (∀ q ∈ Λ, q.1 < L) →
    Top G.p G.loose G.mean G.mg G.mb g → (∀ q ∈ G.tabs, CodeHd base q.1 q.2) → TabOk G.sp Λ → Pre Λ → dp + d < recursionLimit → un + u < cLine →
    wpAny (model G.prog G.w) (ktrTop dp un gd qual scope L f cdv (cellsFrom (L + 1) scope.names []) outer) (execs body (envOfC qual scope L f cdv)) (fun fl s' => Lv G g L Λ Post s (retOf fl) s') E s

theorem Con.ofDefC {G : Gl} {d u : Nat} {f : Addr} {vs : List Value} {Pre : Ldg → Prop} {Post : Ldg → Value → Ldg → Prop} {name qual : Str} {params : Arguments} {body : List Stmt} {scope : Scope} {dV kV doc pm cdv ct oc : Value} {an od : Option Addr} {osl : Array (Option Value)} {binds : List (Str × Value)}
    (ho : G.K.lookup f = some ⟨oc, od, .func (fnOf name qual params body scope dV kV doc pm an cdv ct), osl⟩) (hcd : codeIn G.K cdv qual = true)
    (hbind : ∀ s, BindsTo s (fnOf name qual params body scope dV kV doc pm an cdv ct) ⟨vs, []⟩ binds)
    (hkind : (binds.all fun y => scope.names.lookup y.1 == some .local || scope.names.lookup y.1 == some .cell) = true) (hnd : ((cellsFrom 0 scope.names []).map (·.1)).Nodup)
    (hco : scope.isCoroutine = false) (hgen : scope.isGenerator = false) (hk : scope.kind = .function)
    (h : BodyC G d u qual scope f cdv binds body Pre Post) : Con G (d + 1) (u + 3) f vs Pre Post := by
  intro dp un A h₀ L m Λ s Q E c hp hd hu hr
  obtain ⟨⟨gd, cn, cs, a, ccd, cl, outer, A₀, base, rfl, B, hcs, hC⟩, F, X, N, T, tab⟩ := c
  refine wpAny_call ?_
  refine code_defC B F X N T rfl rfl hcs ho hcd (by show dp < _; omega) (hbind _) hkind hnd (fun g L' h₁ tk cells FG F' N' Y B' X' T' hlt => ?_) hco hgen hk
  refine wpAny_mono (h (dp + 1) (un + 3) gd L' _ _ base g Λ cells _ _ B' F' X' N' Y hlt T' hC tab hp (by omega) (by omega)) (fun fl s' hl => ?_) fun _ _ e => e
  obtain ⟨m', Λ', h', tk, rfl, F1, N1, t1, S1, P1⟩ := hl
  refine leaveK_ F1 N1 fun F2 N2 => ?_
  have z := hr _ Λ' h' tk ⟨⟨gd, cn, cs, a, ccd, cl, outer, A₀, base, rfl, B, hcs, hC⟩, F2, X, N2, T, t1⟩ S1 P1
  cases fl <;> exact z
end Mine
namespace Mine
open PySem PySem.Calls PySem.W PyProof.Rows PySem.Flt PySem.Builtin PySem.Builtin.ObjectAttr
theorem TabOk.sub {sp : List (Addr × Str)} {Λ Λ' : Ldg} (x : TabOk sp Λ) (hs : ∀ p ∈ Λ, p ∈ Λ') : TabOk sp Λ' := fun q hq => by
  obtain ⟨ps, m, t, k⟩ := x q hq
  exact ⟨ps, hs _ m, t, fun pos v e => let ⟨c, oc, a, b, d⟩ := k pos v e; ⟨c, oc, a, hs _ b, d⟩⟩
/-- the tables stay well while an object that is no table and no code changes -/
theorem TabOk.off {sp : List (Addr × Str)} {Λ Λ' : Ldg} {a : Addr} {o : Obj} {h₀ h : Heap} {L : Addr} (N : News h₀ L h Λ) (x : TabOk sp Λ) (hm : (a, o) ∈ Λ) (ho : o.cls ≠ .none) (hd : ∀ vs, o.data ≠ .fields vs) (hs : ∀ p ∈ Λ, p.1 ≠ a → p ∈ Λ') : TabOk sp Λ' := fun q hq => by
  obtain ⟨ps, m, t, k⟩ := x q hq
  have n1 : q.1 ≠ a := by
    intro e
    rw [e] at m
    have := news_inj N m hm
    exact ho (by rw [← this])
  refine ⟨ps, hs _ m n1, t, fun pos v e => ?_⟩
  obtain ⟨c, oc, e1, b, l⟩ := k pos v e
  refine ⟨c, oc, e1, hs _ b ?_, l⟩
  rintro rfl
  have := news_inj N b hm
  obtain ⟨vs, t, d, _⟩ := l
  exact hd vs (by rw [← this]; exact d)

section
variable {prog : Program} {w : World} {A : Around} {E : Value → Shared → Prop} {s : Shared} {h₀ : Heap} {L a D : Addr} {m : Str → Option Value} {Λ : Ldg} {fd : FuncData} {name : Str} {v : Value} {Q : Unit → Shared → Prop} {sp : List (Addr × Str)}
theorem set_led0 (F : Fr h₀ L s.heap m) (N : News h₀ L s.heap Λ) (hm : (a, fnObj none fd) ∈ Λ) (hT : TabOk sp Λ) (hnm : typeLookup (.type "function") name = pure none)
    (h : ∀ D h' t' tk Λ', Fr h₀ L h' m → News h₀ L h' Λ' → TabOk sp Λ' → (a, fnObj (some D) fd) ∈ Λ' → (D, dictOf [⟨PyData.keyHash w.params name, .str name t', v⟩] 1) ∈ Λ' → (∀ p ∈ Λ, p.1 ≠ a → p ∈ Λ') → (∀ p ∈ Λ', p.1 = a ∨ p.1 = D ∨ p ∈ Λ) → (∀ q ∈ Λ, q.1 < D) → Q () { s with heap := h', toks := tk }) :
    wpAny (model prog w) A (setAttr (.ref a) name v) Q E s := by
  have N0 : News h₀ L s.heap ((a, fnObj none fd) :: Λ.filter fun p => p.1 != a) := news_sub N fun q hq => by
    rcases List.mem_cons.mp hq with rfl | hq
    · exact hm
    · exact (List.mem_filter.mp hq).1
  refine fn_set0 F N0 (fun q hq => by simpa using (List.mem_filter.mp hq).2) hnm fun D h' t' tk F' N' hD => ?_
  have keep : ∀ p ∈ Λ, p.1 ≠ a → p ∈ (D, dictOf [⟨PyData.keyHash w.params name, .str name t', v⟩] 1) :: (a, fnObj (some D) fd) :: Λ.filter fun p => p.1 != a := fun p hp hn => .tail _ (.tail _ (List.mem_filter.mpr ⟨hp, by simpa using hn⟩))
  refine h D h' t' tk _ F' N' (TabOk.off N hT hm (by nofun) (by nofun) keep) (.tail _ (.head _)) (.head _) keep (fun q hq => ?_) fun q hq => Nat.lt_of_lt_of_le (Heap.lt_size (N q hq).1) hD
  rcases List.mem_cons.mp hq with rfl | hq
  · exact .inr (.inl rfl)
  · rcases List.mem_cons.mp hq with rfl | hq
    · exact .inl rfl
    · exact .inr (.inr (List.mem_filter.mp hq).1)
theorem set_led1 {es : List DictEntry} {n : Nat} (F : Fr h₀ L s.heap m) (N : News h₀ L s.heap Λ) (hm : (a, fnObj (some D) fd) ∈ Λ) (hD : (D, dictOf es n) ∈ Λ) (hT : TabOk sp Λ) (hnm : typeLookup (.type "function") name = pure none)
    (hs : ∀ e ∈ es, e.key.isStr name = false) (hr : ∀ e ∈ es, e.refKey = false) (hz : es.length ≤ 1000)
    (h : ∀ h' t' tk Λ', Fr h₀ L h' m → News h₀ L h' Λ' → TabOk sp Λ' → (D, dictOf (es ++ [⟨PyData.keyHash w.params name, .str name t', v⟩]) (n + 1)) ∈ Λ' → (∀ p ∈ Λ, p.1 ≠ D → p ∈ Λ') → (∀ p ∈ Λ', p.1 = D ∨ p ∈ Λ) → Q () { s with heap := h', toks := tk }) :
    wpAny (model prog w) A (setAttr (.ref a) name v) Q E s := by
  have ne : a ≠ D := by
    rintro rfl
    exact absurd (show (Value.type "function") = .type "dict" from congrArg Obj.cls (news_inj N hm hD)) (by decide)
  have N0 : News h₀ L s.heap ((D, dictOf es n) :: (a, fnObj (some D) fd) :: Λ.filter fun p => p.1 != D) := news_sub N fun q hq => by
    rcases List.mem_cons.mp hq with rfl | hq
    · exact hD
    · rcases List.mem_cons.mp hq with rfl | hq
      · exact hm
      · exact (List.mem_filter.mp hq).1
  refine fn_set1 F N0 (fun q hq => ?_) hnm hs hr hz fun h' t' tk F' N' => ?_
  · rcases List.mem_cons.mp hq with rfl | hq
    · exact ne
    · simpa using (List.mem_filter.mp hq).2
  have keep : ∀ p ∈ Λ, p.1 ≠ D → p ∈ (D, dictOf (es ++ [⟨PyData.keyHash w.params name, .str name t', v⟩]) (n + 1)) :: (a, fnObj (some D) fd) :: Λ.filter fun p => p.1 != D := fun p hp hn => .tail _ (.tail _ (List.mem_filter.mpr ⟨hp, by simpa using hn⟩))
  refine h h' t' tk _ F' N' (TabOk.off N hT hD (by nofun) (by nofun) keep) (.head _) keep (fun q hq => ?_)
  rcases List.mem_cons.mp hq with rfl | hq
  · exact .inl rfl
  · rcases List.mem_cons.mp hq with rfl | hq
    · exact .inr hm
    · exact .inr (List.mem_filter.mp hq).1
end
end Mine
namespace Mine
open PySem PySem.Calls PySem.W PyProof.Rows PySem.Flt PySem.Builtin PySem.Builtin.ObjectAttr

def IterLike (o : Obj) : Prop := o.cls ≠ .none ∧ ∃ vs, o.data = .fields vs ∧ ∀ q t, vs[1]? ≠ some (.str q t)
def NI (o : Obj) : Prop := ¬ IterLike o
theorem NI.of_data {o : Obj} (h : ∀ vs, o.data ≠ .fields vs) : NI o := fun ⟨_, vs, e, _⟩ => h vs e
theorem NI.of_code {o : Obj} {q : Str} (h : CodeLike o q) : NI o := fun ⟨_, vs, e, k⟩ => by
  obtain ⟨vs', t, e', k'⟩ := h
  rw [e] at e'
  cases e'
  exact k _ _ k'
def NSub (Λ Λ' : Ldg) : Prop := ∀ p ∈ Λ, NI p.2 → p ∈ Λ'
theorem TabOk.nsub {sp : List (Addr × Str)} {Λ Λ' : Ldg} (x : TabOk sp Λ) (hs : NSub Λ Λ') : TabOk sp Λ' := fun q hq => by
  obtain ⟨ps, m, t, k⟩ := x q hq
  exact ⟨ps, hs _ m (fun ⟨h, _⟩ => h rfl), t, fun pos v e => let ⟨c, oc, a, b, d⟩ := k pos v e; ⟨c, oc, a, hs _ b (.of_code d), d⟩⟩

/-- the end of a loop's turn -/
def TurnEnd (sp : List (Addr × Str)) (h₀ : Heap) (L : Addr) (Λ₁ : Ldg) (R : (Str → Option Value) → Ldg → Prop) (s₁ : Shared) (Q : Flow → Shared → Prop) (f : Flow) (s₂ : Shared) : Prop :=
  match f with
  | .ret v => Q (.ret v) s₂
  | .brk => Q .next s₂
  | _ => ∃ m₂ Λ₂ h₂ tk₂, s₂ = { s₁ with heap := h₂, toks := tk₂ } ∧ Fr h₀ L h₂ m₂ ∧ News h₀ L h₂ Λ₂ ∧ TabOk sp Λ₂ ∧ Step Λ₁ Λ₂ ∧ R m₂ Λ₂
theorem TurnEnd.next {sp : List (Addr × Str)} {h₀ : Heap} {L : Addr} {Λ₁ Λ₂ : Ldg} {R : (Str → Option Value) → Ldg → Prop} {s₁ : Shared} {Q : Flow → Shared → Prop} {m₂ : Str → Option Value} {h₂ : Heap} {tk₂ : Nat}
    (F : Fr h₀ L h₂ m₂) (N : News h₀ L h₂ Λ₂) (T : TabOk sp Λ₂) (S : Step Λ₁ Λ₂) (r : R m₂ Λ₂) : TurnEnd sp h₀ L Λ₁ R s₁ Q .next { s₁ with heap := h₂, toks := tk₂ } := ⟨m₂, Λ₂, h₂, tk₂, rfl, F, N, T, S, r⟩

section
variable {prog : Program} {w : World} {A : Around} {s : Shared} {env : Env} {h₀ : Heap} {sp : List (Addr × Str)}
theorem for_led {RR : Result → Shared → Prop} {Q : Flow → Shared → Prop} {target : Expr} {body : List Stmt} {I : Addr} {fp wr : List Addr} {n : Nat} {P : Nat → Value → Prop} {St : Nat → Heap → Prop} {m : Str → Option Value} {Λ : Ldg}
    (hRR : ∀ f s', Q f s' → RR (.ok f) s')
    (W : Walks prog w A I fp wr n P St) (hLf : env.locals ∉ fp) (hwr : ∀ b ∈ wr, h₀.get? b = none) (hnw : ∀ p ∈ Λ, p.1 ∉ wr) (hwl : ∀ b ∈ wr, ∀ q ∈ Λ, q.1 < b)
    (hfp : ∀ b ∈ fp, b ∈ wr ∨ h₀.get? b ≠ none ∨ ∃ q ∈ Λ, q.1 = b)
    (hit : ∀ i h, St i h → ∀ b ∈ wr, ∃ o, h.get? b = some o ∧ IterLike o)
    (hnt : ∀ i h, St i h → ∀ b ∈ fp, ∀ o, h.get? b = some o → NT o)
    (hst : St 0 s.heap) (F : Fr h₀ env.locals s.heap m) (N : News h₀ env.locals s.heap Λ) (T : TabOk sp Λ)
    (hgo : ∀ i (s' : Shared) v (Q' : Unit → Shared → Prop) (E' : Value → Shared → Prop), P i v → St (i + 1) s'.heap → Q' () s' → wpAny (model prog w) A (letOwnedTupleGo target (.ref I) v) Q' E' s')
    (R : Nat → (Str → Option Value) → Ldg → Prop) (hmono : ∀ i m Λ Λ', NSub Λ Λ' → R i m Λ → R i m Λ') (h0 : R 0 m Λ)
    (turn : ∀ i v m₁ Λ₁ s₁ (E' : Value → Shared → Prop), (∃ h tk, s₁ = { s with heap := h, toks := tk }) → i < n → P i v → R i m₁ Λ₁ → TabOk sp Λ₁ → Step Λ Λ₁ → Fr h₀ env.locals s₁.heap m₁ → News h₀ env.locals s₁.heap Λ₁ →
      wpAny (model prog w) A (assign target env v) (fun _ s₂ => wpAny (model prog w) A (execs body env) (TurnEnd sp h₀ env.locals Λ₁ (R (i + 1)) s₁ Q) E' s₂) E' s₁)
    (done : ∀ m' Λ' h' tk, Fr h₀ env.locals h' m' → News h₀ env.locals h' Λ' → TabOk sp Λ' → Step Λ Λ' → R n m' Λ' → Q .next { s with heap := h', toks := tk }) :
    codeAny (model prog w) A (.forLoop target (.ref I) body [] env) RR s := by
  have hLw : env.locals ∉ wr := fun h => hLf (W.sub _ h)
  have old : ∀ b o, h₀.get? b = some o → b ∉ wr := fun b o e hb => by rw [hwr b hb] at e; cases e
  refine codeAny_forLoop_any
    (fun k s' => ∃ h' tk m' Λ' i, s' = { s with heap := h', toks := tk } ∧ St i h' ∧ Fr h₀ env.locals h' m' ∧ News h₀ env.locals h' Λ' ∧ (∀ p ∈ Λ', p.1 ∉ wr) ∧ TabOk sp Λ' ∧ Step Λ Λ' ∧ R i m' Λ' ∧ i ≤ n ∧ k = n + 1 - i) ?_ (n + 1)
    ⟨s.heap, s.toks, m, Λ, 0, rfl, hst, F, N, hnw, T, .refl, h0, Nat.zero_le _, rfl⟩
  rintro k s' ⟨h', tk, m', Λ', i, rfl, hst', F', N', hnw', T', S', hR, hi, rfl⟩
  have next : ∀ h₁ : Heap, (∀ b o, b ∉ wr → h'.get? b = some o → h₁.get? b = some o) → Fr h₀ env.locals h₁ m' ∧ News h₀ env.locals h₁ Λ' := fun h₁ hk₁ =>
    ⟨⟨F'.ns.at' fun o e => hk₁ _ o hLw e, fun b o e => hk₁ b o (old b o e) (F'.keep b o e), F'.above⟩, fun p hp => ⟨hk₁ _ _ (hnw' p hp) (N' p hp).1, (N' p hp).2⟩⟩
  by_cases hlt : i < n
  · refine W.item i _ _ _ hlt hst' fun v h₁ tk₁ hP hst₁ hk₁ => ?_
    obtain ⟨F₁, N₁⟩ := next h₁ hk₁
    have Nown : News h₀ env.locals h₁ (ownOf h₀ fp h₁) := news_ownOf hLf
    have N2 := Nown.append N₁
    refine hgo i _ v _ _ hP hst₁ ?_
    have sub1 : ∀ p ∈ Λ', p ∈ ownOf h₀ fp h₁ ++ Λ' := fun p hp => List.mem_append_right _ hp
    have SO : Step Λ (ownOf h₀ fp h₁ ++ Λ') := by
      refine ⟨fun p hp hn => sub1 p (S'.keep p hp hn), fun p hp => let ⟨q, hq, e⟩ := S'.addr p hp; ⟨q, sub1 q hq, e⟩, fun p hp => ?_⟩
      rcases List.mem_append.mp hp with hp | hp
      · rcases hfp _ (ownOf_sub _ hp) with h1 | h1 | ⟨r, hr, e1⟩
        · exact .inr fun q hq => hwl _ h1 q hq
        · exact absurd (Nown p hp).2.2 h1
        · exact .inl ⟨r, hr, e1⟩
      · exact S'.fresh p hp
    refine wpAny_mono (turn i v m' (ownOf h₀ fp h₁ ++ Λ') { s with heap := h₁, toks := tk₁ } _ ⟨_, _, rfl⟩ hlt hP (hmono _ _ _ _ (fun p hp _ => sub1 p hp) hR) (T'.sub sub1) SO F₁ N2) (fun _ s₂ h₂ => wpAny_mono h₂ (fun f s₃ h₃ => ?_) fun _ _ e => e) fun _ _ e => e
    have key : (∃ m₂ Λ₂ h₂ tk₂, s₃ = { s with heap := h₂, toks := tk₂ } ∧ Fr h₀ env.locals h₂ m₂ ∧ News h₀ env.locals h₂ Λ₂ ∧ TabOk sp Λ₂ ∧ Step (ownOf h₀ fp h₁ ++ Λ') Λ₂ ∧ R (i + 1) m₂ Λ₂) → ∃ mm, mm < n + 1 - i ∧ ∃ h' tk m' Λ' i, s₃ = { s with heap := h', toks := tk } ∧ St i h' ∧ Fr h₀ env.locals h' m' ∧ News h₀ env.locals h' Λ' ∧ (∀ p ∈ Λ', p.1 ∉ wr) ∧ TabOk sp Λ' ∧ Step Λ Λ' ∧ R i m' Λ' ∧ i ≤ n ∧ mm = n + 1 - i := by
      rintro ⟨m₂, Λ₂, h₂, tk₂, rfl, F₂, N₂, T₂, S₂, hR₂⟩
      have hst₂ : St (i + 1) h₂ := by
        refine W.frame _ _ _ hst₁ fun b hb o e => ?_
        cases hn : h₀.get? b with
        | some o₀ =>
          have : o₀ = o := by have := F₁.keep b o₀ hn; rw [e] at this; exact (Option.some.inj this).symm
          exact this ▸ F₂.keep b o₀ hn
        | none =>
          have hm := List.mem_append_left Λ' (mem_ownOf hb hn e)
          exact (N₂ _ (S₂.keep _ hm (hnt _ _ hst₁ b hb o e))).1
      have ne : ∀ p ∈ Λ₂, NI p.2 → p.1 ∉ wr := fun p hp hni hw => by
        obtain ⟨o, ho, hl⟩ := hit _ _ hst₂ _ hw
        rw [(N₂ p hp).1] at ho
        cases ho
        exact hni hl
      have hs : NSub Λ₂ (Λ₂.filter fun p => !wr.contains p.1) := fun p hp hni => List.mem_filter.mpr ⟨hp, by simpa using ne p hp hni⟩
      refine ⟨n + 1 - (i + 1), by omega, h₂, tk₂, m₂, _, i + 1, rfl, hst₂, F₂, news_sub N₂ fun p hp => (List.mem_filter.mp hp).1, fun p hp => by simpa using (List.mem_filter.mp hp).2, T₂.nsub hs, ?_, hmono _ _ _ _ hs hR₂, hlt, rfl⟩
      refine ⟨fun p hp hn => ?_, fun p hp => ?_, fun p hp => ?_⟩
      · exact List.mem_filter.mpr ⟨S₂.keep p (sub1 p (S'.keep p hp hn)) hn, by simpa using hnw p hp⟩
      · obtain ⟨q, hq, e⟩ := S'.addr p hp
        obtain ⟨r, hr, e'⟩ := S₂.addr q (sub1 q hq)
        exact ⟨r, List.mem_filter.mpr ⟨hr, by rw [e', e]; simpa using hnw p hp⟩, e'.trans e⟩
      · obtain ⟨hp, hpw⟩ := List.mem_filter.mp hp
        rcases S₂.fresh p hp with ⟨q, hq, e⟩ | e
        · rcases List.mem_append.mp hq with hq | hq
          · have hb := ownOf_sub _ hq
            rcases hfp _ hb with h1 | h1 | ⟨r, hr, e1⟩
            · rw [e] at h1; exact absurd h1 (by simpa using hpw)
            · exact absurd (Nown q hq).2.2 h1
            · exact .inl ⟨r, hr, e1.trans e⟩
          · rw [← e]; exact S'.fresh q hq
        · exact .inr fun r hr => by
            obtain ⟨q, hq, e1⟩ := S'.addr r hr
            rw [← e1]
            exact e q (sub1 q hq)
    cases f with
    | ret v => exact hRR _ _ h₃
    | brk => exact hRR _ _ h₃
    | cont => exact key h₃
    | next => exact key h₃
  · have hin : i = n := by omega
    subst hin
    refine W.done _ _ _ hst' fun h₁ tk₁ hk₁ => wpAny_execs_nil ?_
    obtain ⟨F₁, N₁⟩ := next h₁ hk₁
    exact hRR _ _ (done m' Λ' h₁ tk₁ F₁ N₁ T' S' hR)
end
end Mine
namespace Mine
open PySem PySem.Calls PySem.W PyProof.Rows PySem.Flt PySem.Builtin PySem.Builtin.ObjectAttr
abbrev listObj (vs : List Value) (ep : Nat) : Obj := { cls := .type "list", data := .seq vs.toArray ep }

section
variable {prog : Program} {w : World} {A : Around} {s : Shared} {env : Env} {h₀ : Heap} {sp : List (Addr × Str)} {E : Value → Shared → Prop} {RR : Result → Shared → Prop} {Q : Flow → Shared → Prop} {target : Expr} {body : List Stmt} {m : Str → Option Value} {Λ : Ldg}

theorem fresh_addr (F : Fr h₀ env.locals s.heap m) (N : News h₀ env.locals s.heap Λ) : (∀ p ∈ Λ, p.1 ∉ [s.heap.objs.size]) ∧ env.locals ≠ s.heap.objs.size ∧ h₀.get? s.heap.objs.size = none := by
  refine ⟨fun p hp h => ?_, Nat.ne_of_lt F.ns.lt, ?_⟩
  · rw [List.mem_singleton] at h
    exact Nat.lt_irrefl _ (h ▸ Heap.lt_size (N p hp).1)
  · exact Heap.get?_none_of_le (Nat.le_trans F.above (Nat.le_of_lt F.ns.lt))
theorem fresh_lt (N : News h₀ env.locals s.heap Λ) : ∀ b ∈ [s.heap.objs.size], ∀ q ∈ Λ, q.1 < b := fun b hb q hq => by rw [List.mem_singleton.mp hb]; exact Heap.lt_size (N q hq).1
theorem news_pushed (N : News h₀ env.locals s.heap Λ) (o : Obj) : News h₀ env.locals (s.heap.push o) Λ := fun p hp => ⟨Heap.get?_push_of_some _ (N p hp).1, (N p hp).2⟩

theorem iter_range (hRR : ∀ f s', Q f s' → RR (.ok f) s') (hh : A.handled = none) {r : Addr} {n : Nat} {t u v : Tok} (F : Fr h₀ env.locals s.heap m) (N : News h₀ env.locals s.heap Λ) (T : TabOk sp Λ)
    (hr : IsRange s.heap r 0 n 1 t u v) (hn : n < 2 ^ 60)
    (ht : ∀ it v, letOwnedTupleGo target it v = pure ())
    (R : Nat → (Str → Option Value) → Ldg → Prop) (hmono : ∀ i m Λ Λ', NSub Λ Λ' → R i m Λ → R i m Λ') (h0 : R 0 m Λ)
    (turn : ∀ i v m₁ Λ₁ s₁ (E' : Value → Shared → Prop), (∃ h tk, s₁ = { s with heap := h, toks := tk }) → i < n → (∃ t, v = .int i t) → R i m₁ Λ₁ → TabOk sp Λ₁ → Step Λ Λ₁ → Fr h₀ env.locals s₁.heap m₁ → News h₀ env.locals s₁.heap Λ₁ →
      wpAny (model prog w) A (assign target env v) (fun _ s₂ => wpAny (model prog w) A (execs body env) (TurnEnd sp h₀ env.locals Λ₁ (R (i + 1)) s₁ Q) E' s₂) E' s₁)
    (done : ∀ m' Λ' h' tk, Fr h₀ env.locals h' m' → News h₀ env.locals h' Λ' → TabOk sp Λ' → Step Λ Λ' → R n m' Λ' → Q .next { s with heap := h', toks := tk }) :
    wpAny (model prog w) A (pyIter (.ref r)) (fun it s₂ => codeAny (model prog w) A (.forLoop target it body [] env) RR s₂) E s := by
  obtain ⟨f1, f2, f3⟩ := fresh_addr F N
  have hs : Builtin.Range.rangeSize 0 n 1 = n := by rw [rangeSize_one]; split <;> omega
  refine wpAny_pyIter_range hr (small_one (by omega) (by omega) (by omega) (by omega)) ?_
  rw [hs]
  refine for_led (s := { s with heap := _ }) hRR (Walks.range hh s.heap.objs.size 0 1 n) (by simpa using f2) (fun b hb => by rw [List.mem_singleton.mp hb]; exact f3) f1 (fresh_lt N) (fun b hb => .inl hb) ?_ ?_ ?_ (F.push _) (news_pushed N _) T
    (fun i s' v Q' E' hP hst hq => wpAny_of_eq (ht _ v) hq) R hmono h0 ?_ done
  · intro i h hst b hb
    rw [List.mem_singleton.mp hb]
    exact ⟨_, hst, by nofun, _, rfl, fun q t => by simp [rawInt]⟩
  · intro i h hst b hb o e
    rw [List.mem_singleton.mp hb, hst] at e
    cases e
    exact .of_cls (by nofun)
  · show IsRangeIter _ _ _ _ _
    have : IsRangeIter (s.heap.push { cls := .type "range_iterator", data := .fields #[rawInt 0, rawInt n, rawInt 1] }) s.heap.objs.size 0 n 1 := Heap.get?_push_size _ rfl
    simpa using this
  · intro i v m₁ Λ₁ s₁ E' hs₁ hi hP hR hT hsub F₁ N₁
    obtain ⟨t', e⟩ := hP
    exact turn i v m₁ Λ₁ s₁ E' hs₁ hi ⟨t', by rw [e]; simp⟩ hR hT hsub F₁ N₁

theorem go_name {I v : Value} {x : Str} {px : Pos} : letOwnedTupleGo (.Name x px) I v = pure () := rfl
end
end Mine
namespace Mine
open PySem PySem.Calls PySem.W PyProof.Rows
def Hold (P : Prop) : Prop := P
theorem hold_out {P : Prop} (h : P) : Hold P := h
theorem hold_in {P : Prop} (h : Hold P) : P := h
theorem news_lt {h₀ h : Heap} {L : Addr} {Λ : Ldg} (N : News h₀ L h Λ) : ∀ p ∈ Λ, p.1 < h.objs.size := fun p hp => Heap.lt_size (N p hp).1
theorem execs_app {env : Env} (b : List Stmt) : ∀ a : List Stmt, execs (a ++ b) env = (execs a env >>= fun f => match f with | .next => execs b env | f => pure f)
  | [] => by rw [List.nil_append, execs_nil, pure_bind]
  | st :: rest => by
    rw [List.cons_append, execs_cons, execs_cons, bind_assoc]
    congr 1
    funext f
    cases f with
    | next => exact execs_app b rest
    | brk => simp
    | cont => simp
    | ret v => simp
theorem execs_take {M : Model} {A : Around} {E : Value → Shared → Prop} {env : Env} {Q : Flow → Shared → Prop} (n : Nat) {l : List Stmt} {s : Shared}
    (h : wpAny M A (execs (l.take n) env) (fun f s' => match f with | .next => Hold (wpAny M A (execs (l.drop n) env) Q E s') | f => Q f s') E s) : wpAny M A (execs l env) Q E s := by
  rw [← List.take_append_drop n l, execs_app]
  refine wpAny_bind (wpAny_mono h (fun f s' z => ?_) fun _ _ z => z)
  cases f <;> first | exact z | exact wpAny_pure z
end Mine
namespace Mine
open PySem PySem.Calls PySem.W PyProof.Rows
theorem fr_says {h₀ h : Heap} {L : Addr} {m : Str → Option Value} (l : List (Str × Value)) (F : Fr h₀ L h m) (e : ∀ p ∈ l, m p.1 = some p.2) : Fr h₀ L h (fun y => (l.lookup y).or (m y)) := by
  have : (fun y => (l.lookup y).or (m y)) = m := by
    funext y
    induction l with
    | nil => rfl
    | cons p r ih =>
      obtain ⟨x, v⟩ := p
      rw [List.lookup_cons]
      cases hxy : y == x with
      | true => rw [eq_of_beq hxy]; exact (e _ (.head _)).symm
      | false => exact ih fun q hq => e q (.tail _ hq)
  rw [this]; exact F
end Mine
namespace Mine
open PySem PySem.Calls PySem.W PyProof.Rows PySem.Flt PySem.Builtin PySem.Builtin.ObjectAttr
def WEnd (sp : List (Addr × Str)) (h₀ : Heap) (L : Addr) (Λ : Ldg) (n : Nat) (I : Nat → (Str → Option Value) → Ldg → Prop) (s₁ : Shared) (Q : Flow → Shared → Prop) (f : Flow) (s₂ : Shared) : Prop :=
  match f with
  | .ret v => Q (.ret v) s₂
  | .brk => Q .next s₂
  | _ => ∃ n' m₂ Λ₂ h₂ tk₂, n' < n ∧ s₂ = { s₁ with heap := h₂, toks := tk₂ } ∧ Fr h₀ L h₂ m₂ ∧ News h₀ L h₂ Λ₂ ∧ TabOk sp Λ₂ ∧ Step Λ Λ₂ ∧ I n' m₂ Λ₂
theorem WEnd.next {sp : List (Addr × Str)} {h₀ : Heap} {L : Addr} {Λ Λ₂ : Ldg} {n n' : Nat} {I : Nat → (Str → Option Value) → Ldg → Prop} {s₁ : Shared} {Q : Flow → Shared → Prop} {m₂ : Str → Option Value} {h₂ : Heap} {tk₂ : Nat}
    (hn : n' < n) (F : Fr h₀ L h₂ m₂) (N : News h₀ L h₂ Λ₂) (T : TabOk sp Λ₂) (S : Step Λ Λ₂) (r : I n' m₂ Λ₂) : WEnd sp h₀ L Λ n I s₁ Q .next { s₁ with heap := h₂, toks := tk₂ } := ⟨n', m₂, Λ₂, h₂, tk₂, hn, rfl, F, N, T, S, r⟩
section
variable {prog : Program} {w : World} {A : Around} {s : Shared} {env : Env} {h₀ : Heap} {sp : List (Addr × Str)} {RR : Result → Shared → Prop} {Q : Flow → Shared → Prop} {test : Expr} {body : List Stmt} {m : Str → Option Value} {Λ : Ldg}
theorem while_led (hRR : ∀ f s', Q f s' → RR (.ok f) s') (F : Fr h₀ env.locals s.heap m) (N : News h₀ env.locals s.heap Λ) (T : TabOk sp Λ) (I : Nat → (Str → Option Value) → Ldg → Prop) (n : Nat) (h0 : I n m Λ)
    (turn : ∀ n m₁ Λ₁ s₁ (E' : Value → Shared → Prop), (∃ h tk, s₁ = { s with heap := h, toks := tk }) → I n m₁ Λ₁ → TabOk sp Λ₁ → Step Λ Λ₁ → Fr h₀ env.locals s₁.heap m₁ → News h₀ env.locals s₁.heap Λ₁ →
      wpAny (model prog w) A (isTrue test env (eval test env)) (fun b s₂ => if b then wpAny (model prog w) A (execs body env) (WEnd sp h₀ env.locals Λ n I s Q) E' s₂ else Q .next s₂) E' s₁) :
    codeAny (model prog w) A (.whileLoop test body [] env) RR s := by
  refine codeAny_whileLoop (fun n s' => ∃ m₁ Λ₁ h tk, s' = { s with heap := h, toks := tk } ∧ I n m₁ Λ₁ ∧ TabOk sp Λ₁ ∧ Step Λ Λ₁ ∧ Fr h₀ env.locals h m₁ ∧ News h₀ env.locals h Λ₁) ?_ n ⟨m, Λ, s.heap, s.toks, rfl, h0, T, .refl, F, N⟩
  rintro n s' ⟨m₁, Λ₁, h, tk, rfl, hI, hT, hS, F₁, N₁⟩
  refine wpAny_mono (turn n m₁ Λ₁ _ _ ⟨_, _, rfl⟩ hI hT hS F₁ N₁) (fun b s₂ hb => ?_) fun _ _ e => e
  cases b with
  | false => exact wpAny_execs_nil (hRR _ _ hb)
  | true =>
    refine wpAny_mono hb (fun f s₃ h₃ => ?_) fun _ _ e => e
    have key : (∃ n' m₂ Λ₂ h₂ tk₂, n' < n ∧ s₃ = { s with heap := h₂, toks := tk₂ } ∧ Fr h₀ env.locals h₂ m₂ ∧ News h₀ env.locals h₂ Λ₂ ∧ TabOk sp Λ₂ ∧ Step Λ Λ₂ ∧ I n' m₂ Λ₂) →
        ∃ m, m < n ∧ ∃ m₁ Λ₁ h tk, s₃ = { s with heap := h, toks := tk } ∧ I m m₁ Λ₁ ∧ TabOk sp Λ₁ ∧ Step Λ Λ₁ ∧ Fr h₀ env.locals h m₁ ∧ News h₀ env.locals h Λ₁ := by
      rintro ⟨n', m₂, Λ₂, h₂, tk₂, hn, rfl, a, b, c, d, e⟩
      exact ⟨n', hn, m₂, Λ₂, h₂, tk₂, rfl, e, c, d, a, b⟩
    cases f with
    | ret v => exact hRR _ _ h₃
    | brk => exact hRR _ _ h₃
    | cont => exact key h₃
    | next => exact key h₃
theorem getMethod_led {E : Value → Shared → Prop} {L a D : Addr} {fd : FuncData} {es : List DictEntry} {n : Nat} {name : Str} {v : Value} {pl : Sem Bool} {Q : Value × List Value → Shared → Prop} (N : News h₀ L s.heap Λ) (ha : (a, fnObj (some D) fd) ∈ Λ) (hD : (D, dictOf es n) ∈ Λ) (hk : StrKeys es.toArray) (hv : nsFind es.toArray name = some v)
    (hnm : typeLookup (.type "function") name = pure none) (hh : handedOut v = pure v) (h : Q (v, []) { s with toks := s.toks + 1 }) : wpAny (model prog w) A (getMethod (.ref a) name pl) Q E s := by
  obtain ⟨hp, g, d, t, os⟩ := s
  exact fn_getMethod (D := D) (md := fun x => nsFind es.toArray x) ⟨⟨fd, #[], (N _ ha).1⟩, _, es.toArray, n, (N _ hD).1, rfl, hk, fun _ => rfl⟩ hnm hv hh h
theorem getAttr_led {E : Value → Shared → Prop} {L a D : Addr} {fd : FuncData} {es : List DictEntry} {n : Nat} {name : Str} {v : Value} {ex : Bool} {Q : Value → Shared → Prop} (N : News h₀ L s.heap Λ) (ha : (a, fnObj (some D) fd) ∈ Λ) (hD : (D, dictOf es n) ∈ Λ) (hk : StrKeys es.toArray) (hv : nsFind es.toArray name = some v)
    (hnm : typeLookup (.type "function") name = pure none) (hh : handedOut v = pure v) (h : Q v { s with toks := s.toks + 1 }) : wpAny (model prog w) A (getAttr (.ref a) name ex) Q E s := by
  obtain ⟨hp, g, d, t, os⟩ := s
  exact fn_getAttr (D := D) (md := fun x => nsFind es.toArray x) ⟨⟨fd, #[], (N _ ha).1⟩, _, es.toArray, n, (N _ hD).1, rfl, hk, fun _ => rfl⟩ hnm hv hh h
end

section
variable {γ : Type}
/-- search_reverse, plainly -/
def revGo (nx : Int → Option (Int × Int × γ)) (col : Int) : Nat → Int → Option (Int × Int × γ) → Option (Int × Int × γ)
  | 0, _, found => found
  | k + 1, s, found => match nx s with
    | none => found
    | some (i, j, g) => if i < col ∧ j ≤ col then revGo nx col k j (some (i, j, g)) else found
/-- the finds go on -/
def Goes (nx : Int → Option (Int × Int × γ)) (N : Nat) : Prop := ∀ s i j g, 0 ≤ s → nx s = some (i, j, g) → s ≤ i ∧ i < j ∧ j ≤ N
theorem revGo_fuel {nx : Int → Option (Int × Int × γ)} {N : Nat} (hg : Goes nx N) (col : Int) : ∀ (k k' : Nat) (s : Int) (f : Option (Int × Int × γ)), 0 ≤ s → (N : Int) - s < k → (N : Int) - s < k' → revGo nx col k s f = revGo nx col k' s f
  | 0, 0, _, _, _, _, _ => rfl
  | 0, k' + 1, s, f, hs, h1, h2 => by
    unfold revGo
    cases h : nx s with
    | none => rfl
    | some r => obtain ⟨i, j, g⟩ := r; obtain ⟨a, b, c⟩ := hg s i j g hs h; omega
  | k + 1, 0, s, f, hs, h1, h2 => by
    unfold revGo
    cases h : nx s with
    | none => rfl
    | some r => obtain ⟨i, j, g⟩ := r; obtain ⟨a, b, c⟩ := hg s i j g hs h; omega
  | k + 1, k' + 1, s, f, hs, h1, h2 => by
    unfold revGo
    cases h : nx s with
    | none => rfl
    | some r =>
      obtain ⟨i, j, g⟩ := r
      obtain ⟨a, b, c⟩ := hg s i j g hs h
      dsimp only
      split
      · exact revGo_fuel hg col k k' j _ (by omega) (by omega) (by omega)
      · rfl
end
end Mine
namespace Mine
open PySem PySem.Calls PySem.W PyProof.Rows PySem.Flt PySem.Builtin PySem.Builtin.ObjectAttr
theorem Con.ofRest {G : Gl} {d u : Nat} {f : Addr} {vs rest : List Value} {Pre : Ldg → Prop} {Post : Value → Ldg → Prop} {name qual : Str} {params : Arguments} {body : List Stmt} {scope : Scope} {dV kV doc pm cdv ct oc : Value} {an od : Option Addr} {osl : Array (Option Value)} {binds : Addr → List (Str × Value)} {g₁ : Addr → Option (List (Str × Value))}
    (ho : G.K.lookup f = some ⟨oc, od, .func (fnOf name qual params body scope dV kV doc pm an cdv ct), osl⟩) (hcd : codeIn G.K cdv qual = true)
    (hv : vs.drop (params.posonlyargs.length + params.args.length) = rest)
    (hp : peek1 G.K ⟨G.prog, G.w.params⟩ (bindArgs (fnOf name qual params body scope dV kV doc pm an cdv ct) ⟨vs, []⟩) = some (tupObj rest, g₁))
    (hg : ∀ D, g₁ D = some (binds D)) (hloc : ∀ D, ∀ y ∈ binds D, scope.names.lookup y.1 = some .local)
    (hco : scope.isCoroutine = false) (hgen : scope.isGenerator = false) (hk : scope.kind = .function) (hcell : ∀ x ∈ scope.names, x.2 ≠ .cell) (hmono : ∀ Λ Λ', (∀ p ∈ Λ, p ∈ Λ') → Pre Λ → Pre Λ')
    (h : ∀ D, Body retOf G d u qual scope f cdv [] (fun y => (binds D).reverse.lookup y) (execs body) (fun Λ => Pre Λ ∧ (D, tupObj rest) ∈ Λ) (fun _ v Λ' => Post v Λ')) : Con G (d + 1) (u + 3) f vs Pre (fun _ v Λ' => Post v Λ') := by
  intro dp un A h₀ L m Λ s Q E c hpre hd hu hr
  obtain ⟨⟨gd, cn, cs, a, ccd, cl, outer, A₀, base, rfl, B, hcs, hC⟩, F, X, N, T, tab⟩ := c
  refine wpAny_call ?_
  refine kp_rest B F X N T rfl rfl hcs ho hcd (by show dp < _; omega) hv hp hg hloc (fun D g L' h₁ hlt FG F' N' B' X' T' => ?_) hco hgen hk hcell
  refine wpAny_mono (h D (dp + 1) (un + 3) gd L' _ _ base g _ _ _ B' F' X' N' T' hC (tab.sub fun _ h => List.mem_cons_of_mem _ h) ⟨hmono _ _ (fun _ h => List.mem_cons_of_mem _ h) hpre, .head _⟩ (by omega) (by omega)) (fun fl s' hl => ?_) fun _ _ e => e
  obtain ⟨m', Λ', h', tk, rfl, F1, N1, t1, S1, P1⟩ := hl
  refine leaveK_ F1 N1 fun F2 N2 => ?_
  have z := hr _ Λ' h' tk ⟨⟨gd, cn, cs, a, ccd, cl, outer, A₀, base, rfl, B, hcs, hC⟩, F2, X, N2, T, t1⟩ ((Step.cons hlt).trans S1) P1
  cases fl <;> exact z
end Mine
namespace Mine
open PySem PySem.Calls PySem.W PyProof.Rows PySem.Flt PySem.Builtin PySem.Builtin.ObjectAttr
/-- all but the tables and what lies at M stays -/
def Keep (M : List Addr) (Λ Λ' : Ldg) : Prop := ∀ p ∈ Λ, NT p.2 → p.1 ∉ M → p ∈ Λ'
theorem Keep.refl {M : List Addr} {Λ : Ldg} : Keep M Λ Λ := fun _ h _ _ => h
theorem Keep.trans {M : List Addr} {a b c : Ldg} (x : Keep M a b) (y : Keep M b c) : Keep M a c := fun p h k l => y p (x p h k l) k l
theorem Step.keepM {M : List Addr} {a b : Ldg} (x : Step a b) : Keep M a b := fun p h k _ => x.keep p h k
def TurnEndK (M : List Addr) (sp : List (Addr × Str)) (h₀ : Heap) (L : Addr) (Λ₁ : Ldg) (R : (Str → Option Value) → Ldg → Prop) (s₁ : Shared) (Q : Flow → Shared → Prop) (f : Flow) (s₂ : Shared) : Prop :=
  match f with
  | .ret v => Q (.ret v) s₂
  | .brk => Q .next s₂
  | _ => ∃ m₂ Λ₂ h₂ tk₂, s₂ = { s₁ with heap := h₂, toks := tk₂ } ∧ Fr h₀ L h₂ m₂ ∧ News h₀ L h₂ Λ₂ ∧ TabOk sp Λ₂ ∧ Keep M Λ₁ Λ₂ ∧ R m₂ Λ₂
theorem TurnEndK.next {M : List Addr} {sp : List (Addr × Str)} {h₀ : Heap} {L : Addr} {Λ₁ Λ₂ : Ldg} {R : (Str → Option Value) → Ldg → Prop} {s₁ : Shared} {Q : Flow → Shared → Prop} {m₂ : Str → Option Value} {h₂ : Heap} {tk₂ : Nat}
    (F : Fr h₀ L h₂ m₂) (N : News h₀ L h₂ Λ₂) (T : TabOk sp Λ₂) (S : Keep M Λ₁ Λ₂) (r : R m₂ Λ₂) : TurnEndK M sp h₀ L Λ₁ R s₁ Q .next { s₁ with heap := h₂, toks := tk₂ } := ⟨m₂, Λ₂, h₂, tk₂, rfl, F, N, T, S, r⟩
section
variable {prog : Program} {w : World} {A : Around} {s : Shared} {env : Env} {h₀ : Heap} {sp : List (Addr × Str)}
theorem for_keep {RR : Result → Shared → Prop} {Q : Flow → Shared → Prop} {target : Expr} {body : List Stmt} {I : Addr} {fp wr : List Addr} {n : Nat} {P : Nat → Value → Prop} {St : Nat → Heap → Prop} {m : Str → Option Value} {Λ : Ldg} {M : List Addr}
    (hRR : ∀ f s', Q f s' → RR (.ok f) s')
    (W : Walks prog w A I fp wr n P St) (hLf : env.locals ∉ fp) (hwr : ∀ b ∈ wr, h₀.get? b = none) (hnw : ∀ p ∈ Λ, p.1 ∉ wr) (hM : ∀ b ∈ fp, b ∉ M)
    (hit : ∀ i h, St i h → ∀ b ∈ wr, ∃ o, h.get? b = some o ∧ IterLike o)
    (hnt : ∀ i h, St i h → ∀ b ∈ fp, ∀ o, h.get? b = some o → NT o)
    (hst : St 0 s.heap) (F : Fr h₀ env.locals s.heap m) (N : News h₀ env.locals s.heap Λ) (T : TabOk sp Λ)
    (hgo : ∀ i (s' : Shared) v (Q' : Unit → Shared → Prop) (E' : Value → Shared → Prop), P i v → St (i + 1) s'.heap → Q' () s' → wpAny (model prog w) A (letOwnedTupleGo target (.ref I) v) Q' E' s')
    (R : Nat → (Str → Option Value) → Ldg → Prop) (hmono : ∀ i m Λ Λ', NSub Λ Λ' → R i m Λ → R i m Λ') (h0 : R 0 m Λ)
    (turn : ∀ i v m₁ Λ₁ s₁ (E' : Value → Shared → Prop), (∃ h tk, s₁ = { s with heap := h, toks := tk }) → i < n → P i v → R i m₁ Λ₁ → TabOk sp Λ₁ → Keep M Λ Λ₁ → Fr h₀ env.locals s₁.heap m₁ → News h₀ env.locals s₁.heap Λ₁ →
      wpAny (model prog w) A (assign target env v) (fun _ s₂ => wpAny (model prog w) A (execs body env) (TurnEndK M sp h₀ env.locals Λ₁ (R (i + 1)) s₁ Q) E' s₂) E' s₁)
    (done : ∀ m' Λ' h' tk, Fr h₀ env.locals h' m' → News h₀ env.locals h' Λ' → TabOk sp Λ' → Keep M Λ Λ' → R n m' Λ' → Q .next { s with heap := h', toks := tk }) :
    codeAny (model prog w) A (.forLoop target (.ref I) body [] env) RR s := by
  have hLw : env.locals ∉ wr := fun h => hLf (W.sub _ h)
  have old : ∀ b o, h₀.get? b = some o → b ∉ wr := fun b o e hb => by rw [hwr b hb] at e; cases e
  refine codeAny_forLoop_any
    (fun k s' => ∃ h' tk m' Λ' i, s' = { s with heap := h', toks := tk } ∧ St i h' ∧ Fr h₀ env.locals h' m' ∧ News h₀ env.locals h' Λ' ∧ (∀ p ∈ Λ', p.1 ∉ wr) ∧ TabOk sp Λ' ∧ Keep M Λ Λ' ∧ R i m' Λ' ∧ i ≤ n ∧ k = n + 1 - i) ?_ (n + 1)
    ⟨s.heap, s.toks, m, Λ, 0, rfl, hst, F, N, hnw, T, fun _ h _ _ => h, h0, Nat.zero_le _, rfl⟩
  rintro k s' ⟨h', tk, m', Λ', i, rfl, hst', F', N', hnw', T', S', hR, hi, rfl⟩
  have next : ∀ h₁ : Heap, (∀ b o, b ∉ wr → h'.get? b = some o → h₁.get? b = some o) → Fr h₀ env.locals h₁ m' ∧ News h₀ env.locals h₁ Λ' := fun h₁ hk₁ =>
    ⟨⟨F'.ns.at' fun o e => hk₁ _ o hLw e, fun b o e => hk₁ b o (old b o e) (F'.keep b o e), F'.above⟩, fun p hp => ⟨hk₁ _ _ (hnw' p hp) (N' p hp).1, (N' p hp).2⟩⟩
  by_cases hlt : i < n
  · refine W.item i _ _ _ hlt hst' fun v h₁ tk₁ hP hst₁ hk₁ => ?_
    obtain ⟨F₁, N₁⟩ := next h₁ hk₁
    have Nown : News h₀ env.locals h₁ (ownOf h₀ fp h₁) := news_ownOf hLf
    have N2 := Nown.append N₁
    refine hgo i _ v _ _ hP hst₁ ?_
    have sub1 : ∀ p ∈ Λ', p ∈ ownOf h₀ fp h₁ ++ Λ' := fun p hp => List.mem_append_right _ hp
    have SO : Keep M Λ (ownOf h₀ fp h₁ ++ Λ') := fun p hp hn hm => sub1 p (S' p hp hn hm)
    refine wpAny_mono (turn i v m' (ownOf h₀ fp h₁ ++ Λ') { s with heap := h₁, toks := tk₁ } _ ⟨_, _, rfl⟩ hlt hP (hmono _ _ _ _ (fun p hp _ => sub1 p hp) hR) (T'.sub sub1) SO F₁ N2) (fun _ s₂ h₂ => wpAny_mono h₂ (fun f s₃ h₃ => ?_) fun _ _ e => e) fun _ _ e => e
    have key : (∃ m₂ Λ₂ h₂ tk₂, s₃ = { s with heap := h₂, toks := tk₂ } ∧ Fr h₀ env.locals h₂ m₂ ∧ News h₀ env.locals h₂ Λ₂ ∧ TabOk sp Λ₂ ∧ Keep M (ownOf h₀ fp h₁ ++ Λ') Λ₂ ∧ R (i + 1) m₂ Λ₂) → ∃ mm, mm < n + 1 - i ∧ ∃ h' tk m' Λ' i, s₃ = { s with heap := h', toks := tk } ∧ St i h' ∧ Fr h₀ env.locals h' m' ∧ News h₀ env.locals h' Λ' ∧ (∀ p ∈ Λ', p.1 ∉ wr) ∧ TabOk sp Λ' ∧ Keep M Λ Λ' ∧ R i m' Λ' ∧ i ≤ n ∧ mm = n + 1 - i := by
      rintro ⟨m₂, Λ₂, h₂, tk₂, rfl, F₂, N₂, T₂, S₂, hR₂⟩
      have hst₂ : St (i + 1) h₂ := by
        refine W.frame _ _ _ hst₁ fun b hb o e => ?_
        cases hn : h₀.get? b with
        | some o₀ =>
          have : o₀ = o := by have := F₁.keep b o₀ hn; rw [e] at this; exact (Option.some.inj this).symm
          exact this ▸ F₂.keep b o₀ hn
        | none =>
          have hm := List.mem_append_left Λ' (mem_ownOf hb hn e)
          exact (N₂ _ (S₂ _ hm (hnt _ _ hst₁ b hb o e) (hM b hb))).1
      have ne : ∀ p ∈ Λ₂, NI p.2 → p.1 ∉ wr := fun p hp hni hw => by
        obtain ⟨o, ho, hl⟩ := hit _ _ hst₂ _ hw
        rw [(N₂ p hp).1] at ho
        cases ho
        exact hni hl
      have hs : NSub Λ₂ (Λ₂.filter fun p => !wr.contains p.1) := fun p hp hni => List.mem_filter.mpr ⟨hp, by simpa using ne p hp hni⟩
      refine ⟨n + 1 - (i + 1), by omega, h₂, tk₂, m₂, _, i + 1, rfl, hst₂, F₂, news_sub N₂ fun p hp => (List.mem_filter.mp hp).1, fun p hp => by simpa using (List.mem_filter.mp hp).2, T₂.nsub hs, ?_, hmono _ _ _ _ hs hR₂, hlt, rfl⟩
      exact fun p hp hn hm => List.mem_filter.mpr ⟨S₂ p (sub1 p (S' p hp hn hm)) hn hm, by simpa using hnw p hp⟩
    cases f with
    | ret v => exact hRR _ _ h₃
    | brk => exact hRR _ _ h₃
    | cont => exact key h₃
    | next => exact key h₃
  · have hin : i = n := by omega
    subst hin
    refine W.done _ _ _ hst' fun h₁ tk₁ hk₁ => wpAny_execs_nil ?_
    obtain ⟨F₁, N₁⟩ := next h₁ hk₁
    exact hRR _ _ (done m' Λ' h₁ tk₁ F₁ N₁ T' S' hR)
end
section
variable {prog : Program} {w : World} {A : Around} {s : Shared} {env : Env} {h₀ : Heap} {sp : List (Addr × Str)} {E : Value → Shared → Prop} {RR : Result → Shared → Prop} {Q : Flow → Shared → Prop} {target : Expr} {body : List Stmt} {m : Str → Option Value} {Λ : Ldg}
theorem iter_listK (hRR : ∀ f s', Q f s' → RR (.ok f) s') (hh : A.handled = none) {l : Addr} {vs : List Value} {ep : Nat} (F : Fr h₀ env.locals s.heap m) (N : News h₀ env.locals s.heap Λ) (T : TabOk sp Λ) (M : List Addr) (hMl : ∀ a ∈ M, a < s.heap.objs.size) (hlM : l ∉ M) (hl : (l, listObj vs ep) ∈ Λ)
    (hgo : ∀ (s' : Shared) I i v (Q' : Unit → Shared → Prop) (E' : Value → Shared → Prop), s'.heap.IsListIter I l i → v ∈ vs → Q' () s' → wpAny (model prog w) A (letOwnedTupleGo target (.ref I) v) Q' E' s')
    (R : Nat → (Str → Option Value) → Ldg → Prop) (hmono : ∀ i m Λ Λ', NSub Λ Λ' → R i m Λ → R i m Λ') (h0 : R 0 m Λ)
    (turn : ∀ i v m₁ Λ₁ s₁ (E' : Value → Shared → Prop), (∃ h tk, s₁ = { s with heap := h, toks := tk }) → i < vs.length → vs[i]? = some v → R i m₁ Λ₁ → TabOk sp Λ₁ → Keep M Λ Λ₁ → Fr h₀ env.locals s₁.heap m₁ → News h₀ env.locals s₁.heap Λ₁ →
      wpAny (model prog w) A (assign target env v) (fun _ s₂ => wpAny (model prog w) A (execs body env) (TurnEndK M sp h₀ env.locals Λ₁ (R (i + 1)) s₁ Q) E' s₂) E' s₁)
    (done : ∀ m' Λ' h' tk, Fr h₀ env.locals h' m' → News h₀ env.locals h' Λ' → TabOk sp Λ' → Keep M Λ Λ' → R vs.length m' Λ' → Q .next { s with heap := h', toks := tk }) :
    wpAny (model prog w) A (pyIter (.ref l)) (fun it s₂ => codeAny (model prog w) A (.forLoop target it body [] env) RR s₂) E s := by
  obtain ⟨f1, f2, f3⟩ := fresh_addr F N
  have hls : s.heap.IsList l vs.toArray := ⟨_, (N _ hl).1, rfl, ep, rfl⟩
  have hne : l ≠ s.heap.objs.size := Nat.ne_of_lt (Heap.lt_size (N _ hl).1)
  refine wpAny_pyIter_list hls ?_
  have W := Walks.list (prog := prog) (w := w) hh s.heap.objs.size l hne vs.toArray
  rw [show vs.toArray.size = vs.length from List.size_toArray] at W
  refine for_keep (s := { s with heap := _ }) hRR W ?_ (fun b hb => by rw [List.mem_singleton.mp hb]; exact f3) f1 ?_ ?_ ?_ ?_ (F.push _) (news_pushed N _) T ?_ R hmono h0 ?_ done
  · intro hm
    rcases List.mem_cons.mp hm with e | hm
    · exact f2 e
    · exact (N _ hl).2.1 (List.mem_singleton.mp hm).symm
  · intro b hb hm
    rcases List.mem_cons.mp hb with e | hb
    · rw [e] at hm; exact Nat.lt_irrefl _ (hMl _ hm)
    · rw [List.mem_singleton.mp hb] at hm; exact hlM hm
  · rintro i h ⟨⟨o, ho, hc, hd⟩, _⟩ b hb
    rw [List.mem_singleton.mp hb]
    exact ⟨o, ho, by rw [hc]; nofun, _, hd, fun q t => by simp⟩
  · rintro i h ⟨⟨o', ho, hc, hd⟩, ⟨ol, hol, hcl, _⟩⟩ b hb o e
    rcases List.mem_cons.mp hb with rfl | hb
    · rw [ho] at e; cases e; exact .of_cls (by rw [hc]; nofun)
    · rw [List.mem_singleton.mp hb, hol] at e; cases e; exact .of_cls (by rw [hcl]; nofun)
  · exact ⟨⟨_, Heap.get?_push_size _ rfl, rfl, rfl⟩, hls.at fun o e => Heap.get?_push_of_some _ e⟩
  · intro i s' v Q' E' hP hst hq
    exact hgo s' _ _ v Q' E' hst.1 (by have : vs[i]? = some v := by simpa using hP
                                       exact List.mem_of_getElem? this) hq
  · intro i v m₁ Λ₁ s₁ E' hs₁ hi hP hR hT hsub F₁ N₁
    exact turn i v m₁ Λ₁ s₁ E' hs₁ hi (by simpa using hP) hR hT hsub F₁ N₁
end
end Mine
namespace Mine
open PySem PySem.Calls PySem.W PyProof.Rows PySem.Flt PySem.Builtin PySem.Builtin.ObjectAttr
section
variable {prog : Program} {w : World} {A : Around} {E : Value → Shared → Prop} {s : Shared} {env : Env} {h₀ : Heap} {sp : List (Addr × Str)} {RR : Result → Shared → Prop} {Q : Flow → Shared → Prop} {target : Expr} {body : List Stmt} {m : Str → Option Value} {Λ : Ldg}
end
end Mine
namespace Mine
open PySem PySem.Calls PySem.W PyProof.Rows PySem.Flt PySem.Builtin PySem.Builtin.ObjectAttr
theorem ints_at {vs : List Value} {ns : List Int} (h : IntsAre vs ns) : ∀ i : Nat, (vs[i]? = none ∧ ns[i]? = none) ∨ ∃ n t, vs[i]? = some (.int n t) ∧ ns[i]? = some n := by
  induction h with
  | nil => intro i; exact .inl ⟨rfl, rfl⟩
  | cons n t _ ih =>
    intro i
    cases i with
    | zero => exact .inr ⟨_, _, rfl, rfl⟩
    | succ i => simpa using ih i
theorem ints_picked {vs : List Value} {ns : List Int} (h : IntsAre vs ns) : ∀ is : List Nat, IntsAre (is.filterMap (vs.toArray[·]?)) (is.filterMap (ns[·]?))
  | [] => .nil
  | i :: r => by
    rcases ints_at h i with ⟨e, e'⟩ | ⟨n, t, e, e'⟩
    · rw [List.filterMap_cons_none (by simpa using e), List.filterMap_cons_none e']; exact ints_picked h r
    · rw [List.filterMap_cons_some (by simpa using e), List.filterMap_cons_some e']; exact .cons _ _ (ints_picked h r)
def pickInts (ns : List Int) (lo hi st : Option Int) : List Int := (sliceRange (sliceBounds lo hi st ns.length).1 (sliceBounds lo hi st ns.length).2.1 (sliceBounds lo hi st ns.length).2.2).filterMap (ns[·]?)
theorem ints_slice {vs : List Value} {ns : List Int} (h : IntsAre vs ns) (lo hi st : Option Int) : IntsAre (slicePick vs.toArray lo hi st).toList (pickInts ns lo hi st) := by
  have e : vs.length = ns.length := h.length
  unfold slicePick pickInts
  rw [List.size_toArray, e]
  exact ints_picked h _
theorem sum_slice {prog : Program} {w : World} {A : Around} {E : Value → Shared → Prop} {s : Shared} {h₀ : Heap} {L l : Addr} {m : Str → Option Value} {news : List (Addr × Obj)} {vs : List Value} {ns : List Int} {lo hi st : Option Int} {Q : Value → Shared → Prop} (hi' : IntsAre vs ns) (F : Fr h₀ L s.heap m) (N : News h₀ L s.heap news) (hh : A.handled = none) (hl : s.heap.IsList l (slicePick vs.toArray lo hi st))
    (h : ∀ h' tk t', Fr h₀ L h' m → News h₀ L h' news → Q (.int (pickInts ns lo hi st).sum t') { s with heap := h', toks := tk }) : wpAny (model prog w) A (call (.builtin "sum") [.ref l]) Q E s :=
  LSm.sum_ints (vs := (slicePick vs.toArray lo hi st).toList) F N hh (by simpa using hl) (ints_slice hi' lo hi st) h
theorem sum_sliceN {prog : Program} {w : World} {A : Around} {E : Value → Shared → Prop} {s : Shared} {h₀ : Heap} {L l : Addr} {m : Str → Option Value} {news : List (Addr × Obj)} {vs : List Value} {ns : List Int} {lo hi st : Option Int} {Q : Value → Shared → Prop} (F : Fr h₀ L s.heap m) (N : News h₀ L s.heap news) (hm : (l, { cls := .type "list", data := .seq (slicePick vs.toArray lo hi st) }) ∈ news) (hi' : IntsAre vs ns) (hh : A.handled = none)
    (h : ∀ h' tk t', Fr h₀ L h' m → News h₀ L h' news → Q (.int (pickInts ns lo hi st).sum t') { s with heap := h', toks := tk }) : wpAny (model prog w) A (call (.builtin "sum") [.ref l]) Q E s :=
  sum_slice hi' F N hh ⟨_, (N _ hm).1, rfl, 0, rfl⟩ h
end Mine
namespace Mine
open PySem PySem.Calls PySem.W PyProof.Rows PySem.Flt PySem.Builtin PySem.Builtin.ObjectAttr
abbrev tl (x : Str) : List Nat := x.cps.toList
theorem str_ext {a b : Str} (h : tl a = tl b) : a = b := Str.ext' (Array.toList_inj.mp h)
theorem tl_append (a b : Str) : tl (a ++ b) = tl a ++ tl b := by simp [tl, Str.cps_append]
theorem tl_len (a : Str) : (tl a).length = a.length := by simp [Str.length]
theorem tl_mk (l : List Nat) : tl ⟨l.toArray⟩ = l := rfl
theorem slice_mid (x : Str) {a b : Nat} (hab : a ≤ b) (hb : b ≤ x.length) : tl (Txt.slice x (some (a : Int)) (some (b : Int))) = ((tl x).drop a).take (b - a) := by
  show tl (StrLaws.sliceText x _ _) = _
  rw [StrLaws.sliceText_nat x hab hb]
theorem slice_to (x : Str) {b : Nat} (hb : b ≤ x.length) : tl (Txt.slice x none (some (b : Int))) = (tl x).take b := by
  show tl (StrLaws.sliceText x _ _) = _
  rw [StrLaws.sliceText_to ⟨by omega, by rw [← tl_len] at hb; exact_mod_cast hb⟩]
  simp
theorem slice_from (x : Str) {a : Nat} (ha : a ≤ x.length) : tl (Txt.slice x (some (a : Int)) none) = (tl x).drop a := by
  show tl (StrLaws.sliceText x _ _) = _
  rw [StrLaws.sliceText_from ⟨by omega, by rw [← tl_len] at ha; exact_mod_cast ha⟩]
  rw [tl_mk, List.take_of_length_le]
  · simp
  · simp only [List.length_drop]; omega
/-- where a piece stands -/
abbrev Occ (x y : Str) (k : Nat) : Prop := StrLaws.At x y x.length k
theorem occ_iff {x y : Str} (hy : 1 ≤ y.length) (k : Nat) : Occ x y k ↔ (tl y).isPrefixOf ((tl x).drop k) = true := by
  rw [List.isPrefixOf_iff_prefix, List.prefix_iff_eq_take, tl_len]
  constructor
  · rintro ⟨h1, h2⟩
    rw [StrLaws.subAt_eq] at h2
    exact (eq_of_beq h2).symm
  · intro h
    refine ⟨?_, ?_⟩
    · have := congrArg List.length h
      simp only [List.length_take, List.length_drop, tl_len] at this
      omega
    · rw [StrLaws.subAt_eq, ← h]; simp
abbrev ChainG := StrLaws.ChainG
abbrev cutsOf (x y : Str) : List Nat := Str.occurrences x y 0 x.length (x.length + 1)
theorem chain_app {x y : Str} {hi : Nat} : ∀ {p q : List Nat} {a f : Nat}, ChainG x y hi a (p ++ q) f → ∃ m, ChainG x y hi a p m ∧ ChainG x y hi m q f
  | [], _, a, _, h => ⟨a, rfl, h⟩
  | c :: p, q, a, f, h => by
    obtain ⟨h1, h2, h3, h4⟩ := h
    obtain ⟨m, h5, h6⟩ := chain_app (p := p) h4
    exact ⟨m, ⟨h1, h2, h3, h5⟩, h6⟩
theorem chain_le {x y : Str} {hi : Nat} : ∀ {p : List Nat} {a f : Nat}, ChainG x y hi a p f → a ≤ f ∧ ∀ c ∈ p, a ≤ c ∧ c + y.length ≤ f ∧ c + y.length ≤ hi
  | [], a, f, h => ⟨by have : f = a := h; omega, fun _ h => nomatch h⟩
  | c :: p, a, f, h => by
    obtain ⟨h1, h2, h3, h4⟩ := h
    obtain ⟨h5, h6⟩ := chain_le h4
    have := h2.1
    refine ⟨by omega, fun c' hc => ?_⟩
    rcases List.mem_cons.mp hc with rfl | hc
    · exact ⟨h1, h5, this⟩
    · have := h6 c' hc; omega
/-- the text put together anew -/
def glueTo (X Z : List Nat) (w : Nat) : Nat → List Nat → Nat → List Nat
  | a, [], e => (X.drop a).take (e - a)
  | a, c :: r, e => (X.drop a).take (c - a) ++ Z ++ glueTo X Z w (c + w) r e
theorem glueTo_snoc (X Z : List Nat) (w : Nat) : ∀ (r : List Nat) (a c e : Nat), glueTo X Z w a (r ++ [c]) e = glueTo X Z w a r c ++ (Z ++ (X.drop (c + w)).take (e - (c + w)))
  | [], a, c, e => by simp [glueTo]
  | b :: r, a, c, e => by
    show _ ++ Z ++ glueTo X Z w (b + w) (r ++ [c]) e = _ ++ Z ++ glueTo X Z w (b + w) r c ++ _
    rw [glueTo_snoc X Z w r]
    simp only [List.append_assoc]
theorem strSub_tl (x : Str) (i j : Nat) : tl (Str.strSub x i j) = ((tl x).drop i).take (j - i) := StrLaws.strSub_toList x i j
theorem join_parts (x z : Str) (w : Nat) : ∀ (cuts : List Nat) (a : Nat), tl (Str.join z (StrLaws.partsFrom x w a cuts)) = glueTo (tl x) (tl z) w a cuts x.length
  | [], a => by
    show tl (Str.strSub x a x.length) = _
    rw [strSub_tl]; rfl
  | c :: r, a => by
    obtain ⟨p, q, e⟩ := StrLaws.partsFrom_ne x w (c + w) r
    have ih := join_parts x z w r (c + w)
    show tl (Str.join z (Str.strSub x a c :: StrLaws.partsFrom x w (c + w) r)) = _
    rw [e] at ih ⊢
    show tl (Str.strSub x a c ++ z ++ Str.join z (p :: q)) = _
    rw [tl_append, tl_append, ih, strSub_tl]
    rfl
theorem strs_inj : ∀ {a b : List Str}, a.map WData.str = b.map WData.str → a = b
  | [], [], _ => rfl
  | x :: a, y :: b, h => by
    simp only [List.map_cons, List.cons.injEq] at h
    obtain ⟨h1, h2⟩ := h
    cases h1
    rw [strs_inj h2]
theorem split_eq (x y : Str) (hy : 1 ≤ y.length) : Txt.split x y = Str.partsBetween x (cutsOf x y) y.length := by
  have hy' : (y.length == 0) = false := by simp; omega
  have h := m_split x y hy'
  have e : GW2.means .split (.str x) (.str y) = (if (y.length == 0) = true then Option.none else some (WData.list ((Str.partsBetween x (cutsOf x y) y.length).map .str))) := rfl
  rw [e, if_neg (by rw [hy']; nofun)] at h
  exact (strs_inj (WData.list.inj (Option.some.inj h))).symm
theorem repl_tl (x y z : Str) (hy : 1 ≤ y.length) : tl (Txt.join z (Txt.split x y)) = glueTo (tl x) (tl z) y.length 0 (cutsOf x y) x.length := by
  show tl (Str.glued z (Txt.split x y)) = _
  rw [StrLaws.glued_eq_join, split_eq x y hy, StrLaws.partsBetween_eq, join_parts]
/-- a search goes from find to find -/
def NxOk {γ : Type} (x y : Str) (nx : Int → Option (Int × Int × γ)) : Prop :=
  ∀ a : Nat, a ≤ x.length → (nx a = none ∧ ∀ k, a ≤ k → ¬ Occ x y k) ∨ ∃ c g, a ≤ c ∧ Occ x y c ∧ (∀ k, a ≤ k → k < c → ¬ Occ x y k) ∧ nx a = some ((c : Int), (c : Int) + (y.length : Int), g)
section
variable {γ : Type} {x y : Str} {nx : Int → Option (Int × Int × γ)}
theorem nx_head (H : NxOk x y nx) {a c f : Nat} {r : List Nat} (ha : a ≤ x.length) (h : ChainG x y x.length a (c :: r) f) : ∃ g, nx a = some ((c : Int), (c : Int) + (y.length : Int), g) := by
  obtain ⟨h1, h2, h3, h4⟩ := h
  rcases H a ha with ⟨e, k⟩ | ⟨c', g, k1, k2, k3, k4⟩
  · exact absurd h2 (k c h1)
  · have : c' = c := by
      rcases Nat.lt_trichotomy c' c with l | l | l
      · exact absurd k2 (h3 c' k1 l)
      · exact l
      · exact absurd h2 (k3 c h1 l)
    subst this
    exact ⟨g, k4⟩
theorem revGo_chain (H : NxOk x y nx) (hw : 1 ≤ y.length) (col : Int) {post : List Nat} {f : Nat} (ht : ∀ k, f ≤ k → ¬ Occ x y k) (hp : ∀ c, post.head? = some c → ¬ ((c : Int) < col ∧ (c : Int) + (y.length : Int) ≤ col)) :
    ∀ (pre : List Nat) (k a : Nat) (fd : Option (Int × Int × γ)), ChainG x y x.length a (pre ++ post) f → a ≤ x.length → x.length < a + k → (∀ c ∈ pre, (c : Int) < col ∧ (c : Int) + (y.length : Int) ≤ col) →
      (pre = [] → revGo nx col k a fd = fd) ∧ (∀ (p : List Nat) (c : Nat), pre = p ++ [c] → ∃ g, revGo nx col k a fd = some ((c : Int), (c : Int) + (y.length : Int), g))
  | [], k, a, fd, h, ha, hk, _ => by
    refine ⟨fun _ => ?_, fun p c e => by simp at e⟩
    cases k with
    | zero => rfl
    | succ k =>
      rw [revGo]
      rw [List.nil_append] at h
      cases post with
      | nil =>
        have hf : f = a := h
        rcases H a ha with ⟨e, _⟩ | ⟨c', g, k1, k2, k3, k4⟩
        · rw [e]
        · exact absurd k2 (ht c' (by omega))
      | cons c r =>
        obtain ⟨g, e⟩ := nx_head H ha h
        rw [e]
        exact if_neg (hp c rfl)
  | c :: p, k, a, fd, h, ha, hk, hc => by
    refine ⟨(fun e => (by cases e)), fun p' c' e => ?_⟩
    have h' : ChainG x y x.length a (c :: (p ++ post)) f := h
    obtain ⟨g, en⟩ := nx_head H ha h'
    obtain ⟨h1, h2, h3, h4⟩ := h'
    have hb := h2.1
    cases k with
    | zero => omega
    | succ k =>
      rw [revGo, en]
      dsimp only
      rw [if_pos (hc c (.head _))]
      have ih := revGo_chain H hw col ht hp p k (c + y.length) (some ((c : Int), (c : Int) + (y.length : Int), g)) h4 hb (by omega) (fun c hc' => hc c (.tail _ hc'))
      rw [show ((c : Int) + (y.length : Int)) = ((c + y.length : Nat) : Int) by omega]
      rw [show ((c : Int) + (y.length : Int)) = ((c + y.length : Nat) : Int) by omega] at ih
      cases p with
      | nil =>
        have : c' = c := by
          cases p' with
          | nil => simp at e; exact e.symm
          | cons b p' => simp at e
        subst this
        exact ⟨g, by rw [ih.1 rfl]; simp⟩
      | cons b q =>
        cases p' with
        | nil => simp at e
        | cons b' p' =>
          simp only [List.cons_append, List.cons.injEq] at e
          exact ih.2 p' c' e.2
/-- the pieces put together from the end -/
def pcGo (x z : Str) (nx : Int → Option (Int × Int × γ)) : Nat → Str → Int → Int → Str
  | 0, d, l, _ => Txt.slice x none (some l) ++ d
  | k + 1, d, l, c => match revGo nx c (x.length + 1) 0 none with
    | none => Txt.slice x none (some l) ++ d
    | some (i, j, _) => pcGo x z nx k (z ++ Txt.slice x (some j) (some l) ++ d) i (j - 1)
theorem pcGo_eq (z : Str) (H : NxOk x y nx) (hw : 1 ≤ y.length) : ∀ (n : Nat) (pre post : List Nat) (f k : Nat) (d : Str) (l : Nat) (col : Int), pre.length = n → n ≤ k → ChainG x y x.length 0 (pre ++ post) f → (∀ k, f ≤ k → ¬ Occ x y k) → l ≤ x.length →
    (∀ c ∈ pre, (c : Int) < col ∧ (c : Int) + (y.length : Int) ≤ col ∧ c + y.length ≤ l) → (∀ c, post.head? = some c → ¬ ((c : Int) < col ∧ (c : Int) + (y.length : Int) ≤ col)) →
    tl (pcGo x z nx k d l col) = glueTo (tl x) (tl z) y.length 0 pre l ++ tl d
  | 0, pre, post, f, k, d, l, col, e, hk, hC, ht, hl, hc, hp => by
    have : pre = [] := List.length_eq_zero_iff.mp e
    subst this
    have fin : tl (Txt.slice x none (some (l : Int)) ++ d) = glueTo (tl x) (tl z) y.length 0 [] l ++ tl d := by
      rw [tl_append, slice_to x hl]; simp [glueTo]
    cases k with
    | zero => exact fin
    | succ k =>
      rw [pcGo]
      have := (revGo_chain H hw col ht hp [] (x.length + 1) 0 none hC (Nat.zero_le _) (by omega) (fun _ h => nomatch h)).1 rfl
      rw [show ((0 : Nat) : Int) = 0 from rfl] at this
      rw [this]
      exact fin
  | n + 1, pre, post, f, k, d, l, col, e, hk, hC, ht, hl, hc, hp => by
    obtain ⟨p, c, rfl⟩ : ∃ p c, pre = p ++ [c] := by
      rcases List.eq_nil_or_concat pre with h | ⟨p, c, h⟩
      · rw [h] at e; cases e
      · exact ⟨p, c, by rw [h]; simp⟩
    cases k with
    | zero => omega
    | succ k =>
      rw [pcGo]
      obtain ⟨g, this⟩ := (revGo_chain H hw col ht hp (p ++ [c]) (x.length + 1) 0 none hC (Nat.zero_le _) (by omega) (fun c h => ⟨(hc c h).1, (hc c h).2.1⟩)).2 p c rfl
      rw [show ((0 : Nat) : Int) = 0 from rfl] at this
      rw [this]
      dsimp only
      have hcl := (hc c (by simp)).2.2
      rw [List.append_assoc] at hC
      obtain ⟨m, c1, c2⟩ := chain_app hC
      have c2' : ChainG x y x.length m (c :: post) f := c2
      have ih := pcGo_eq z H hw n p (c :: post) f k (z ++ Txt.slice x (some ((c : Int) + (y.length : Int))) (some (l : Int)) ++ d) c ((c : Int) + (y.length : Int) - 1) (by simpa using e) (by omega) hC ht (by omega)
        (fun c' h => by have := (chain_le c1).2 c' h; have := c2'.1; omega) (fun c' h => by cases h; omega)
      rw [ih, glueTo_snoc, tl_append, tl_append, show ((c : Int) + (y.length : Int)) = ((c + y.length : Nat) : Int) by omega, slice_mid x hcl hl]
      simp only [List.append_assoc]
theorem pieces_eq (z : Str) (H : NxOk x y nx) (hw : 1 ≤ y.length) : pcGo x z nx (x.length + 1) (Str.ofString "") x.length x.length = Txt.join z (Txt.split x y) := by
  apply str_ext
  obtain ⟨f, h1, h2⟩ := StrLaws.occ_tight x y hw
  have hl := StrLaws.occ_length_le x y 0 x.length (x.length + 1)
  have key := pcGo_eq z H hw (cutsOf x y).length (cutsOf x y) [] f (x.length + 1) (Str.ofString "") x.length x.length rfl hl (by rw [List.append_nil]; exact h1) h2 (Nat.le_refl _)
    (fun c h => by have := (chain_le h1).2 c h; omega) (fun c h => by cases h)
  rw [key, repl_tl x y z hw]
  simp [show tl (Str.ofString "") = [] from rfl]
end
end Mine
namespace Mine
open PySem PySem.Calls PySem.W PyProof.Rows PySem.Flt PySem.Builtin PySem.Builtin.ObjectAttr
/-- contracts of a def that may change what it has made, loosely told -/
def ConK (G : Gl) (d u : Nat) (f : Addr) (vs : List Value) (Pre : Ldg → Prop) (Post : Ldg → Value → Ldg → Prop) : Prop :=
  ∀ (dp un : Nat) (A : Around) (h₀ : Heap) (L : Addr) (m : Str → Option Value) (Λ : Ldg) (s : Shared) (Q E : Value → Shared → Prop),
    Cx G dp un A h₀ L m s.heap Λ → Pre Λ → dp + d < recursionLimit → un + u < cLine →
    (∀ v Λ' h' tk', Cx G dp un A h₀ L m h' Λ' → Sub Λ Λ' → Post Λ v Λ' → Q v { s with heap := h', toks := tk' }) →
    wpAny (model G.prog G.w) A (call (.ref f) vs) Q E s

def LvK (G : Gl) (g : Heap) (L : Addr) (Λ : Ldg) (Post : Ldg → Value → Ldg → Prop) (s : Shared) (v : Value) (s' : Shared) : Prop :=
  ∃ m' Λ' h' tk, s' = { s with heap := h', toks := tk } ∧ Fr g L h' m' ∧ News g L h' Λ' ∧ TabOk G.sp Λ' ∧ Sub Λ Λ' ∧ Post Λ v Λ'
theorem LvK.intro {G : Gl} {g : Heap} {L : Addr} {Λ Λ' : Ldg} {Post : Ldg → Value → Ldg → Prop} {s : Shared} {v : Value} {m' : Str → Option Value} {h' : Heap} {tk : Nat} (F : Fr g L h' m') (N : News g L h' Λ') (T : TabOk G.sp Λ') (S : Sub Λ Λ') (P : Post Λ v Λ') :
    LvK G g L Λ Post s v { s with heap := h', toks := tk } := ⟨m', Λ', h', tk, rfl, F, N, T, S, P⟩

def BodyCK (G : Gl) (d u : Nat) (qual : Str) (scope : Scope) (f : Addr) (cdv : Value) (binds : List (Str × Value)) (body : List Stmt) (Pre : Ldg → Prop) (Post : Ldg → Value → Ldg → Prop) : Prop :=
  ∀ (dp un : Nat) (gd : Option (List Code)) (L : Addr) (outer : List Env) (A₀ : Around) (base g : Heap) (Λ cells : Ldg) (s : Shared) (E : Value → Shared → Prop),
    Below A₀ base outer g → Fr g L s.heap (bindL (envOfC qual scope L f cdv).kindOf binds fun _ => none) → G.K.In g → News g L s.heap (cells ++ Λ) →
    CellsAre (bindC (envOfC qual scope L f cdv).kindOf binds fun _ => none) (cellsFrom (L + 1) scope.names []) cells → (∀ q ∈ Λ, q.1 < L) →
    Top G.p G.loose G.mean G.mg G.mb g → (∀ q ∈ G.tabs, CodeHd base q.1 q.2) → TabOk G.sp Λ → Pre Λ → dp + d < recursionLimit → un + u < cLine →
    wpAny (model G.prog G.w) (ktrTop dp un gd qual scope L f cdv (cellsFrom (L + 1) scope.names []) outer) (execs body (envOfC qual scope L f cdv)) (fun fl s' => LvK G g L Λ Post s (retOf fl) s') E s

theorem ConK.ofDefC {G : Gl} {d u : Nat} {f : Addr} {vs : List Value} {Pre : Ldg → Prop} {Post : Ldg → Value → Ldg → Prop} {name qual : Str} {params : Arguments} {body : List Stmt} {scope : Scope} {dV kV doc pm cdv ct oc : Value} {an od : Option Addr} {osl : Array (Option Value)} {binds : List (Str × Value)}
    (ho : G.K.lookup f = some ⟨oc, od, .func (fnOf name qual params body scope dV kV doc pm an cdv ct), osl⟩) (hcd : codeIn G.K cdv qual = true)
    (hbind : ∀ s, BindsTo s (fnOf name qual params body scope dV kV doc pm an cdv ct) ⟨vs, []⟩ binds)
    (hkind : (binds.all fun y => scope.names.lookup y.1 == some .local || scope.names.lookup y.1 == some .cell) = true) (hnd : ((cellsFrom 0 scope.names []).map (·.1)).Nodup)
    (hco : scope.isCoroutine = false) (hgen : scope.isGenerator = false) (hk : scope.kind = .function)
    (h : BodyCK G d u qual scope f cdv binds body Pre Post) : ConK G (d + 1) (u + 3) f vs Pre Post := by
  intro dp un A h₀ L m Λ s Q E c hp hd hu hr
  obtain ⟨⟨gd, cn, cs, a, ccd, cl, outer, A₀, base, rfl, B, hcs, hC⟩, F, X, N, T, tab⟩ := c
  refine wpAny_call ?_
  refine code_defC B F X N T rfl rfl hcs ho hcd (by show dp < _; omega) (hbind _) hkind hnd (fun g L' h₁ tk cells FG F' N' Y B' X' T' hlt => ?_) hco hgen hk
  refine wpAny_mono (h (dp + 1) (un + 3) gd L' _ _ base g Λ cells _ _ B' F' X' N' Y hlt T' hC tab hp (by omega) (by omega)) (fun fl s' hl => ?_) fun _ _ e => e
  obtain ⟨m', Λ', h', tk, rfl, F1, N1, t1, S1, P1⟩ := hl
  refine leaveK_ F1 N1 fun F2 N2 => ?_
  have z := hr _ Λ' h' tk ⟨⟨gd, cn, cs, a, ccd, cl, outer, A₀, base, rfl, B, hcs, hC⟩, F2, X, N2, T, t1⟩ S1 P1
  cases fl <;> exact z
end Mine
namespace Mine
open PySem PySem.Calls PySem.W PyProof.Rows PySem.Flt PySem.Builtin PySem.Builtin.ObjectAttr
theorem TabOk.offN {sp : List (Addr × Str)} {Λ Λ' : Ldg} {a : Addr} {o : Obj} {h₀ h : Heap} {L : Addr} (N : News h₀ L h Λ) (x : TabOk sp Λ) (hm : (a, o) ∈ Λ) (hn : NT o) (hd : ∀ vs, o.data ≠ .fields vs) (hs : ∀ p ∈ Λ, p.1 ≠ a → p ∈ Λ') : TabOk sp Λ' := fun q hq => by
  obtain ⟨ps, m, t, k⟩ := x q hq
  have n1 : q.1 ≠ a := by
    intro e
    rw [e] at m
    have := news_inj N m hm
    exact hn ps this.symm t
  refine ⟨ps, hs _ m n1, t, fun pos v e => ?_⟩
  obtain ⟨c, oc, e1, b, l⟩ := k pos v e
  refine ⟨c, oc, e1, hs _ b ?_, l⟩
  rintro rfl
  have := news_inj N b hm
  obtain ⟨vs, t, d, _⟩ := l
  exact hd vs (by rw [← this]; exact d)
/-- one object of the ledger first, the others behind it -/
theorem led_first {h₀ h : Heap} {L a : Addr} {o : Obj} {Λ : Ldg} (N : News h₀ L h Λ) (hm : (a, o) ∈ Λ) :
    News h₀ L h ((a, o) :: Λ.filter fun p => p.1 != a) ∧ UpdF a o ((a, o) :: Λ.filter fun p => p.1 != a) (fun o' => (a, o') :: Λ.filter fun p => p.1 != a) ∧
      ∀ o', ∀ p ∈ Λ, p.1 ≠ a → p ∈ (a, o') :: Λ.filter fun p => p.1 != a :=
  ⟨news_sub N fun p hp => by
    rcases List.mem_cons.mp hp with rfl | hp
    · exact hm
    · exact (List.mem_filter.mp hp).1, .head fun p hp => by simpa using (List.mem_filter.mp hp).2, fun o' p hp hn => .tail _ (List.mem_filter.mpr ⟨hp, by simpa using hn⟩)⟩
section
variable {prog : Program} {w : World} {A : Around} {E : Value → Shared → Prop} {s : Shared} {h₀ : Heap} {sp : List (Addr × Str)} {L a : Addr} {m : Str → Option Value} {Λ : Ldg}
/-- a cell's store over the ledger -/
theorem cell_led {cn : Str} {cs : Scope} {f : Addr} {ccd : Value} {cl : List (Str × Addr)} {x : Str} {v : Value} {Q : Unit → Shared → Prop} {o : Obj} {v₀ : Option Value}
    (F : Fr h₀ L s.heap m) (N : News h₀ L s.heap Λ) (T : TabOk sp Λ) (hc : cl.lookup x = some a) (hm : (a, o) ∈ Λ) (hd : o.data = .cell v₀)
    (h : ∀ h' o' Λ', Fr h₀ L h' m → News h₀ L h' Λ' → TabOk sp Λ' → Keep [a] Λ Λ' → (a, o') ∈ Λ' → o'.data = .cell (some v) → (∀ p ∈ Λ, p.1 ≠ a → p ∈ Λ') → Q () { s with heap := h' })
    (hk : cs.kind = .function := by rfl) (hx : (envX cn cs L f ccd cl).kindOf x = some .cell := by rfl) : wpAny (model prog w) A (storeName (envX cn cs L f ccd cl) x v) Q E s := by
  obtain ⟨N1, U, k⟩ := led_first N hm
  refine storeX_C F N1 hc U hd (fun h' o' F' N' hd' => ?_) hk hx
  exact h h' o' _ F' N' (T.offN N hm (fun _ e _ => by rw [e] at hd; cases hd) (fun vs e => by rw [e] at hd; cases hd) (k o')) (fun p hp _ hn => k o' p hp (by simpa using hn)) (.head _) hd' (k o')
/-- a dict's store over the ledger -/
theorem dict_led {d : Addr} {o : Obj} {kvs : List (Str × Value)} {x : Str} {t : Tok} {v : Value} {Q : Unit → Shared → Prop} (F : Fr h₀ L s.heap m) (N : News h₀ L s.heap Λ) (T : TabOk sp Λ) (hm : (d, o) ∈ Λ) (hd : o.IsDictOf (PySem.strKind prog w) kvs) (hsz : kvs.length ≤ 1000)
    (h : ∀ h' o' Λ' tk, Fr h₀ L h' m → News h₀ L h' Λ' → TabOk sp Λ' → Keep [d] Λ Λ' → (d, o') ∈ Λ' → o'.IsDictOf (PySem.strKind prog w) (stored kvs x v) → (∀ p ∈ Λ, p.1 ≠ d → p ∈ Λ') → Q () { s with heap := h', toks := tk }) :
    wpAny (model prog w) A (setItem (.ref d) (.str x t) v) Q E s := by
  obtain ⟨N1, U, k⟩ := led_first N hm
  have hc : o.cls = .type "dict" := by obtain ⟨es, ep, hc, _⟩ := hd; exact hc.1
  have hf : ∀ vs, o.data ≠ .fields vs := fun vs e => by obtain ⟨es, ep, _, h2, _⟩ := hd; rw [e] at h2; cases h2
  refine kda_set (knd := PySem.strKind _ _) F N1 U hd (strKind_is _ _ _ _) (by rw [sizeLine_eq]; omega) (fun h' o' F' N' hd' => ?_)
  exact h h' o' _ _ F' N' (T.offN N hm (.of_cls (by rw [hc]; nofun)) hf (k o')) (fun p hp _ hn => k o' p hp (by simpa using hn)) (.head _) hd' (k o')
/-- a list's store over the ledger -/
theorem seti_led {D : Addr} {ys : List Value} {n : Nat} {k : Int} {t : Tok} {v : Value} {Q : Unit → Shared → Prop} (F : Fr h₀ L s.heap m) (N : News h₀ L s.heap Λ) (T : TabOk sp Λ) (hD : (D, listObj ys n) ∈ Λ) (h0 : 0 ≤ k) (hk : k < ys.length) (hsz : ys.length ≤ 1000)
    (h : ∀ h' Λ' n', Fr h₀ L h' m → News h₀ L h' Λ' → TabOk sp Λ' → Keep [D] Λ Λ' → (D, listObj (ys.set k.toNat v) n') ∈ Λ' → (∀ p ∈ Λ, p.1 ≠ D → p ∈ Λ') → Q () { s with heap := h' }) :
    wpAny (model prog w) A (setItem (.ref D) (.int k t) v) Q E s := by
  obtain ⟨N1, U, kk⟩ := led_first N hD
  have z := N _ hD
  refine ki_setAt (items := ys.toArray) (n := n) z.1 h0 (by omega) (by simpa using hk) ?_
  have sb := Heap.SameBut.update s.heap D (Obj.mapSeq (·.setIfInBounds k.toNat v))
  have hz : (s.heap.update D (Obj.mapSeq (·.setIfInBounds k.toNat v))).get? D = some (listObj (ys.set k.toNat v) (n)) ∨ ∃ n', (s.heap.update D (Obj.mapSeq (·.setIfInBounds k.toNat v))).get? D = some (listObj (ys.set k.toNat v) n') := by
    right
    obtain ⟨c, hc⟩ : ∃ c, (s.heap.update D (Obj.mapSeq (·.setIfInBounds k.toNat v))).get? D = some (seqObj "list" (ys.toArray.setIfInBounds k.toNat v) c) := ⟨_, get?_update_seq z.1 (·.setIfInBounds k.toNat v)⟩
    exact ⟨c, by rw [hc]; simp [seqObj]⟩
  obtain ⟨n', hz⟩ : ∃ n', (s.heap.update D (Obj.mapSeq (·.setIfInBounds k.toNat v))).get? D = some (listObj (ys.set k.toNat v) n') := hz.elim (fun e => ⟨_, e⟩) id
  refine h _ ((D, listObj (ys.set k.toNat v) n') :: Λ.filter fun p => p.1 != D) n' (F.change sb z.2.1 z.2.2) (fun p hp => ?_) (T.off N hD (by nofun) (by nofun) (kk _)) (fun p hp _ hn => kk _ p hp (by simpa using hn)) (.head _) (kk _)
  rcases List.mem_cons.mp hp with rfl | hp
  · exact ⟨hz, z.2⟩
  · have hp' := List.mem_filter.mp hp
    have q := N p hp'.1
    exact ⟨sb.extBut _ _ (by simpa using hp'.2) q.1, q.2⟩
end
section
variable {prog : Program} {w : World} {A : Around} {E : Value → Shared → Prop} {s : Shared} {env : Env} {h₀ : Heap} {sp : List (Addr × Str)} {RR : Result → Shared → Prop} {Q : Flow → Shared → Prop} {target : Expr} {body : List Stmt} {m : Str → Option Value} {Λ : Ldg}
theorem iter_strK (hRR : ∀ f s', Q f s' → RR (.ok f) s') (hh : A.handled = none) {x : Str} {tx : Tok} (F : Fr h₀ env.locals s.heap m) (N : News h₀ env.locals s.heap Λ) (T : TabOk sp Λ) (M : List Addr) (hMl : ∀ a ∈ M, a < s.heap.objs.size) (ha : x.cps.all (· < 128) = true)
    (ht : ∀ it v, letOwnedTupleGo target it v = pure ())
    (R : Nat → (Str → Option Value) → Ldg → Prop) (hmono : ∀ i m Λ Λ', NSub Λ Λ' → R i m Λ → R i m Λ') (h0 : R 0 m Λ)
    (turn : ∀ i v m₁ Λ₁ s₁ (E' : Value → Shared → Prop), (∃ h tk, s₁ = { s with heap := h, toks := tk }) → i < x.cps.size → SignAt x i v → R i m₁ Λ₁ → TabOk sp Λ₁ → Keep M Λ Λ₁ → Fr h₀ env.locals s₁.heap m₁ → News h₀ env.locals s₁.heap Λ₁ →
      wpAny (model prog w) A (assign target env v) (fun _ s₂ => wpAny (model prog w) A (execs body env) (TurnEndK M sp h₀ env.locals Λ₁ (R (i + 1)) s₁ Q) E' s₂) E' s₁)
    (done : ∀ m' Λ' h' tk, Fr h₀ env.locals h' m' → News h₀ env.locals h' Λ' → TabOk sp Λ' → Keep M Λ Λ' → R x.cps.size m' Λ' → Q .next { s with heap := h', toks := tk }) :
    wpAny (model prog w) A (pyIter (.str x tx)) (fun it s₂ => codeAny (model prog w) A (.forLoop target it body [] env) RR s₂) E s := by
  obtain ⟨f1, f2, f3⟩ := fresh_addr F N
  refine wpAny_pyIter_ascii ha ?_
  refine for_keep (s := { s with heap := _ }) hRR (Walks.strAscii hh s.heap.objs.size x tx) (by simpa using f2) (fun b hb => by rw [List.mem_singleton.mp hb]; exact f3) f1 (fun b hb hm => by rw [List.mem_singleton.mp hb] at hm; exact Nat.lt_irrefl _ (hMl _ hm)) ?_ ?_ ?_ (F.push _) (news_pushed N _) T
    (fun i s' v Q' E' hP hst hq => wpAny_of_eq (ht _ v) hq) R hmono h0 turn done
  · rintro i h ⟨o, ho, hc, hd⟩ b hb
    rw [List.mem_singleton.mp hb]
    exact ⟨o, ho, by rw [hc]; nofun, _, hd, fun q t => by simp⟩
  · rintro i h ⟨o', ho, hc, hd⟩ b hb o e
    rw [List.mem_singleton.mp hb, ho] at e
    cases e
    exact .of_cls (by rw [hc]; nofun)
  · exact ⟨_, Heap.get?_push_size _ rfl, rfl, rfl⟩
theorem rangeSize_down (n : Nat) : Builtin.Range.rangeSize ((n : Int) - 1) (-1) (-1) = n := by
  unfold Builtin.Range.rangeSize
  simp
  omega
theorem small_down {n : Nat} (hn : n < 2 ^ 60) : Builtin.Range.small ((n : Int) - 1) (-1) (-1) = true := by
  unfold Builtin.Range.small
  rw [rangeSize_down]
  simp only [Builtin.Range.rangeFitsLong, Bool.and_eq_true, Bool.or_eq_true, decide_eq_true_eq, beq_iff_eq, show ¬ ((-1 : Int) > 0) by decide, if_false]
  omega
/-- a range that goes down -/
theorem iter_downK (hRR : ∀ f s', Q f s' → RR (.ok f) s') (hh : A.handled = none) {r : Addr} {n : Nat} {t u v : Tok} (F : Fr h₀ env.locals s.heap m) (N : News h₀ env.locals s.heap Λ) (T : TabOk sp Λ)
    (M : List Addr) (hMl : ∀ a ∈ M, a < s.heap.objs.size) (hr : IsRange s.heap r ((n : Int) - 1) (-1) (-1) t u v) (hn : n < 2 ^ 60)
    (ht : ∀ it v, letOwnedTupleGo target it v = pure ())
    (R : Nat → (Str → Option Value) → Ldg → Prop) (hmono : ∀ i m Λ Λ', NSub Λ Λ' → R i m Λ → R i m Λ') (h0 : R 0 m Λ)
    (turn : ∀ i v m₁ Λ₁ s₁ (E' : Value → Shared → Prop), (∃ h tk, s₁ = { s with heap := h, toks := tk }) → i < n → (∃ t, v = .int ((n : Int) - 1 - i) t) → R i m₁ Λ₁ → TabOk sp Λ₁ → Keep M Λ Λ₁ → Fr h₀ env.locals s₁.heap m₁ → News h₀ env.locals s₁.heap Λ₁ →
      wpAny (model prog w) A (assign target env v) (fun _ s₂ => wpAny (model prog w) A (execs body env) (TurnEndK M sp h₀ env.locals Λ₁ (R (i + 1)) s₁ Q) E' s₂) E' s₁)
    (done : ∀ m' Λ' h' tk, Fr h₀ env.locals h' m' → News h₀ env.locals h' Λ' → TabOk sp Λ' → Keep M Λ Λ' → R n m' Λ' → Q .next { s with heap := h', toks := tk }) :
    wpAny (model prog w) A (pyIter (.ref r)) (fun it s₂ => codeAny (model prog w) A (.forLoop target it body [] env) RR s₂) E s := by
  obtain ⟨f1, f2, f3⟩ := fresh_addr F N
  refine wpAny_pyIter_range hr (small_down hn) ?_
  rw [rangeSize_down]
  refine for_keep (s := { s with heap := _ }) hRR (Walks.range hh s.heap.objs.size ((n : Int) - 1) (-1) n) (by simpa using f2) (fun b hb => by rw [List.mem_singleton.mp hb]; exact f3) f1 (fun b hb hm => by rw [List.mem_singleton.mp hb] at hm; exact Nat.lt_irrefl _ (hMl _ hm)) ?_ ?_ ?_ (F.push _) (news_pushed N _) T
    (fun i s' v Q' E' hP hst hq => wpAny_of_eq (ht _ v) hq) R hmono h0 ?_ done
  · intro i h hst b hb
    rw [List.mem_singleton.mp hb]
    exact ⟨_, hst, by nofun, _, rfl, fun q t => by simp [rawInt]⟩
  · intro i h hst b hb o e
    rw [List.mem_singleton.mp hb, hst] at e
    cases e
    exact .of_cls (by nofun)
  · show IsRangeIter _ _ _ _ _
    have : IsRangeIter (s.heap.push { cls := .type "range_iterator", data := .fields #[rawInt ((n : Int) - 1), rawInt n, rawInt (-1)] }) s.heap.objs.size ((n : Int) - 1) n (-1) := Heap.get?_push_size _ rfl
    simpa using this
  · intro i v m₁ Λ₁ s₁ E' hs₁ hi hP hR hT hsub F₁ N₁
    obtain ⟨t', e⟩ := hP
    exact turn i v m₁ Λ₁ s₁ E' hs₁ hi ⟨t', by rw [e]; congr 1; omega⟩ hR hT hsub F₁ N₁
end
end Mine
namespace Mine
open PySem PySem.Calls PySem.W PyProof.Rows PySem.Flt PySem.Builtin PySem.Builtin.ObjectAttr
theorem at_map {K : Type} [DecidableEq K] (k x : K) (v : Value) : ∀ kvs : List (K × Value), valueAt (kvs.map fun kv => if kv.1 = k then (kv.1, v) else kv) x = if x = k then (valueAt kvs x).map (fun _ => v) else valueAt kvs x
  | [] => by simp [valueAt]
  | (a, b) :: r => by
    have ih := at_map k x v r
    unfold valueAt at ih ⊢
    rw [List.map_cons, List.find?_cons, List.find?_cons]
    by_cases hak : a = k
    · subst hak
      simp only [if_true]
      by_cases hax : a = x
      · subst hax; simp
      · simp only [decide_eq_false hax]
        rw [ih]
    · simp only [if_neg hak]
      by_cases hax : a = x
      · subst hax; simp [hak]
      · simp only [decide_eq_false hax]
        rw [ih]
theorem at_stored {K : Type} [DecidableEq K] (kvs : List (K × Value)) (k x : K) (v : Value) : valueAt (stored kvs k v) x = if x = k then some v else valueAt kvs x := by
  unfold stored
  split
  · rename_i h
    rw [at_map]
    split
    · rename_i e
      subst e
      have : (valueAt kvs x).isSome = true := by rw [valueAt_isSome_eq_any]; exact h
      obtain ⟨u, hu⟩ := Option.isSome_iff_exists.mp this
      rw [hu]; rfl
    · rfl
  · rename_i h
    have hn : valueAt kvs k = none := by
      have := valueAt_isSome_eq_any kvs k
      rw [Bool.eq_false_iff.mpr h] at this
      simpa using this
    unfold valueAt at hn ⊢
    rw [List.find?_append]
    split
    · rename_i e
      subst e
      have : kvs.find? (fun kv => decide (kv.1 = x)) = none := by simpa using hn
      rw [this]; simp
    · rename_i e
      cases hf : kvs.find? (fun kv => decide (kv.1 = x)) with
      | some r => rfl
      | none => simp [Ne.symm e]
section
variable {prog : Program} {w : World} {A : Around} {s : Shared} {h₀ : Heap} {L : Addr} {m : Str → Option Value} {env : Env} {ct elt : Expr} {x : Str} {scope : Scope} {cl : List (Str × Addr)} {news : List (Addr × Obj)} {Fin : List Value → List (Addr × Obj) → Prop}
/-- [k for k in range(n) if ..]: the places picked -/
theorem filt_range {n : Nat} (pz : Nat → Bool)
    (turn : ∀ (k : Nat) t I oI C oC D m₂ ys h tk (E' : Value → Shared → Prop), k < n → LCg.NsObj oC m₂ → m₂ x = some (.int k t) → Fr h₀ L h m → News h₀ L h ((I, oI) :: (C, oC) :: (D, LCg.lst ys) :: news) → LCg.Off3 I C D news → ((@Ne Nat I C) ∧ (@Ne Nat I D) ∧ (@Ne Nat C D)) →
      wpAny (model prog w) A (isTrue ct (compEnvC scope cl C env) (eval ct (compEnvC scope cl C env))) (fun ok s' => if ok = true then
        wpAny (model prog w) A (eval elt (compEnvC scope cl C env)) (LCg.CompEnd h₀ L m { s with heap := h, toks := tk } I oI C oC D (LCg.lst ys) (fun _ => True) (fun y news' => pz k = true ∧ news' = news ∧ ∃ t, y = .int k t)) E' s'
        else LCg.CompEnd h₀ L m { s with heap := h, toks := tk } I oI C oC D (LCg.lst ys) (fun _ => True) (fun _ news' => pz k = false ∧ news' = news) Value.none s') E' { s with heap := h, toks := tk })
    (fin : ∀ ys, IntsAre ys (((List.range n).filter pz).map Int.ofNat) → Fin ys news) :
    LCt.CompRestT prog w A h₀ L m env ct elt x scope cl s (fun _ => True) (fun i v => ∃ t, v = .int (0 + (i : Int)) t) Fin n 0 [] news := by
  have key : ∀ (j i : Nat) (ys : List Value), i + j = n → IntsAre ys (((List.range i).filter pz).map Int.ofNat) → LCt.CompRestT prog w A h₀ L m env ct elt x scope cl s (fun _ => True) (fun i v => ∃ t, v = .int (0 + (i : Int)) t) Fin j i ys news := by
    intro j
    induction j with
    | zero =>
      intro i ys hi hy
      have e : i = n := by omega
      subst e
      exact LCt.CompRestT.zero (fin ys hy)
    | succ j ih =>
      intro i ys hi hy
      refine LCt.CompRestT.succ ?_
      intro v I oI C oC D m₂ h tk E' hv hC hx F N off ne
      obtain ⟨t, hv⟩ := hv
      rw [hv, Int.zero_add] at hx
      refine wpAny_mono (turn i t I oI C oC D m₂ ys h tk E' (by omega) hC hx F N off ne) (fun ok s₂ hq => ?_) fun _ _ e => e
      cases ok with
      | true =>
        rw [if_pos rfl] at hq ⊢
        refine wpAny_mono hq (fun y s₃ hq => ?_) fun _ _ e => e
        obtain ⟨h', tk', nw, e, F', N', off', hS, hp, hn, t', hy'⟩ := hq
        subst hn
        refine ⟨h', tk', nw, e, F', N', off', hS, ?_⟩
        rw [hy']
        refine ih (i + 1) _ (by omega) ?_
        rw [List.range_succ, List.filter_append, List.map_append, List.filter_cons, if_pos hp]
        simpa using IntsAre.append hy (.cons _ t' .nil)
      | false =>
        rw [if_neg (by nofun)] at hq ⊢
        obtain ⟨h', tk', nw, e, F', N', off', hS, hp, hn⟩ := hq
        subst hn
        refine ⟨h', tk', nw, e, F', N', off', hS, ?_⟩
        refine ih (i + 1) _ (by omega) ?_
        rw [List.range_succ, List.filter_append, List.map_append, List.filter_cons, if_neg (by rw [hp]; nofun)]
        simpa using hy
  exact key n 0 [] (by omega) (by simp; exact .nil)
end
end Mine
namespace Mine
open PySem PySem.Calls PySem.W PyProof.Rows PySem.Flt PySem.Builtin PySem.Builtin.ObjectAttr
/-- sorted by texts as keys: what comes out -/
def OutS (kz : List Str) (vs out : List Value) : Prop :=
  ∃ ps : List (Str × Value), ps.Perm (kz.zip vs) ∧ out = ps.map Prod.snd ∧ ps.Pairwise (fun p q => ¬ q.1.cps.toList < p.1.cps.toList)
/-- what the key's call leaves -/
def KeyEnd (h₀ : Heap) (L : Addr) (m : Str → Option Value) (need : List (Addr × Obj)) (x : Str) (s₁ : Shared) (v : Value) (s₂ : Shared) : Prop :=
  ∃ h' tk t', s₂ = { s₁ with heap := h', toks := tk } ∧ v = .str x t' ∧ Fr h₀ L h' m ∧ News h₀ L h' need
theorem strs_zip : ∀ {ks vs : List Value} {kz : List Str}, StrsAre ks kz → (ks.zip vs).map (fun p => (strOf p.1, p.2)) = kz.zip vs
  | _, _, _, .nil => rfl
  | _, [], _, .cons _ _ _ => by simp
  | _, v :: vs, _, .cons x t h => by
    rw [List.zip_cons_cons, List.map_cons, strs_zip h, List.zip_cons_cons]
    rfl
theorem out_of {keys : Array Value} {vs : List Value} {kz : List Str} (hk : StrsAre keys.toList kz) {xs : Array Keyed} (hp : xs.Perm (keys.zip vs.toArray)) (hs : SortedToK strKind xs xs.size) : OutS kz vs (xs.map (·.2)).toList := by
  have hl : xs.toList.Perm (keys.toList.zip vs) := by rw [← ksk_zip]; exact Array.perm_iff_toList_perm.mp hp
  refine ⟨xs.toList.map (fun p => (strOf p.1, p.2)), ?_, ?_, ?_⟩
  · rw [← strs_zip hk]; exact hl.map _
  · rw [Array.toList_map, List.map_map]; rfl
  · rw [List.pairwise_iff_getElem]
    intro i j hi hj hij
    have hi' : i < xs.size := by simpa using hi
    have hj' : j < xs.size := by simpa using hj
    have mem : ∀ k (hk' : k < xs.size), ∃ x t, xs[k].1 = .str x t := fun k hk' => by
      have h1 : xs[k] ∈ xs.toList := by simp
      have h2 := (hl.mem_iff.mp h1)
      exact hk.all _ (List.of_mem_zip (show (xs[k].1, xs[k].2) ∈ _ from h2)).1
    have q := hs i j (Nat.le_of_lt hij) hj'
    obtain ⟨x, t, ex⟩ := mem i hi'
    obtain ⟨y, u, ey⟩ := mem j hj'
    rw [KK_str hi' (x := x) (t := t) (q := xs[i].2) (Prod.ext ex rfl), KK_str hj' (x := y) (t := u) (q := xs[j].2) (Prod.ext ey rfl)] at q
    change decide (y.cps.toList < x.cps.toList) = false at q
    simp only [List.getElem_map, Array.getElem_toList]
    rw [show strOf xs[i].1 = x by rw [ex]; rfl, show strOf xs[j].1 = y by rw [ey]; rfl]
    exact of_decide_eq_false q
theorem keys_of {keys : Array Value} {vs : List Value} {kz : List Str} (hk : StrsAre keys.toList kz) : KeysOf strKind (keys.zip vs.toArray) := by
  intro p hp
  rw [ksk_zip] at hp
  obtain ⟨x, y⟩ := p
  obtain ⟨z, t, e⟩ := hk.all _ (List.of_mem_zip hp).1
  exact ⟨z.cps.toList, by rw [e]⟩
theorem kind_of {keys : Array Value} {kz : List Str} (hk : StrsAre keys.toList kz) (h2 : 2 ≤ keys.size) : keyKind' keys = pure oneType' := by
  obtain ⟨l⟩ := keys
  match l, hk, h2 with
  | v₁ :: v₂ :: r, hk, _ => exact keyKind_strs hk
  | [_], _, h2 => simp at h2
  | [], _, h2 => simp at h2
theorem strs_length {vs : List Value} {xs : List Str} (h : StrsAre vs xs) : vs.length = xs.length := by
  induction h with
  | nil => rfl
  | cons y t _ ih => simp [ih]
theorem strs_snoc {x : Str} {t : Tok} : ∀ {vs : List Value} {xs : List Str}, StrsAre vs xs → StrsAre (vs ++ [.str x t]) (xs ++ [x])
  | _, _, .nil => .cons x t .nil
  | _, _, .cons y u h => .cons y u (strs_snoc h)
section
variable {prog : Program} {w : World} {A : Around} {E : Value → Shared → Prop} {s : Shared} {h₀ : Heap} {L : Addr} {m : Str → Option Value} {news : List (Addr × Obj)} {a kS : Addr} {vs : List Value} {kz : List Str} {keys : Array Value} {e e1 : Nat} {P : PySem.Fin → Shared → Prop}
theorem sk_tail {st : SortSt} (F : Fr h₀ L s.heap m) (N : News h₀ L s.heap (news ++ [(kS, seqObj "list" keys e), (a, seqObj "list" #[] e1)])) (hka : kS ≠ a) (hnk : ∀ p ∈ news, p.1 ≠ kS) (hna : ∀ p ∈ news, p.1 ≠ a)
    (hk : StrsAre keys.toList kz) (hlen : kz.length = vs.length) (h64 : vs.length < 64) (hp : (arrOf st).Perm (keys.zip vs.toArray)) (hs : SortedToK strKind (arrOf st) (arrOf st).size) (hfl : failedOf st = none)
    (h : ∀ h' tk out c, Fr h₀ L h' m → News h₀ L h' ((a, seqObj "list" out c) :: news) → OutS kz vs out.toList → P (.done (.ret .none)) { s with heap := h', toks := tk }) :
    wpAny (model prog w) A (ksk_tail a false e1 (.ref kS) st) P E s := by
  have nk := N (kS, seqObj "list" keys e) (List.mem_append_right _ (.head _))
  have na := N (a, seqObj "list" #[] e1) (List.mem_append_right _ (.tail _ (.head _)))
  have Nn : News h₀ L s.heap news := fun p hp => N p (List.mem_append_left _ hp)
  have hsz : keys.size = vs.length := by
    have h1 := strs_length hk
    rw [Array.length_toList] at h1
    omega
  have hsz2 : ((arrOf st).map (·.2)).size = vs.length := by rw [Array.size_map, hp.size_eq, Array.size_zip, hsz, List.size_toArray, Nat.min_self]
  have s1 := Heap.SameBut.update s.heap kS (Obj.mapSeq fun _ => (#[] : Array Value))
  have na1 : (s.heap.update kS (Obj.mapSeq fun _ => (#[] : Array Value))).get? a = some (seqObj "list" #[] e1) := (s1.2 a hka.symm).trans na.1
  have s2 := Heap.SameBut.update (s.heap.update kS (Obj.mapSeq fun _ => (#[] : Array Value))) a (Obj.mapSeq fun _ => (arrOf st).map (·.2))
  obtain ⟨c2, hc2⟩ : ∃ c2, ((s.heap.update kS (Obj.mapSeq fun _ => (#[] : Array Value))).update a (Obj.mapSeq fun _ => (arrOf st).map (·.2))).get? a = some (seqObj "list" ((arrOf st).map (·.2)) c2) :=
    ⟨_, get?_update_seq na1 fun _ => (arrOf st).map (·.2)⟩
  have N2 := ksk_news (ksk_news Nn s1 hnk) s2 hna
  unfold ksk_tail
  refine wpAny_bind (listUpdate_at nk.1 rfl ?_ (by rw [hsz, sizeLine_eq]; omega) (Nat.zero_le _))
  refine wpAny_bind (wpAny_letGo ?_)
  refine wpAny_bind (seqEpoch_at na1 rfl ?_)
  refine wpAny_bind (listUpdate_at na1 rfl ?_ (Nat.zero_le _) (Nat.le_trans (Nat.le_of_eq hsz2) (by rw [sizeLine_eq]; omega)))
  rw [hfl]
  simp only [bne_self_eq_false, Bool.false_eq_true, if_false]
  refine wpAny_pure (h _ _ _ c2 (ksk_fr (ksk_fr F s1 nk.2.1 nk.2.2) s2 na.2.1 na.2.2) (fun p hp => ?_) (out_of hk hp hs))
  rcases List.mem_cons.mp hp with rfl | hp
  · exact ⟨hc2, na.2⟩
  · exact N2 p hp
theorem sk_end (F : Fr h₀ L s.heap m) (N : News h₀ L s.heap (news ++ [(kS, seqObj "list" keys e), (a, seqObj "list" #[] e1)])) (hka : kS ≠ a) (hnk : ∀ p ∈ news, p.1 ≠ kS) (hna : ∀ p ∈ news, p.1 ≠ a)
    (hk : StrsAre keys.toList kz) (hlen : kz.length = vs.length) (h64 : vs.length < 64)
    (h : ∀ h' tk out c, Fr h₀ L h' m → News h₀ L h' ((a, seqObj "list" out c) :: news) → OutS kz vs out.toList → P (.done (.ret .none)) { s with heap := h', toks := tk }) :
    wpAny (model prog w) A (ksk_end a false vs.toArray e1 (.ref kS) keys) P E s := by
  have hsz : keys.size = vs.length := by
    have h1 := strs_length hk
    rw [Array.length_toList] at h1
    omega
  have hzs : (keys.zip vs.toArray).size = vs.length := by rw [Array.size_zip, hsz, List.size_toArray, Nat.min_self]
  unfold ksk_end
  simp only [Bool.false_eq_true, if_false, pure_bind]
  by_cases h2 : vs.toArray.size < 2
  · rw [if_pos h2, if_pos h2]
    rw [List.size_toArray] at h2
    refine wpAny_bind (wpAny_pure ?_)
    refine sk_tail (st := SortSt.mk' general' (keys.zip vs.toArray) #[] 7 none) F N hka hnk hna hk hlen h64 (Array.Perm.refl _) ?_ rfl h
    intro i j hij hj
    have hj2 : j < (keys.zip vs.toArray).size := hj
    rw [hzs] at hj2
    have : i = j := by omega
    subst this
    exact KeyOrd.kle_refl _
  · rw [if_neg h2, if_neg h2]
    rw [List.size_toArray] at h2
    rw [kind_of hk (by rw [hsz]; omega)]
    refine wpAny_bind (wpAny_pure ?_)
    refine wpAny_bind (wpAny_mono (wpS_sortRunsK (κ := strKind) strKind_oneLt (a₀ := keys.zip vs.toArray) (st := SortSt.mk' oneType' (keys.zip vs.toArray) #[] 7 none)
      (Q := fun _ st' => (arrOf st').Perm (keys.zip vs.toArray) ∧ failedOf st' = none ∧ SortedToK strKind (arrOf st') (keys.zip vs.toArray).size)
      (keys_of hk) ⟨Array.Perm.refl _, rfl, rfl, rfl⟩ (by rw [hzs]; omega) (by rw [hzs]; exact h64) fun st' a1 a2 a3 => ⟨a1, a2, a3⟩) ?_ fun _ _ e => e)
    rintro ⟨⟨⟩, st'⟩ s' ⟨rfl, hp, hf, hs⟩
    exact sk_tail F N hka hnk hna hk hlen h64 hp (by rw [hp.size_eq]; exact hs) hf h
theorem sk_rest {f : Value} (F : Fr h₀ L s.heap m) (N : News h₀ L s.heap (news ++ [(kS, seqObj "list" #[] 0), (a, seqObj "list" #[] e1)])) (hka : kS ≠ a) (hnk : ∀ p ∈ news, p.1 ≠ kS) (hna : ∀ p ∈ news, p.1 ≠ a)
    (hlen : kz.length = vs.length) (h64 : vs.length < 64)
    (turn : ∀ (i : Nat) (v : Value) (k : Str), vs[i]? = some v → kz[i]? = some k → ∀ (h : Heap) (tk : Nat) (own : List (Addr × Obj)), Fr h₀ L h m → News h₀ L h (news ++ own) →
      wpAny (model prog w) A (call f [v]) (KeyEnd h₀ L m (news ++ own) k { s with heap := h, toks := tk }) (fun _ _ => False) { s with heap := h, toks := tk })
    (h : ∀ h' tk out c, Fr h₀ L h' m → News h₀ L h' ((a, seqObj "list" out c) :: news) → OutS kz vs out.toList → P (.done (.ret .none)) { s with heap := h', toks := tk }) :
    wpAny (model prog w) A (ksk_rest a f false vs.toArray e1 (.ref kS)) P E s := by
  unfold ksk_rest
  refine wpAny_bind (wpAny_rule ?_)
  rw [List.forIn_toArray]
  refine wpAny_bind (ksk_fold (fun i s' => ∃ h' tk kA e, s' = { s with heap := h', toks := tk } ∧ Fr h₀ L h' m ∧ News h₀ L h' (news ++ [(kS, seqObj "list" kA e), (a, seqObj "list" #[] e1)]) ∧ StrsAre kA.toList (kz.take i)) vs 0 s
    ⟨s.heap, s.toks, #[], 0, rfl, F, N, by simpa using StrsAre.nil⟩ ?step ?done)
  case step =>
    rintro j x s' hx ⟨h', tk, kA, e, rfl, F', N', hk⟩
    simp only [Nat.zero_add] at hk ⊢
    have hj : j < vs.length := (List.getElem?_eq_some_iff.mp hx).1
    obtain ⟨k, hkj⟩ : ∃ k, kz[j]? = some k := ⟨_, List.getElem?_eq_getElem (by omega)⟩
    have hz : kA.size ≤ vs.length := by
      have h1 := strs_length hk
      rw [Array.length_toList, List.length_take] at h1
      omega
    refine wpAny_bind (wpAny_attempt (wpAny_mono (turn j x k hx hkj h' tk _ F' N') (fun v s'' he => ?_) fun _ _ hF => hF.elim))
    obtain ⟨g, tk2, t2, rfl, rfl, F2, N2⟩ := he
    have nk := N2 (kS, seqObj "list" kA e) (List.mem_append_right _ (.head _))
    have na := N2 (a, seqObj "list" #[] e1) (List.mem_append_right _ (.tail _ (.head _)))
    have s1 := Heap.SameBut.update g kS (Obj.mapSeq (·.push (.str k t2)))
    obtain ⟨c2, hc2⟩ : ∃ c2, (g.update kS (Obj.mapSeq (·.push (.str k t2)))).get? kS = some (seqObj "list" (kA.push (.str k t2)) c2) := ⟨_, get?_update_seq nk.1 (·.push (.str k t2))⟩
    have ek : kz.take (j + 1) = kz.take j ++ [k] := by rw [List.take_add_one, hkj]; simp
    have ea : (kA.push (Value.str k t2)).toList = kA.toList ++ [Value.str k t2] := by simp
    refine wpAny_bind (listUpdate_at nk.1 rfl ?_ (by rw [sizeLine_eq]; omega) (Nat.le_trans (Nat.le_of_eq (Array.size_push ..)) (by rw [sizeLine_eq]; omega)))
    refine wpAny_pure ⟨rfl, _, _, kA.push (.str k t2), c2, rfl, ksk_fr F2 s1 nk.2.1 nk.2.2, fun p hp => ?_, by rw [ea, ek]; exact strs_snoc hk⟩
    rcases List.mem_append.mp hp with hp | hp
    · exact ksk_news (fun q hq => N2 q (List.mem_append_left _ hq)) s1 hnk p hp
    · rcases List.mem_cons.mp hp with rfl | hp
      · exact ⟨hc2, nk.2⟩
      · rw [List.mem_singleton.mp hp]
        exact ⟨(s1.2 a hka.symm).trans na.1, na.2⟩
  case done =>
    rintro s' ⟨h', tk, kA, e, rfl, F', N', hk⟩
    have hk' : StrsAre kA.toList kz := by
      have e3 : kz.take (0 + vs.length) = kz := List.take_of_length_le (by omega)
      rw [e3] at hk
      exact hk
    have nk := N' (kS, seqObj "list" kA e) (List.mem_append_right _ (.head _))
    refine wpAny_bind (listItems_at nk.1 rfl ?_)
    exact sk_end F' N' hka hnk hna hk' hlen h64 fun h3 tk3 out c F3 N3 k3 => h h3 tk3 out c F3 N3 k3
theorem sk_sort {f : Value} {n : Nat} (F : Fr h₀ L s.heap m) (N : News h₀ L s.heap news) (ho : s.heap.get? a = some (seqObj "list" vs.toArray n)) (haL : a ≠ L) (ha0 : h₀.get? a = none) (hna : ∀ p ∈ news, p.1 ≠ a)
    (hlen : kz.length = vs.length) (h64 : vs.length < 64)
    (turn : ∀ (i : Nat) (v : Value) (k : Str), vs[i]? = some v → kz[i]? = some k → ∀ (h : Heap) (tk : Nat) (own : List (Addr × Obj)), Fr h₀ L h m → News h₀ L h (news ++ own) →
      wpAny (model prog w) A (call f [v]) (KeyEnd h₀ L m (news ++ own) k { s with heap := h, toks := tk }) (fun _ _ => False) { s with heap := h, toks := tk })
    (h : ∀ h' tk out c, Fr h₀ L h' m → News h₀ L h' ((a, seqObj "list" out c) :: news) → OutS kz vs out.toList → P (.done (.ret .none)) { s with heap := h', toks := tk }) :
    wpAny (model prog w) A (ksk_tree a f false) P E s := by
  have ha : a < s.heap.objs.size := Heap.lt_size ho
  have s1 := Heap.SameBut.update s.heap a (Obj.mapSeq fun _ => (#[] : Array Value))
  obtain ⟨e1, ho1⟩ : ∃ e1, (s.heap.update a (Obj.mapSeq fun _ => (#[] : Array Value))).get? a = some (seqObj "list" #[] e1) := ⟨_, get?_update_seq ho fun _ => #[]⟩
  have F1 := ksk_fr F s1 haL ha0
  have N1 := ksk_news N s1 hna
  generalize hH : s.heap.update a (Obj.mapSeq fun _ => (#[] : Array Value)) = H at ho1 F1 N1
  have hHs : H.objs.size = s.heap.objs.size := by rw [← hH, Heap.size_update]
  have hkS : (H.push (seqObj "tuple" vs.toArray 0)).objs.size = s.heap.objs.size + 1 := by rw [size_push', hHs]
  have hLk : L < (H.push (seqObj "tuple" vs.toArray 0)).objs.size := (F1.push _).ns.lt
  unfold ksk_tree
  refine wpAny_bind (listItems_at ho rfl ?_)
  refine wpAny_bind (listUpdate_at ho rfl ?_ (by rw [List.size_toArray, sizeLine_eq]; omega) (Nat.zero_le _))
  rw [hH]
  refine wpAny_bind (seqEpoch_at ho1 rfl ?_)
  refine wpAny_bind (wpAny_newTuple ?_ (by show vs.length ≤ _; rw [sizeLine_eq]; omega))
  refine wpAny_bind (wpAny_newList ?_ (Nat.zero_le _))
  refine wpAny_holding ?_
  refine sk_rest (s := { s with heap := (H.push (seqObj "tuple" vs.toArray 0)).push (seqObj "list" #[] 0) }) (kS := (H.push (seqObj "tuple" vs.toArray 0)).objs.size)
    ((F1.push _).push _) (fun p hp => ?_) (by rw [hkS]; exact Nat.ne_of_gt (Nat.lt_succ_of_lt ha)) (fun p hp => by rw [hkS]; exact Nat.ne_of_lt (Nat.lt_succ_of_lt (Heap.lt_size (N p hp).1))) hna hlen h64 turn h
  rcases List.mem_append.mp hp with hp | hp
  · exact ⟨Heap.get?_push_of_some _ (Heap.get?_push_of_some _ (N1 p hp).1), (N1 p hp).2⟩
  · rcases List.mem_cons.mp hp with rfl | hp
    · exact ⟨Heap.get?_push_size _ rfl, Nat.ne_of_gt hLk, Heap.get?_none_of_le (Nat.le_trans F.above (Nat.le_of_lt hLk))⟩
    · rw [List.mem_singleton.mp hp]
      exact ⟨Heap.get?_push_of_some _ (Heap.get?_push_of_some _ ho1), haL, ha0⟩
end
section
variable {prog : Program} {w : World} {A : Around} {E : Value → Shared → Prop} {s : Shared} {h₀ : Heap} {L : Addr} {m : Str → Option Value} {news : List (Addr × Obj)}
theorem collect_range {r : Addr} {a b c : Int} {t u v : Tok} {n : Nat} {R : List Value → Shared → Prop} (hh : A.handled = none) (hr : IsRange s.heap r a b c t u v) (hsmall : Builtin.Range.small a b c = true) (hn : Builtin.Range.rangeSize a b c = n) (hlen : n ≤ 2 ^ 24)
    (h : ∀ (h' : Heap) (tk : Nat) (acc : Array Value), (∀ b o, s.heap.get? b = some o → h'.get? b = some o) → ItemsOf (fun i v => ∃ t, v = .int (a + i * c) t) acc n → R acc.toList { s with heap := h', toks := tk }) :
    wpAny (model prog w) A (collect (.ref r)) R E s := by
  unfold collect
  refine wpAny_bind (wpAny_runValue (codeAny_builtin entry_proto_collect' ?_))
  rw [Around.under_plainId PySem.F.plain_proto_collect _]
  show wpAny _ A.in1 (newList [] >>= fun l => again (.builtin "list.__iadd__" ⟨[l, .ref r], []⟩)) _ _ s
  refine wpAny_bind (wpAny_newObj_type ?_)
  refine wpAny_pure ⟨plainId_quiet PySem.F.plain_list_iadd _, codeAny_builtin entry_list_iadd' ?_⟩
  rw [Around.under_plainId PySem.F.plain_list_iadd _]
  have hS : (s.heap.push { cls := .type "list", data := .seq ([] : List Value).toArray }).get? s.heap.objs.size = some { cls := .type "list", data := .seq #[] } := Heap.get?_push_size _ rfl
  show wpAny _ A.in1 (Builtin.List.listExtendWith (.ref s.heap.objs.size) (.ref r) (.ref s.heap.objs.size)) _ _ _
  have key := wpAny_extend_range (prog := prog) (w := w) (A := A) (s := { s with heap := s.heap.push { cls := .type "list", data := .seq ([] : List Value).toArray } })
    (R := fun (q : Result) (s' : Shared) => ∃ (h' : Heap) (tk : Nat) (acc' : Array Value) (c' : Nat), q = .ok (.ret (.ref s.heap.objs.size)) ∧ s' = { s with heap := h', toks := tk } ∧
      (∀ b o, s.heap.get? b = some o → h'.get? b = some o) ∧ h'.get? s.heap.objs.size = some { cls := .type "list", dict := none, data := .seq acc' c', slots := #[] } ∧ ItemsOf (fun i v => ∃ t, v = .int (a + i * c) t) acc' n)
    hh (Heap.get?_push_of_some _ hr) hsmall hn hlen s.heap.objs.size (.ref s.heap.objs.size) 0 hS
    (fun h' tk acc' c' hk hS' hacc => ⟨h', tk, acc', c', rfl, rfl, fun b o e => hk b o (Nat.ne_of_lt (Heap.lt_size e)) (Heap.get?_push_of_some _ e), hS', hacc⟩)
  refine wpAny_mono key (fun fin s' x => ?_) fun e s' x => ?_
  · cases fin with
    | done f =>
      obtain ⟨h', tk, acc', c', e, rfl, hk, hS', hacc⟩ := x
      cases e
      show wpAny _ A (load s.heap.objs.size >>= _) _ _ _
      exact wpAny_bind (wpAny_load hS' (wpAny_pure (h h' tk acc' hk hacc)))
    | again c₁ =>
      refine ⟨x.1, codeAny_mono x.2 fun q s₂ y => ?_⟩
      obtain ⟨h', tk, acc', c', rfl, rfl, hk, hS', hacc⟩ := y
      show wpAny _ A (load s.heap.objs.size >>= _) _ _ _
      exact wpAny_bind (wpAny_load hS' (wpAny_pure (h h' tk acc' hk hacc)))
  · obtain ⟨_, _, _, _, e', _⟩ := x
    cases e'
/-- sorted(range(n), key=f), f giving texts -/
theorem sorted_range_key {r f : Addr} {n : Nat} {t u v : Tok} {Q : Value → Shared → Prop} (hh : A.handled = none) (F : Fr h₀ L s.heap m) (N : News h₀ L s.heap news) (hr : IsRange s.heap r 0 n 1 t u v) (g : Nat → Str) (h64 : n < 64)
    (turn : ∀ (i : Nat) (t : Tok) (h : Heap) (tk : Nat) (own : List (Addr × Obj)), i < n → Fr h₀ L h m → News h₀ L h (news ++ own) →
      wpAny (model prog w) A.in1.in1 (call (.ref f) [.int i t]) (KeyEnd h₀ L m (news ++ own) (g i) { s with heap := h, toks := tk }) (fun _ _ => False) { s with heap := h, toks := tk })
    (h : ∀ D h' tk vs out c, Fr h₀ L h' m → News h₀ L h' ((D, seqObj "list" out c) :: news) → (∀ q ∈ news, q.1 < D) → IntsAre vs ((List.range n).map Int.ofNat) → OutS ((List.range n).map g) vs out.toList → Q (.ref D) { s with heap := h', toks := tk }) :
    wpAny (model prog w) A (call (.builtin "sorted") [.ref r] [(Str.ofString "key", .ref f)]) Q E s := by
  refine call_function_entry_kw kind_sorted plain_sorted entry_sorted (ksk_s1 _ _) ?_
  unfold Builtin.«sorted»
  refine wpAny_bind (m := checkCount "sorted" 1 1 _) (wpAny_pure ?_)
  have hrs : Builtin.Range.rangeSize 0 (n : Int) 1 = n := by rw [rangeSize_one]; split <;> omega
  refine wpAny_bind (collect_range (n := n) hh hr (small_one (by omega) (by omega) (by omega) (by omega)) hrs (by omega) fun h1 tk1 acc hk1 hacc => ?_)
  have hI : ∀ (k : Nat) (l : List Value), l.length = n - k → (∀ (j : Nat) (v : Value), l[j]? = some v → ∃ t, v = Value.int (((k + j : Nat) : Int)) t) → k ≤ n → IntsAre l ((List.range' k (n - k)).map Int.ofNat) := by
    intro k l
    induction l generalizing k with
    | nil => intro hl _ hkn; rw [show n - k = 0 by simpa using hl.symm]; exact .nil
    | cons x l ih =>
      intro hl hx hkn
      obtain ⟨t, rfl⟩ := hx 0 x rfl
      obtain ⟨q, hq⟩ : ∃ q, n - k = q + 1 := ⟨n - k - 1, by simp at hl; omega⟩
      rw [hq, List.range'_succ, List.map_cons]
      have := ih (k + 1) (by simp at hl; omega) (fun j v e => by
        obtain ⟨t, rfl⟩ := hx (j + 1) v (by simpa using e)
        exact ⟨t, by rw [show k + (j + 1) = k + 1 + j by omega]⟩) (by omega)
      rw [show n - (k + 1) = q by omega] at this
      exact .cons _ _ this
  have hvs : IntsAre acc.toList ((List.range n).map Int.ofNat) := by
    have := hI 0 acc.toList (by rw [Array.length_toList, hacc.1]; omega) (fun j v e => by
      obtain ⟨t, rfl⟩ := hacc.2 j v (by simpa using e)
      exact ⟨t, by simp⟩) (Nat.zero_le _)
    rw [List.range_eq_range']
    simpa using this
  have hvl : acc.toList.length = n := by rw [Array.length_toList, hacc.1]
  refine wpAny_bind (wpAny_newList ?_ (by rw [hvl, sizeLine_eq]; omega))
  have F1 : Fr h₀ L h1 m := F.keeps hk1
  have N1 : News h₀ L h1 news := N.grown hk1
  have hoL : (h1.push (seqObj "list" acc.toList.toArray 0)).get? h1.objs.size = some (seqObj "list" acc.toList.toArray 0) := Heap.get?_push_size _ rfl
  have hL : L < h1.objs.size := F1.ns.lt
  refine wpAny_bind (wpAny_holding (wpAny_call_entry_kw slot_list_sort ⟨_, hoL, rfl⟩ entry_list_sort ?body (ksk_l1 _ _)))
  case body =>
    show wpAny (model prog w) A.in1.in1 (Builtin.«list.sort» ⟨[.ref h1.objs.size], _⟩) _ _ _
    rw [ksk_t1]
    refine sk_sort (s := { s with heap := h1.push (seqObj "list" acc.toList.toArray 0), toks := tk1 }) (kz := (List.range n).map g)
      (F1.push _) (N1.grown fun _ _ e => Heap.get?_push_of_some _ e) hoL (Nat.ne_of_gt hL) (Heap.get?_none_of_le (Nat.le_trans F1.above (Nat.le_of_lt hL)))
      (fun p hp => Nat.ne_of_lt (Heap.lt_size (N1 p hp).1)) (by rw [List.length_map, List.length_range, hvl]) (by rw [hvl]; exact h64) (fun i v k hv hk h tk own F' N' => ?_) fun h' tk out c F' N' k' => ⟨_, rfl, ?_⟩
    · have hi : i < n := by rw [← hvl]; exact (List.getElem?_eq_some_iff.mp hv).1
      have hg : k = g i := by
        rw [List.getElem?_map, List.getElem?_range hi] at hk
        exact (Option.some.inj hk).symm
      obtain ⟨t, e⟩ := hacc.2 i v (by simpa using hv)
      have e' : v = .int i t := by rw [e]; simp
      subst e'
      rw [hg]
      exact turn i t h tk own hi F' N'
    · exact wpAny_pure ⟨_, rfl, h _ h' tk acc.toList out c F' N' (fun q hq => Heap.lt_size (N1 q hq).1) hvs k'⟩
end
end Mine
namespace Mine
open PySem PySem.Calls PySem.W PyProof.Rows PySem.Flt PySem.Builtin PySem.Builtin.ObjectAttr
theorem offH2 : True := by w_top off; trivial
theorem lam_make {M : Model} {A : Around} {E : Value → Shared → Prop} {s : Shared} {name qual : Str} {params : Arguments} {body : FuncBody} {scope : Scope} {env : Env} {pos : Pos} {firstLine : Nat} {Q : Value → Shared → Prop}
    (h : wpAny M A (makeTail name qual params body scope env .none .none none pos firstLine) Q E s) : wpAny M A (makeFunction name qual params body scope env [] [] [] pos firstLine) Q E s := by
  rw [makeFunction_eq]
  simp only [List.zip_nil_right, List.filterMap_nil, List.isEmpty_nil, if_true, pure_bind]
  exact h

theorem NT.of_cell {o : Obj} {v : Option Value} (h : o.data = .cell v) : NT o := fun _ e _ => by rw [e] at h; cases h
theorem news_ne {h₀ h : Heap} {L : Addr} {Λ : Ldg} (N : News h₀ L h Λ) {a b : Addr} {o o' : Obj} (h1 : (a, o) ∈ Λ) (h2 : (b, o') ∈ Λ) (hn : o.data ≠ o'.data) : a ≠ b := by
  rintro rfl
  exact hn (by rw [news_inj N h1 h2])
noncomputable def G2 (w : World) (p : Program) (loose : List Str) (mean : ExcName → Option Value) (mg mb : Str → Option Value) : Gl :=
  { prog := PySem.Challenge.rw_ph0008_02.prog, w, K := Mine.hd.heap_39 w.params, p, loose, mean, mg, mb,
    sp := [(30, (("_law_find" : Str) ++ ".<locals>.") ++ "<lambda>"), (44, (("_law_program" : Str) ++ ".<locals>.") ++ "<lambda>"), (51, (("_law_last_letters" : Str) ++ ".<locals>.") ++ "<lambda>")], tabs := [(34, 30), (48, 44), (53, 51)] }

theorem sp_nd (w p loose mean mg mb) : ∀ x ∈ (G2 w p loose mean mg mb).sp, ∀ y ∈ (G2 w p loose mean mg mb).sp, x.1 = y.1 → x.2 = y.2 := by
  intro x hx y hy e
  rcases List.mem_cons.mp hx with rfl | hx
  · rcases List.mem_cons.mp hy with rfl | hy
    · rfl
    · rcases List.mem_cons.mp hy with rfl | hy
      · exact absurd e (by decide)
      · rw [List.mem_singleton.mp hy] at e; exact absurd e (by decide)
  · rcases List.mem_cons.mp hx with rfl | hx
    · rcases List.mem_cons.mp hy with rfl | hy
      · exact absurd e (by decide)
      · rcases List.mem_cons.mp hy with rfl | hy
        · rfl
        · rw [List.mem_singleton.mp hy] at e; exact absurd e (by decide)
    · rw [List.mem_singleton.mp hx] at e ⊢
      rcases List.mem_cons.mp hy with rfl | hy
      · exact absurd e (by decide)
      · rcases List.mem_cons.mp hy with rfl | hy
        · exact absurd e (by decide)
        · rw [List.mem_singleton.mp hy]
theorem law_find (w p loose mean mg mb) (i j : Int) (ti tj : Tok) (n : Int) (tn : Tok) :
    Con (G2 w p loose mean mg mb) 9 40 35 [.int i ti, .int j tj, .int n tn] (fun _ => True) (fun _ v Λ' => IsHit (G2 w p loose mean mg mb) "number" Λ' v i j (fun u => u = .int n tn)) := by
  refine Con.ofDefC (d := 8) (u := 37) (oc := _) (od := _) (osl := _) (binds := [("first", .int i ti), ("behind", .int j tj), ("number", .int n tn)]) (name := _) (qual := _) (params := _) (body := _) (scope := _) (dV := _) (kV := _) (doc := _) (pm := _) (an := _) (cdv := _) (ct := _) rfl (by kernel_rfl) (fun s => BindsTo.of_eq rfl) rfl (by decide +kernel) rfl rfl rfl ?_
  intro dp un gd L outer A₀ base g Λ cells s E B F X N Y hlt T hC tab _ hd hu
  obtain ⟨o1, o2, rfl, d1, d2⟩ := CellsAre.two Y
  clear Y
  replace d1 : o1.data = .cell (some (.int j tj)) := d1
  replace d2 : o2.data = .cell (some (.int i ti)) := d2
  replace X : (Mine.hd.heap_39 w.params).In g := X
  have hCo : CodeHd g 34 30 := (hC (34, 30) (.head _)).keeps B.stays
  have hnd := sp_nd w p loose mean mg mb
  have tab0 : TabOk (G2 w p loose mean mg mb).sp ([(L + 1 + 1, o1), (L + 1, o2)] ++ Λ) := tab.sub fun _ h => List.mem_append_right _ h
  k_steps
  refine kla_eval rfl ?_
  refine lam_make ?_
  refine lam_led F N T hCo rfl tab0 hnd (.head _) rfl ?_
  intro f c1 oc1 doc1 ctv1 h1 tk1 Λ1 F1 N1 T1 S1 hc1 hl1 hf1
  k_steps
  rename Fr _ _ _ _ => F2; rename News _ _ _ _ => N2
  refine kla_eval rfl ?_
  refine lam_make ?_
  refine lam_led F2 N2 T hCo rfl (T1.sub fun _ h => List.mem_cons_of_mem _ h) hnd (.head _) rfl ?_
  intro f2 c2 oc2 doc2 ctv2 h2 tk2 Λ2 F3 N3 T3 S3 hc2 hl2 hf2
  have hfm := S3.keep _ (.head _) (.of_cls (by nofun))
  have nc2 : c2 ≠ f := news_ne N3 (.tail _ hc2) (.tail _ hfm) (by obtain ⟨vs, t, e, _⟩ := hl2; rw [e]; nofun)
  k_steps
  rename Fr _ _ _ _ => F4; rename News _ _ _ _ => N4
  refine set_led0 F4 N4 (.tail _ hfm) (T3.sub fun _ h => List.mem_cons_of_mem _ h) lk_function_span ?_
  intro D h5 t5 tk5 Λ5 F5 N5 T5 ha5 hD5 k5 b5 l5
  k_steps
  rename Fr _ _ _ _ => F6; rename News _ _ _ _ => N6
  refine set_led1 F6 N6 ha5 hD5 T5 lk_function_number ?_ ?_ (by simp) ?_
  · intro e he; rw [List.mem_singleton.mp he]; show (Str.ofString "span" == Str.ofString "number") = false; decide +kernel
  · intro e he; rw [List.mem_singleton.mp he]; rfl
  intro h7 t7 tk7 Λ7 F7 N7 T7 hD7 k7 b7
  k_steps
  have a1 : ∀ q ∈ Λ1, q.1 < f := hf1
  have hLf : L < f := Nat.lt_trans (Nat.lt_succ_self L) (hf1 _ (S1.keep (L + 1, o2) (.tail _ (.head _)) (NT.of_cell d2)))
  have hfD : f < D := l5 _ (.tail _ hfm)
  have hff2 : f < f2 := hf2 _ hfm
  have hf2D : f2 < D := l5 _ (.head _)
  have in7 : ∀ q ∈ Λ2, q.1 ≠ f → q ∈ Λ7 := fun q hq hn => k7 q (k5 q (.tail _ hq) hn) (Nat.ne_of_lt (l5 q (.tail _ hq)))
  have S : Step Λ Λ7 := by
    refine ⟨fun q hq hn => ?_, fun q hq => ?_, fun q hq => ?_⟩
    · have q1 := S1.keep q (List.mem_append_right _ hq) hn
      exact in7 q (S3.keep q (.tail _ q1) hn) (Nat.ne_of_lt (hf1 q q1))
    · obtain ⟨r, hr, e⟩ := S1.addr q (List.mem_append_right _ hq)
      obtain ⟨r', hr', e'⟩ := S3.addr r (.tail _ hr)
      exact ⟨r', in7 r' hr' (by rw [e']; exact Nat.ne_of_lt (hf1 r hr)), e'.trans e⟩
    · have big : L ≤ q.1 → (∃ r ∈ Λ, r.1 = q.1) ∨ ∀ r ∈ Λ, r.1 < q.1 := fun h => .inr fun r hr => Nat.lt_of_lt_of_le (hlt r hr) h
      rcases b7 q hq with e | hq
      · exact big (by rw [e]; exact Nat.le_of_lt (Nat.lt_trans hLf hfD))
      · rcases b5 q hq with e | e | hq
        · exact big (by rw [e]; exact Nat.le_of_lt hLf)
        · exact big (by rw [e]; exact Nat.le_of_lt (Nat.lt_trans hLf hfD))
        · rcases List.mem_cons.mp hq with rfl | hq
          · exact big (Nat.le_of_lt (Nat.lt_trans hLf hff2))
          · rcases S3.fresh q hq with ⟨r, hr, e⟩ | e
            · rcases List.mem_cons.mp hr with rfl | hr
              · exact big (by rw [← e]; exact Nat.le_of_lt hLf)
              · rcases S1.fresh r hr with ⟨r', hr', e'⟩ | e'
                · rcases List.mem_append.mp hr' with hr' | hr'
                  · refine big (by rw [← e, ← e']; rcases List.mem_cons.mp hr' with rfl | hr'; exact Nat.le_trans (Nat.le_succ _) (Nat.le_succ _); rw [List.mem_singleton.mp hr']; exact Nat.le_succ _)
                  · exact .inl ⟨r', hr', e'.trans e⟩
                · exact big (by rw [← e]; exact Nat.le_of_lt (Nat.lt_trans (Nat.lt_succ_self L) (e' (L + 1, o2) (.tail _ (.head _)))))
            · exact big (Nat.le_of_lt (Nat.lt_trans hLf (e _ (.head _))))
  have i2 := k7 _ (k5 _ (.head _) (Nat.ne_of_gt hff2)) (Nat.ne_of_lt hf2D)
  have ic2 : (c2, oc2) ∈ Λ7 := in7 _ hc2 nc2
  have icB : (L + 1 + 1, o1) ∈ Λ7 := by
    have q1 := S1.keep _ (.head _) (NT.of_cell d1)
    exact in7 _ (S3.keep _ (.tail _ q1) (NT.of_cell d1)) (Nat.ne_of_lt (hf1 _ q1))
  have icF : (L + 1, o2) ∈ Λ7 := by
    have q1 := S1.keep _ (.tail _ (.head _)) (NT.of_cell d2)
    exact in7 _ (S3.keep _ (.tail _ q1) (NT.of_cell d2)) (Nat.ne_of_lt (hf1 _ q1))
  refine Lv.intro F7 N7 T7 S ?_
  have key : Spans (G2 w p loose mean mg mb) f2 Λ7 i j := by
    unfold Spans
    refine Con.ofLam (d := 1) (u := 13) i2 ic2 hl2 (binds := []) (fun _ _ _ _ _ _ => BindsTo.of_eq rfl) (fun _ h => nomatch h) rfl rfl rfl (by decide) ?_
    intro dp un gd L' outer A₀ base g Λ' s E B F X N T hC tab hsub hd hu
    replace X : (Mine.hd.heap_39 w.params).In g := X
    have mF := hsub _ icF (NT.of_cell d2)
    have mB := hsub _ icB (NT.of_cell d1)
    k_steps
    rename Fr _ _ _ _ => F9; rename News _ _ _ _ => N9
    exact Lv.intro F9 N9 (tab.sub fun _ h => List.mem_cons_of_mem _ h) (Step.cons (by assumption)) ⟨_, _, _, rfl, .head _⟩
  refine ⟨f, D, _, _, _, f2, .int n tn, _, rfl, k7 _ ha5 (Nat.ne_of_lt hfD), hD7, ?_, ?_, ?_, rfl, rfl, i2, key⟩
  · intro e he
    simp only [List.cons_append, List.nil_append, List.mem_toArray, List.mem_cons, List.not_mem_nil, or_false] at he
    rcases he with rfl | rfl <;> exact ⟨_, _, rfl⟩
  · rfl
  · rfl
end Mine
namespace Mine
open PySem PySem.Calls PySem.W PyProof.Rows PySem.Flt PySem.Builtin PySem.Builtin.ObjectAttr
theorem offN2 : True := by w_top off; trivial
theorem fill1 : PySem.Challenge.rw_ph0008_02.prog = PySem.Challenge.rw_ph0008_02.prog ∧ Mine.hd.heap_39 = Mine.hd.heap_39 := by k_fill; exact ⟨rfl, rfl⟩
local macro_rules | `(tactic| walk_at "call ref") => `(tactic| refine hold_in ?_)
local macro_rules | `(tactic| walk_at "call builtin:len") => `(tactic| ((with_reducible show wpAny _ _ (call (Value.builtin "len") [Value.ref _]) _ _ _); refine hold_in ?_))
theorem len_led {prog : Program} {w : World} {A : Around} {E : Value → Shared → Prop} {s : Shared} {h₀ : Heap} {L l : Addr} {Λ : Ldg} {vs : List Value} {ep : Nat} {Q : Value → Shared → Prop} (N : News h₀ L s.heap Λ) (hl : (l, listObj vs ep) ∈ Λ) (hz : vs.length ≤ 100000)
    (h : ∀ t k, Q (.int (vs.length : Nat) t) { s with toks := k }) : wpAny (model prog w) A (call (.builtin "len") [.ref l]) Q E s :=
  PyProof.Rows.len_list (items := vs.toArray) ⟨_, (N _ hl).1, rfl, _, rfl⟩ (by rw [List.size_toArray]; omega) (by rw [List.size_toArray]; exact h _ _)
/-- the first mark from a place on -/
def nxMgo (size j : Int) : List Int → Nat → Option (Int × Int × Int)
  | [], _ => none
  | m :: r, i => if j ≤ m then some (m, m + size, ((i : Int) + 1)) else nxMgo size j r (i + 1)
abbrev nxM (ns : List Int) (size j : Int) : Option (Int × Int × Int) := nxMgo size j ns 0
def IsInts (Λ : Ldg) (l : Addr) (ns : List Int) : Prop := ∃ vs ep, (l, listObj vs ep) ∈ Λ ∧ IntsAre vs ns
theorem IsInts.mono {Λ Λ' : Ldg} {l : Addr} {ns : List Int} (x : IsInts Λ l ns) (hs : Sub Λ Λ') : IsInts Λ' l ns := by
  obtain ⟨vs, ep, a, b⟩ := x
  exact ⟨vs, ep, hs _ a (.of_cls (by nofun)), b⟩
theorem IsHit.imp {G : Gl} {an : Str} {Λ : Ldg} {v : Value} {i j : Int} {ok ok' : Value → Prop} (x : IsHit G an Λ v i j ok) (h : ∀ u, ok u → ok' u) : IsHit G an Λ v i j ok' := by
  obtain ⟨a, D, fd, es, n, sp, gv, fd', e, h1, h2, h3, h4, h5, h6, r⟩ := x
  exact ⟨a, D, fd, es, n, sp, gv, fd', e, h1, h2, h3, h4, h5, h _ h6, r⟩
theorem law_next (w p loose mean mg mb) (l : Addr) (ns : List Int) (size : Int) (ts : Tok) (j : Int) (tj : Tok) (hz : ns.length ≤ 1000) :
    Con (G2 w p loose mean mg mb) 13 60 42 [.ref l, .int size ts, .int j tj] (fun Λ => IsInts Λ l ns) (fun _ v Λ' => Found (G2 w p loose mean mg mb) "number" (fun g u => ∃ t, u = .int g t) Λ' v (nxM ns size j)) := by
  refine Con.ofDef (d := 12) (u := 57) (oc := _) (od := _) (osl := _) (binds := [("marks", .ref l), ("size", .int size ts), ("start", .int j tj)]) (name := _) (qual := _) (params := _) (body := _) (scope := _) (dV := _) (kV := _) (doc := _) (pm := _) (an := _) (cdv := _) (ct := _) rfl (by kernel_rfl) (fun s => BindsTo.of_eq rfl) (locs rfl) rfl rfl rfl (by decide) ?_
  intro dp un gd L outer A₀ base g Λ s E B F X N T hC tab hpre hd hu
  replace X : (Mine.hd.heap_39 w.params).In g := X
  replace T : Top p loose mean mg mb g := T
  obtain ⟨vs, ep, hl, hI⟩ := hpre
  have hlen := hI.length
  refine execs_take 1 ?_
  dsimp only [List.take, List.drop]
  refine wpAny_execs_cons ?_
  refine wpAny_For ?_
  k_steps
  refine hold_out ?_
  refine len_led N hl (by omega) ?_
  k_steps
  rename Fr _ _ _ _ => F1; rename News _ _ _ _ => N1; rename IsRange _ _ _ _ _ _ _ _ => hr; rename IntsAre vs ns => hI
  refine iter_range (fun f s' h => h) rfl F1 N1 tab hr (by omega) (fun _ _ => go_name) (fun i m Λ' => m "marks" = some (.ref l) ∧ m "size" = some (.int size ts) ∧ m "start" = some (.int j tj) ∧ (l, listObj vs ep) ∈ Λ' ∧ nxMgo size j (ns.drop i) i = nxM ns size j) ?_ ⟨rfl, rfl, rfl, hl, rfl⟩ ?_ ?_
  · rintro i m Λ Λ' hs ⟨a, b, c, d, e⟩
    exact ⟨a, b, c, hs _ d (.of_data (by nofun)), e⟩
  · rintro i v m₁ Λ₁ s₁ E' ⟨h1, tk1, rfl⟩ hi ⟨tv, rfl⟩ ⟨e1, e2, e3, e4, e5⟩ hT hsub F2 N2
    replace F2 := fr_says [("marks", .ref l), ("size", .int size ts), ("start", .int j tj)] F2 (by simp [e1, e2, e3])
    obtain ⟨m, hm⟩ : ∃ m, ns[i]? = some m := ⟨ns[i], by simp [hi]⟩
    obtain ⟨tm, hvm⟩ : ∃ t, vs[i]? = some (.int m t) := by
      rcases ints_at hI i with ⟨_, e⟩ | ⟨n, t, e, e'⟩
      · rw [hm] at e; cases e
      · rw [hm] at e'; cases e'; exact ⟨t, e⟩
    have hdr : ns.drop i = m :: ns.drop (i + 1) := by
      rw [List.drop_eq_getElem_cons hi]
      rw [List.getElem?_eq_getElem hi] at hm
      cases hm; rfl
    rw [hdr, nxMgo] at e5
    k_steps
    · rename (j ≤ _) => hj
      rename Fr _ _ _ _ => F3; rename News _ _ _ _ => N3
      refine hold_out ?_
      have hg : ns.getD (↑i : Int).toNat 0 = m := by simp [hm]
      rw [hg] at hj ⊢
      rw [if_pos hj] at e5
      refine law_find w p loose mean mg mb _ _ _ _ _ _ _ _ _ _ _ _ _ _ _ _ ⟨⟨gd, _, _, _, _, _, outer, A₀, base, rfl, B, rfl, hC⟩, F3, X, N3, T, hT⟩ trivial (by omega) (by omega) ?_
      intro v Λ3 h3 tk3 c3 S3 P3
      k_steps
      unfold TurnEnd
      dsimp only [retOf]
      refine Lv.intro c3.F c3.N c3.tab (hsub.trans S3) ?_
      rw [← e5]
      exact IsHit.imp P3 fun u e => ⟨_, e⟩
    · rename (¬ j ≤ _) => hj
      rename Fr _ _ _ _ => F3; rename News _ _ _ _ => N3
      have hg : ns.getD (↑i : Int).toNat 0 = m := by simp [hm]
      rw [hg] at hj
      rw [if_neg hj] at e5
      exact TurnEnd.next F3 N3 hT .refl ⟨rfl, rfl, rfl, e4, e5⟩
  · intro m' Λ' h' tk F2 N2 T2 S2 ⟨e1, e2, e3, e4, e5⟩
    rw [List.drop_length] at e5
    refine wpAny_execs_nil ?_
    dsimp only
    unfold Hold
    k_steps
    exact Lv.intro F2 N2 T2 S2 (by rw [← e5]; rfl)
end Mine
namespace Mine
open PySem PySem.Calls PySem.W PyProof.Rows PySem.Flt PySem.Builtin PySem.Builtin.ObjectAttr
theorem offP2 : True := by w_top off; trivial
theorem fill2 : PySem.Challenge.rw_ph0008_02.prog = PySem.Challenge.rw_ph0008_02.prog ∧ Mine.hd.heap_39 = Mine.hd.heap_39 := by k_fill; exact ⟨rfl, rfl⟩
theorem Con.imp {G : Gl} {d u : Nat} {f : Addr} {vs : List Value} {Pre : Ldg → Prop} {Post Post' : Ldg → Value → Ldg → Prop} (x : Con G d u f vs Pre Post) (h : ∀ Λ v Λ', Post Λ v Λ' → Post' Λ v Λ') : Con G d u f vs Pre Post' :=
  fun dp un A h₀ L m Λ s Q E c hp hd hu hr => x dp un A h₀ L m Λ s Q E c hp hd hu fun v Λ' h' tk' c' S P => hr v Λ' h' tk' c' S (h _ _ _ P)
/-- a program that leans on some objects alone -/
def ProgOn {γ : Type} (G : Gl) (an : Str) (ok : γ → Value → Prop) (Λ Λ' : Ldg) (l pg : Addr) (nx : Int → Option (Int × Int × γ)) : Prop :=
  ∃ Λp : Ldg, (∀ p ∈ Λp, p ∈ Λ' ∧ NT p.2 ∧ NI p.2 ∧ (p.1 = l ∨ (∃ q, CodeLike p.2 q) ∨ ∀ q ∈ Λ, q.1 < p.1)) ∧ ∀ chars, IsProg G an ok Λp pg chars nx
theorem law_programX (w p loose mean mg mb) (l : Addr) (ns : List Int) (size : Int) (ts : Tok) (hz : ns.length ≤ 1000) :
    Con (G2 w p loose mean mg mb) 9 40 49 [.ref l, .int size ts] (fun Λ => IsInts Λ l ns) (fun Λ v Λ' => ∃ pg, v = .ref pg ∧ ProgOn (G2 w p loose mean mg mb) "number" (fun (g : Int) u => ∃ t, u = .int g t) Λ Λ' l pg (fun j => nxM ns size j)) := by
  refine Con.ofDefC (d := 8) (u := 37) (oc := _) (od := _) (osl := _) (binds := [("marks", .ref l), ("size", .int size ts)]) (name := _) (qual := _) (params := _) (body := _) (scope := _) (dV := _) (kV := _) (doc := _) (pm := _) (an := _) (cdv := _) (ct := _) rfl (by kernel_rfl) (fun s => BindsTo.of_eq rfl) rfl (by decide +kernel) rfl rfl rfl ?_
  intro dp un gd L outer A₀ base g Λ cells s E B F X N Y hlt T hC tab hpre hd hu
  obtain ⟨o1, o2, rfl, d1, d2⟩ := CellsAre.two Y
  clear Y
  replace d1 : o1.data = .cell (some (.int size ts)) := d1
  replace d2 : o2.data = .cell (some (.ref l)) := d2
  replace X : (Mine.hd.heap_39 w.params).In g := X
  replace T : Top p loose mean mg mb g := T
  have hCo : CodeHd g 48 44 := (hC (48, 44) (.tail _ (.head _))).keeps B.stays
  have hnd := sp_nd w p loose mean mg mb
  have tab0 : TabOk (G2 w p loose mean mg mb).sp ([(L + 1 + 1, o1), (L + 1, o2)] ++ Λ) := tab.sub fun _ h => List.mem_append_right _ h
  k_steps
  refine kla_eval rfl ?_
  refine lam_make ?_
  refine lam_led F N T hCo rfl tab0 hnd (.tail _ (.head _)) rfl ?_
  intro f c1 oc1 doc1 ctv1 h1 tk1 Λ1 F1 N1 T1 S1 hc1 hl1 hf1
  k_steps
  rename Fr _ _ _ _ => F2; rename News _ _ _ _ => N2
  rename_i t0 h9 l1
  have hLf : L < f := Nat.lt_trans (Nat.lt_succ_self L) (hf1 _ (S1.keep (L + 1, o2) (.tail _ (.head _)) (NT.of_cell d2)))
  have hft : f < t0 := l1.1
  refine lam_led F2 N2 T hCo rfl (T1.sub fun _ h => List.mem_cons_of_mem _ (List.mem_cons_of_mem _ h)) hnd (.tail _ (.head _)) rfl ?_
  intro f2 c2 oc2 doc2 ctv2 h2 tk2 Λ2 F3 N3 T3 S3 hc2 hl2 hf2
  have htm := S3.keep _ (.head _) (.of_cls (by nofun))
  have hfm := S3.keep _ (.tail _ (.head _)) (.of_cls (by nofun))
  have nc2 : c2 ≠ f := news_ne N3 (.tail _ hc2) (.tail _ hfm) (by obtain ⟨vs, t, e, _⟩ := hl2; rw [e]; nofun)
  k_steps
  rename Fr _ _ _ _ => F4; rename News _ _ _ _ => N4
  refine set_led0 F4 N4 (.tail _ hfm) (T3.sub fun _ h => List.mem_cons_of_mem _ h) lk_function_search ?_
  intro D h5 t5 tk5 Λ5 F5 N5 T5 ha5 hD5 k5 b5 l5
  k_steps
  have hfD : f < D := l5 _ (.tail _ hfm)
  have hff2 : f < f2 := hf2 _ hfm
  have hf2D : f2 < D := l5 _ (.head _)
  have in5 : ∀ q ∈ Λ2, q.1 ≠ f → q ∈ Λ5 := fun q hq hn => k5 q (.tail _ hq) hn
  have S : Step Λ Λ5 := by
    refine ⟨fun q hq hn => ?_, fun q hq => ?_, fun q hq => ?_⟩
    · have q1 := S1.keep q (List.mem_append_right _ hq) hn
      exact in5 q (S3.keep q (.tail _ (.tail _ q1)) hn) (Nat.ne_of_lt (hf1 q q1))
    · obtain ⟨r, hr, e⟩ := S1.addr q (List.mem_append_right _ hq)
      obtain ⟨r', hr', e'⟩ := S3.addr r (.tail _ (.tail _ hr))
      exact ⟨r', in5 r' hr' (by rw [e']; exact Nat.ne_of_lt (hf1 r hr)), e'.trans e⟩
    · have big : L ≤ q.1 → (∃ r ∈ Λ, r.1 = q.1) ∨ ∀ r ∈ Λ, r.1 < q.1 := fun h => .inr fun r hr => Nat.lt_of_lt_of_le (hlt r hr) h
      rcases b5 q hq with e | e | hq
      · exact big (by rw [e]; exact Nat.le_of_lt hLf)
      · exact big (by rw [e]; exact Nat.le_of_lt (Nat.lt_trans hLf hfD))
      · rcases List.mem_cons.mp hq with rfl | hq
        · exact big (Nat.le_of_lt (Nat.lt_trans hLf hff2))
        · rcases S3.fresh q hq with ⟨r, hr, e⟩ | e
          · rcases List.mem_cons.mp hr with rfl | hr
            · exact big (by rw [← e]; exact Nat.le_of_lt (Nat.lt_trans hLf hft))
            · rcases List.mem_cons.mp hr with rfl | hr
              · exact big (by rw [← e]; exact Nat.le_of_lt hLf)
              · rcases S1.fresh r hr with ⟨r', hr', e'⟩ | e'
                · rcases List.mem_append.mp hr' with hr' | hr'
                  · refine big (by rw [← e, ← e']; rcases List.mem_cons.mp hr' with rfl | hr'; exact Nat.le_trans (Nat.le_succ _) (Nat.le_succ _); rw [List.mem_singleton.mp hr']; exact Nat.le_succ _)
                  · exact .inl ⟨r', hr', e'.trans e⟩
                · exact big (by rw [← e]; exact Nat.le_of_lt (Nat.lt_trans (Nat.lt_succ_self L) (e' (L + 1, o2) (.tail _ (.head _)))))
          · exact big (Nat.le_of_lt (Nat.lt_trans hLf (e _ (.tail _ (.head _)))))
  have i2 := k5 _ (.head _) (Nat.ne_of_gt hff2)
  have ic2 : (c2, oc2) ∈ Λ5 := in5 _ hc2 nc2
  have it0 : (t0, kdv_tup [.int 0 _]) ∈ Λ5 := in5 _ htm (Nat.ne_of_gt hft)
  have icB : (L + 1 + 1, o1) ∈ Λ5 := by
    have q1 := S1.keep _ (.head _) (NT.of_cell d1)
    exact in5 _ (S3.keep _ (.tail _ (.tail _ q1)) (NT.of_cell d1)) (Nat.ne_of_lt (hf1 _ q1))
  have icP : (L + 1, o2) ∈ Λ5 := by
    have q1 := S1.keep _ (.tail _ (.head _)) (NT.of_cell d2)
    exact in5 _ (S3.keep _ (.tail _ (.tail _ q1)) (NT.of_cell d2)) (Nat.ne_of_lt (hf1 _ q1))
  obtain ⟨vsM, epM, hlM, hIM⟩ := hpre
  have hl5 := S.keep _ hlM (.of_cls (by nofun))
  rename News _ _ _ _ => N6
  generalize hAs : [f, D, f2, c2, t0, L + 1 + 1, L + 1, l] = As
  have into : ∀ {a : Addr} {o : Obj}, (a, o) ∈ Λ5 → a ∈ As → (a, o) ∈ Λ5.filter (fun p => decide (p.1 ∈ As)) := fun hm ha => List.mem_filter.mpr ⟨hm, by simpa using ha⟩
  have jf := into ha5 (by rw [← hAs]; simp)
  have jD := into hD5 (by rw [← hAs]; simp)
  have j2 := into i2 (by rw [← hAs]; simp)
  have jc := into ic2 (by rw [← hAs]; simp)
  have j0 := into it0 (by rw [← hAs]; simp)
  have jB := into icB (by rw [← hAs]; simp)
  have jP := into icP (by rw [← hAs]; simp)
  have jl := into hl5 (by rw [← hAs]; simp)
  have hLD : L < D := Nat.lt_trans hLf hfD
  have hL2 : L < f2 := Nat.lt_trans hLf hff2
  have hLt : L < t0 := Nat.lt_trans hLf hft
  have all : ∀ p ∈ Λ5.filter (fun p => decide (p.1 ∈ As)), p ∈ Λ5 ∧ NT p.2 ∧ NI p.2 ∧ (p.1 = l ∨ (∃ q, CodeLike p.2 q) ∨ ∀ q ∈ Λ, q.1 < p.1) := by
    intro p hp
    obtain ⟨hp5, hpa⟩ := List.mem_filter.mp hp
    have same : ∀ {a : Addr} {o : Obj}, (a, o) ∈ Λ5 → p.1 = a → p.2 = o := fun {a o} hm e => by
      obtain ⟨pa, po⟩ := p
      have e' : pa = a := e
      subst e'
      exact news_inj N6 hp5 hm
    have lt : ∀ {a : Addr}, L ≤ a → p.1 = a → ∀ q ∈ Λ, q.1 < p.1 := fun ha e q hq => by rw [e]; exact Nat.lt_of_lt_of_le (hlt q hq) ha
    have hpa' : p.1 ∈ As := by simpa using hpa
    rw [← hAs] at hpa'
    simp only [List.mem_cons, List.not_mem_nil, or_false] at hpa'
    rcases hpa' with e | e | e | e | e | e | e | e
    · exact ⟨hp5, by rw [same ha5 e]; exact .of_cls (by nofun), by rw [same ha5 e]; exact .of_data (by nofun), .inr (.inr (lt (Nat.le_of_lt hLf) e))⟩
    · exact ⟨hp5, by rw [same hD5 e]; exact .of_cls (by nofun), by rw [same hD5 e]; exact .of_data (by nofun), .inr (.inr (lt (Nat.le_of_lt hLD) e))⟩
    · exact ⟨hp5, by rw [same i2 e]; exact .of_cls (by nofun), by rw [same i2 e]; exact .of_data (by nofun), .inr (.inr (lt (Nat.le_of_lt hL2) e))⟩
    · exact ⟨hp5, by rw [same ic2 e]; exact .of_code hl2, by rw [same ic2 e]; exact .of_code hl2, .inr (.inl ⟨_, by rw [same ic2 e]; exact hl2⟩)⟩
    · exact ⟨hp5, by rw [same it0 e]; exact .of_cls (by nofun), by rw [same it0 e]; exact .of_data (by nofun), .inr (.inr (lt (Nat.le_of_lt hLt) e))⟩
    · exact ⟨hp5, by rw [same icB e]; exact NT.of_cell d1, by rw [same icB e]; exact .of_data (fun vs e => by rw [d1] at e; cases e), .inr (.inr (lt (Nat.le_trans (Nat.le_succ _) (Nat.le_succ _)) e))⟩
    · exact ⟨hp5, by rw [same icP e]; exact NT.of_cell d2, by rw [same icP e]; exact .of_data (fun vs e => by rw [d2] at e; cases e), .inr (.inr (lt (Nat.le_succ _) e))⟩
    · exact ⟨hp5, by rw [same hl5 e]; exact .of_cls (by nofun), by rw [same hl5 e]; exact .of_data (by nofun), .inl e⟩
  refine Lv.intro (by k_asm) N6 T5 S ⟨f, rfl, _, all, fun chars => ⟨D, _, _, _, f2, _, jf, jD, ?_, rfl, j2, ?_, ?_⟩⟩
  · intro e he
    simp only [List.mem_toArray, List.mem_cons, List.not_mem_nil, or_false] at he
    rcases he with rfl
    exact ⟨_, _, rfl⟩
  · intro t
    refine Con.ofLam (d := 19) (u := 97) j2 jc hl2 (binds := [("chars", .str chars t), ("start", .int 0 _)]) (fun _ _ _ _ N hs => kdv_binds N (hs _ j0 (.of_cls (by nofun))) rfl rfl rfl) (locs rfl) rfl rfl rfl (by decide) ?_
    intro dp un gd L' outer A₀ base g Λ' s E B F X N T hC tab hsub hd hu
    replace X : (Mine.hd.heap_39 w.params).In g := X
    replace T : Top p loose mean mg mb g := T
    have mP := hsub _ jP (NT.of_cell d2)
    have mB := hsub _ jB (NT.of_cell d1)
    k_steps
    refine law_next w p loose mean mg mb l ns size ts _ _ hz _ _ _ _ _ _ _ _ _ _ ⟨⟨gd, _, _, _, _, _, outer, A₀, base, rfl, B, rfl, hC⟩, by k_asm, X, by k_asm, T, tab⟩ ⟨vsM, epM, hsub _ jl (.of_cls (by nofun)), hIM⟩ (by omega) (by omega) ?_
    intro v Λ3 h3 tk3 c3 S3 P3
    exact Lv.intro c3.F c3.N c3.tab S3 P3
  · intro t j tj hj
    refine Con.ofLam (d := 19) (u := 97) j2 jc hl2 (binds := [("chars", .str chars t), ("start", .int j tj)]) (fun _ _ _ _ N hs => kdv_binds N (hs _ j0 (.of_cls (by nofun))) rfl rfl rfl) (locs rfl) rfl rfl rfl (by decide) ?_
    intro dp un gd L' outer A₀ base g Λ' s E B F X N T hC tab hsub hd hu
    replace X : (Mine.hd.heap_39 w.params).In g := X
    replace T : Top p loose mean mg mb g := T
    have mP := hsub _ jP (NT.of_cell d2)
    have mB := hsub _ jB (NT.of_cell d1)
    k_steps
    refine law_next w p loose mean mg mb l ns size ts _ _ hz _ _ _ _ _ _ _ _ _ _ ⟨⟨gd, _, _, _, _, _, outer, A₀, base, rfl, B, rfl, hC⟩, by k_asm, X, by k_asm, T, tab⟩ ⟨vsM, epM, hsub _ jl (.of_cls (by nofun)), hIM⟩ (by omega) (by omega) ?_
    intro v Λ3 h3 tk3 c3 S3 P3
    exact Lv.intro c3.F c3.N c3.tab S3 P3
theorem law_program (w p loose mean mg mb) (l : Addr) (ns : List Int) (size : Int) (ts : Tok) (hz : ns.length ≤ 1000) :
    Con (G2 w p loose mean mg mb) 9 40 49 [.ref l, .int size ts] (fun Λ => IsInts Λ l ns) (fun _ v Λ' => ∃ pg, v = .ref pg ∧ ∀ chars, IsProg (G2 w p loose mean mg mb) "number" (fun (g : Int) u => ∃ t, u = .int g t) Λ' pg chars (fun j => nxM ns size j)) :=
  (law_programX w p loose mean mg mb l ns size ts hz).imp fun Λ v Λ' ⟨pg, e, Λp, h1, h2⟩ => ⟨pg, e, fun chars => (h2 chars).mono fun p hp _ => (h1 p hp).1⟩
end Mine
namespace Mine
open PySem PySem.Calls PySem.W PyProof.Rows PySem.Flt PySem.Builtin PySem.Builtin.ObjectAttr
theorem offSR2 : True := by w_top off; trivial
theorem fill3 : PySem.Challenge.rw_ph0008_02.prog = PySem.Challenge.rw_ph0008_02.prog ∧ Mine.hd.heap_39 = Mine.hd.heap_39 := by k_fill; exact ⟨rfl, rfl⟩

local macro_rules | `(tactic| walk_at "getMethod ref") => `(tactic| refine hold_in ?_)
local macro_rules | `(tactic| walk_at "call ref") => `(tactic| refine hold_in ?_)
local macro_rules | `(tactic| walk_at "truthy ref") => `(tactic| refine hold_in ?_)

theorem search_reverse2 (w p loose mean mg mb) {γ : Type} (an : Str) (ok : γ → Value → Prop) (nx : Int → Option (Int × Int × γ)) (NN : Nat) (hg : Goes nx NN) (hN : NN < 2 ^ 20) (pg : Addr) (x : Str) (tx : Tok) (col : Int) (tc : Tok) :
    Con (G2 w p loose mean mg mb) 30 140 28 [.ref pg, .str x tx, .int col tc] (fun Λ => IsProg (G2 w p loose mean mg mb) an ok Λ pg x nx) (fun _ v Λ' => Found (G2 w p loose mean mg mb) an ok Λ' v (revGo nx col (NN + 1) 0 none)) := by
  refine Con.ofDef (d := 29) (u := 137) (oc := _) (od := _) (osl := _) (binds := [("prog", .ref pg), ("chars", .str x tx), ("col", .int col tc)]) (name := _) (qual := _) (params := _) (body := _) (scope := _) (dV := _) (kV := _) (doc := _) (pm := _) (an := _) (cdv := _) (ct := _) rfl (by kernel_rfl) (fun s => BindsTo.of_eq rfl) (locs rfl) rfl rfl rfl (by decide) ?_
  intro dp un gd L outer A₀ base g Λ s E B F X N T hC tab hpre hd hu
  replace X : (Mine.hd.heap_39 w.params).In g := X
  replace T : Top p loose mean mg mb g := T
  have hpre' := hpre
  obtain ⟨D, fd, es, n, sr, fd', p1, p2, p3, p4, p5, p6⟩ := hpre'
  refine execs_take 4 ?_
  dsimp only [List.take, List.drop]
  k_steps
  refine hold_out ?_
  refine getMethod_led N p1 p2 p3 p4 lk_function_search rfl ?_
  dsimp only
  refine callWith_F ⟨_, _, _, _, (N _ p5).1⟩ ?_
  k_steps
  refine hold_out ?_
  refine p6.one _ _ _ _ _ _ _ _ _ _ _ ⟨⟨gd, _, _, _, _, _, outer, A₀, base, rfl, B, rfl, hC⟩, F, X, N, T, tab⟩ .refl (by omega) (by omega) ?_
  intro v1 Λ1 h1 tk1 c1 S1 P1
  have F1 := c1.F
  have N1 := c1.N
  have tab1 := c1.tab
  clear c1 F N
  cases h0 : nx 0 with
  | none =>
    rw [h0] at P1
    cases P1
    k_steps
    refine Lv.intro (by k_asm) (by k_asm) tab1 S1 ?_
    show Found _ _ _ _ _ (revGo nx col (NN + 1) 0 none)
    rw [revGo, h0]
    exact rfl
  | some r =>
    obtain ⟨i, j, gg⟩ := r
    rw [h0] at P1
    obtain ⟨b1, b2, b3⟩ := hg 0 i j gg (Int.le_refl 0) h0
    obtain ⟨a, Da, fda, esa, na, sp, gv, fds, rfl, q1, q2, q3, q4, q5, q6, q7, q8, q9⟩ := id P1
    k_steps
    rename Fr _ _ _ _ => F2; rename News _ _ _ _ => N2
    refine hold_out ?_
    refine fn_truthy (N2 _ q1).1 ?_
    k_steps
    rename Fr _ _ _ _ => F3; rename News _ _ _ _ => N3
    refine hold_out ?_
    refine getMethod_led N3 q1 q2 q3 q4 lk_function_span rfl ?_
    dsimp only
    refine callWith_F0 ⟨_, _, _, _, (N3 _ q8).1⟩ ?_
    dsimp only [List.nil_append]
    refine q9 _ _ _ _ _ _ _ _ _ _ ⟨⟨gd, _, _, _, _, _, outer, A₀, base, rfl, B, rfl, hC⟩, F3, X, N3, T, tab1⟩ .refl (by omega) (by omega) ?_
    rintro v4 Λ4 h4 tk4 c4 S4 ⟨T4, ti, tj, rfl, hT4⟩
    have F4 := c4.F
    have N4 := c4.N
    have tab4 := c4.tab
    clear c4 F3 N3
    have P4 := Found.mono P1 S4.sub
    have pr4 := hpre.mono (S1.trans S4).sub
    clear q1 q2 q3 q4 q5 q6 q7 q8 q9 p1 p2 p3 p4 p5 p6
    k_steps
    refine hold_out ?_
    rename Fr _ _ _ _ => F5; rename News _ _ _ _ => N5
    refine execs_take 1 ?_
    dsimp only [List.take, List.drop]
    refine wpAny_execs_cons ?_
    refine wpAny_While ?_
    refine while_led (fun f s' h => h) F5 N5 tab4 (fun k m Λ' => ∃ vm i j ti tj g vf f, m "m" = some vm ∧ m "i" = some (.int i ti) ∧ m "j" = some (.int j tj) ∧ m "found" = some vf ∧ m "prog" = some (.ref pg) ∧ m "chars" = some (.str x tx) ∧ m "col" = some (.int col tc) ∧
      0 ≤ i ∧ i < j ∧ j ≤ NN ∧ (k : Int) = NN - j ∧ IsProg (G2 w p loose mean mg mb) an ok Λ' pg x nx ∧ Found (G2 w p loose mean mg mb) an ok Λ' vm (some (i, j, g)) ∧ Found (G2 w p loose mean mg mb) an ok Λ' vf f ∧
      revGo nx col (NN + 1) 0 none = if i < col ∧ j ≤ col then revGo nx col (NN + 1) j (some (i, j, g)) else f) ((NN : Int) - j).toNat ?_ ?_
    · refine ⟨_, i, j, ti, tj, gg, .none, none, rfl, rfl, rfl, rfl, rfl, rfl, rfl, b1, b2, b3, by omega, pr4, P4, rfl, ?_⟩
      conv => lhs; rw [revGo, h0]
      dsimp only
      split
      · exact revGo_fuel hg col _ _ _ _ (by omega) (by omega) (by omega)
      · rfl
    · rintro k m₁ Λ₁ s₁ E' ⟨h1, tk1, rfl⟩ ⟨vm, i, j, ti, tj, g, vf, f, e1, e2, e3, e4, e5, e6, e7, c1, c2, c3, c4, c5, c6, c7, c8⟩ hT hS F6 N6
      replace F6 := fr_says [("m", vm), ("i", .int i ti), ("j", .int j tj), ("found", vf), ("prog", .ref pg), ("chars", .str x tx), ("col", .int col tc)] F6 (by simp [e1, e2, e3, e4, e5, e6, e7])
      obtain ⟨D, fd, es, n, sr, fd', p1, p2, p3, p4, p5, p6⟩ := id c5
      k_steps
      · exfalso; omega
      · rename_i g1 g2 g3
        refine hold_out ?_
        rename Fr _ _ _ _ => F7; rename News _ _ _ _ => N7
        refine getMethod_led N7 p1 p2 p3 p4 lk_function_search rfl ?_
        dsimp only
        refine callWith_F ⟨_, _, _, _, (N7 _ p5).1⟩ ?_
        k_steps
        refine hold_out ?_
        refine p6.two _ _ _ (by omega) _ _ _ _ _ _ _ _ _ _ ⟨⟨gd, _, _, _, _, _, outer, A₀, base, rfl, B, rfl, hC⟩, F7, X, N7, T, hT⟩ .refl (by omega) (by omega) ?_
        intro v1 Λ8 h8 tk8 c8' S8 P8
        have F8 := c8'.F
        have N8 := c8'.N
        have tab8 := c8'.tab
        clear c8' F7 N7
        have hv8 := Found.mono c6 S8.sub
        rw [if_pos (by omega)] at c8
        cases h0' : nx j with
        | none =>
          rw [h0'] at P8
          cases P8
          k_steps
          show wpAny _ _ (execs [] _) _ _ _
          k_steps
          show Hold _
          refine hold_out ?_
          k_steps
          refine Lv.intro (by k_asm) (by k_asm) tab8 (((S1.trans S4).trans hS).trans S8) ?_
          rw [c8, revGo, h0']
          exact hv8
        | some r =>
          obtain ⟨i2, j2, g2'⟩ := r
          rw [h0'] at P8
          obtain ⟨d1, d2, d3⟩ := hg j i2 j2 g2' (by omega) h0'
          obtain ⟨a, Da, fda, esa, na, sp, gv, fds, rfl, q1, q2, q3, q4, q5, q6, q7, q8, q9⟩ := id P8
          k_steps
          refine hold_out ?_
          rename Fr _ _ _ _ => F9; rename News _ _ _ _ => N9
          refine fn_truthy (N9 _ q1).1 ?_
          k_steps
          refine hold_out ?_
          rename Fr _ _ _ _ => Fa; rename News _ _ _ _ => Na
          refine getMethod_led Na q1 q2 q3 q4 lk_function_span rfl ?_
          dsimp only
          refine callWith_F0 ⟨_, _, _, _, (Na _ q8).1⟩ ?_
          dsimp only [List.nil_append]
          refine q9 _ _ _ _ _ _ _ _ _ _ ⟨⟨gd, _, _, _, _, _, outer, A₀, base, rfl, B, rfl, hC⟩, Fa, X, Na, T, tab8⟩ .refl (by omega) (by omega) ?_
          rintro v4 Λb hb tkb cb Sb ⟨T4, ti4, tj4, rfl, hT4⟩
          have Fb := cb.F
          have Nb := cb.N
          have tabb := cb.tab
          clear cb Fa Na
          k_steps
          refine WEnd.next (n' := ((NN : Int) - j2).toNat) (by omega) (by k_asm) (by k_asm) tabb ((hS.trans S8).trans Sb) ⟨_, i2, j2, ti4, tj4, g2', vm, _, rfl, rfl, rfl, rfl, rfl, rfl, rfl, by omega, d2, d3, by omega, c5.mono (S8.trans Sb).sub, Found.mono P8 Sb.sub, Found.mono hv8 Sb.sub, ?_⟩
          rw [c8, revGo, h0']
          dsimp only
          split
          · exact revGo_fuel hg col _ _ _ _ (by omega) (by omega) (by omega)
          · rfl
      · rename (¬ _ ≤ _) => hn
        rw [if_neg (by omega)] at c8
        show Hold _
        refine hold_out ?_
        k_steps
        refine Lv.intro (by k_asm) (by k_asm) hT ((S1.trans S4).trans hS) ?_
        rw [c8]
        exact c7
      · rename (¬ _ < _) => hn
        rw [if_neg (by omega)] at c8
        show Hold _
        refine hold_out ?_
        k_steps
        refine Lv.intro (by k_asm) (by k_asm) hT ((S1.trans S4).trans hS) ?_
        rw [c8]
        exact c7
end Mine
namespace Mine
open PySem PySem.Calls PySem.W PyProof.Rows PySem.Flt PySem.Builtin PySem.Builtin.ObjectAttr
theorem offR2 : True := by w_top off; trivial
theorem fill4 : PySem.Challenge.rw_ph0008_02.prog = PySem.Challenge.rw_ph0008_02.prog ∧ Mine.hd.heap_39 = Mine.hd.heap_39 := by k_fill; exact ⟨rfl, rfl⟩
theorem fold_len (k : Nat) : ∀ (l : List Str) (a : Nat), l.foldl (fun n y => n + y.length + k) a = a + (l.map (·.length)).sum + l.length * k
  | [], a => by simp
  | y :: r, a => by
    rw [List.foldl_cons, fold_len k r]
    simp only [List.map_cons, List.sum_cons, List.length_cons, Nat.add_mul, Nat.one_mul]
    omega
theorem joinOk_of {sep : Str} {l : List Str} (h : (l.map (·.length)).sum + l.length * sep.length ≤ 16777216) : JoinOk sep l = true := by
  unfold JoinOk Builtin.Str.tooLong
  rw [List.foldl_toArray, fold_len]
  simp only [Bool.not_eq_true', decide_eq_false_iff_not, sizeLine_eq]
  omega
def repl1 (x : Str) (q : Str × Str) : Str := Txt.join q.2 (Txt.split x q.1)
inductive FlatOf : List Value → List (Str × Str) → Prop
  | nil : FlatOf [] []
  | cons {a b : Str} {t u : Tok} {vs : List Value} {qs : List (Str × Str)} : FlatOf vs qs → FlatOf (.str a t :: .str b u :: vs) ((a, b) :: qs)
/-- the texts on the way stay small -/
def RepOk : Str → List (Str × Str) → Prop
  | _, [] => True
  | x, q :: qs => x.length ≤ 1000 ∧ 0 < q.1.length ∧ q.1.length ≤ 100 ∧ q.2.length ≤ 100 ∧ RepOk (repl1 x q) qs
theorem FlatOf.len {vs : List Value} {qs : List (Str × Str)} (h : FlatOf vs qs) : vs.length = 2 * qs.length := by
  induction h with
  | nil => rfl
  | cons _ ih => simp only [List.length_cons, ih]; omega
local macro_rules | `(tactic| walk_at "subscriptTail Name Slice ref ref") => `(tactic| refine hold_in ?_)
local macro_rules | `(tactic| walk_at "truthy ref") => `(tactic| refine hold_in ?_)
theorem law_replace (w p loose mean mg mb) (x : Str) (tx : Tok) :
    (∀ y z ty tz, RepOk x [(y, z)] → Con (G2 w p loose mean mg mb) 9 40 21 (.str x tx :: [.str y ty, .str z tz]) (fun _ => True) (fun _ v _ => ∃ t, v = .str ([(y, z)].foldl repl1 x) t)) ∧
    (∀ y z y₁ z₁ y₂ z₂ ty tz ty₁ tz₁ ty₂ tz₂, RepOk x [(y, z), (y₁, z₁), (y₂, z₂)] → Con (G2 w p loose mean mg mb) 9 40 21 (.str x tx :: [.str y ty, .str z tz, .str y₁ ty₁, .str z₁ tz₁, .str y₂ ty₂, .str z₂ tz₂]) (fun _ => True) (fun _ v _ => ∃ t, v = .str ([(y, z), (y₁, z₁), (y₂, z₂)].foldl repl1 x) t)) := by
  refine ⟨fun y z ty tz hok => ?_, fun y z y₁ z₁ y₂ z₂ ty tz ty₁ tz₁ ty₂ tz₂ hok => ?_⟩
  · refine Con.ofRest (d := 8) (u := 37) (oc := _) (od := _) (osl := _) (rest := [.str y ty, .str z tz]) (binds := fun D => [("text", .str x tx), ("pairs", .ref D)]) (g₁ := _) (name := _) (qual := _) (params := _) (body := _) (scope := _) (dV := _) (kV := _) (doc := _) (pm := _) (an := _) (cdv := _) (ct := _) rfl (by kernel_rfl) rfl rfl (fun _ => rfl) (fun _ => locs rfl) rfl rfl rfl (by decide) (fun _ _ _ _ => trivial) ?_
    have hsz : [(y, z)].length ≤ 100 := by simp
    have hfl : FlatOf [.str y ty, .str z tz] [(y, z)] := .cons .nil
    generalize [Value.str y ty, .str z tz] = vs at *
    generalize [(y, z)] = qs at *
    intro D dp un gd L outer A₀ base g Λ s E B F X N T hC tab hpre hd hu
    replace X : (Mine.hd.heap_39 w.params).In g := X
    replace T : Top p loose mean mg mb g := T
    obtain ⟨_, hD⟩ := hpre
    refine execs_take 1 ?_
    dsimp only [List.take, List.drop]
    refine wpAny_execs_cons ?_
    refine wpAny_While ?_
    refine while_led (fun f s' h => h) F N tab (fun k m Λ' => ∃ T vs₁ qs₁ cur tc, m "pairs" = some (.ref T) ∧ m "text" = some (.str cur tc) ∧ (T, tupObj vs₁) ∈ Λ' ∧ FlatOf vs₁ qs₁ ∧ k = qs₁.length ∧ k ≤ 100 ∧ RepOk cur qs₁ ∧ qs₁.foldl repl1 cur = qs.foldl repl1 x) qs.length ⟨_, _, _, _, _, rfl, rfl, hD, hfl, rfl, hsz, hok, rfl⟩ ?_
    · rintro k m₁ Λ₁ s₁ E' ⟨h1, tk1, rfl⟩ ⟨T', vs₁, qs₁, cur, tc, e1, e2, e3, e4, e5, e6, e7, e8⟩ hT hS F6 N6
      replace F6 := fr_says [("pairs", .ref T'), ("text", .str cur tc)] F6 (by simp [e1, e2])
      have hz : vs₁.length ≤ 1000 := by rw [e4.len]; omega
      cases e4 with
      | nil =>
        k_steps
        refine hold_out ?_
        refine ktl_truthyK N6 e3 hz ?_
        dsimp only [List.isEmpty_nil, Bool.not_true]
        k_steps
        refine hold_out ?_
        k_steps
        refine ⟨_, _, _, _, rfl, F6, N6, hT, hS, tc, ?_⟩
        rw [← e8]
        rfl
      | cons e4 =>
        rename_i a b t u vs' qs'
        obtain ⟨l0, l1, l2, l3, l4⟩ := e7
        dsimp only at l1 l2 l3
        k_steps
        refine hold_out ?_
        refine ktl_truthyK N6 e3 hz ?_
        dsimp only [List.isEmpty_cons, Bool.not_false]
        k_steps
        refine kim_tup N6 e3 rfl rfl (by decide) (by decide) (j := 1) (x := .str b u) (by unfold seqIndex?; simp; omega) rfl ?_
        k_steps
        refine kim_tup N6 e3 rfl rfl (by decide) (by decide) (j := 0) (x := .str a t) (by unfold seqIndex?; simp; omega) rfl ?_
        k_steps
        refine KSpl.split1 F6 N6 (by simp; omega) ?_ (by rw [sizeLine_eq]; omega)
        intro D1 ls h7 tk7 hl1 hl2 F7 N7 hlt7
        k_steps
        have hw := split_weight cur a (by omega)
        refine SC.join ⟨_, (N7 _ (.head _)).1, rfl, 0, rfl⟩ hl1 (joinOk_of ?_) fun t8 k8 => ?_
        · have : (Txt.split cur a).length * b.length ≤ (Txt.split cur a).length * 100 := Nat.mul_le_mul_left _ l3
          omega
        k_steps
        rename Fr _ _ _ _ => F8
        rename News _ _ _ _ => N8
        refine hold_out ?_
        have lt8 := news_lt N8
        refine slice_tuple_from (a := 2) F8 N8 (News.isTup N8 (.tail _ e3)) (by decide) (by simp) ?_ (hsz := by rw [sizeLine_eq]; simpa using by simp only [List.length_cons] at hz; omega)
        intro h9 F9 N9
        dsimp only [List.toList_toArray, List.drop] at N9
        k_steps
        rename Fr _ _ _ _ => Fa
        rename News _ _ _ _ => Na
        refine WEnd.next (n' := qs'.length) (by rw [e5]; simp) Fa Na (hT.sub fun _ h => .tail _ (.tail _ h)) (hS.trans ((Step.cons hlt7).trans (Step.cons fun q hq => Nat.lt_succ_of_lt (lt8 q hq)))) ?_
        refine ⟨_, _, _, _, _, rfl, rfl, .head _, e4, rfl, ?_, l4, e8⟩
        rw [e5] at e6; simp only [List.length_cons] at e6; omega

  · refine Con.ofRest (d := 8) (u := 37) (oc := _) (od := _) (osl := _) (rest := [.str y ty, .str z tz, .str y₁ ty₁, .str z₁ tz₁, .str y₂ ty₂, .str z₂ tz₂]) (binds := fun D => [("text", .str x tx), ("pairs", .ref D)]) (g₁ := _) (name := _) (qual := _) (params := _) (body := _) (scope := _) (dV := _) (kV := _) (doc := _) (pm := _) (an := _) (cdv := _) (ct := _) rfl (by kernel_rfl) rfl rfl (fun _ => rfl) (fun _ => locs rfl) rfl rfl rfl (by decide) (fun _ _ _ _ => trivial) ?_
    have hsz : [(y, z), (y₁, z₁), (y₂, z₂)].length ≤ 100 := by simp
    have hfl : FlatOf [.str y ty, .str z tz, .str y₁ ty₁, .str z₁ tz₁, .str y₂ ty₂, .str z₂ tz₂] [(y, z), (y₁, z₁), (y₂, z₂)] := .cons (.cons (.cons .nil))
    generalize [Value.str y ty, .str z tz, .str y₁ ty₁, .str z₁ tz₁, .str y₂ ty₂, .str z₂ tz₂] = vs at *
    generalize [(y, z), (y₁, z₁), (y₂, z₂)] = qs at *
    intro D dp un gd L outer A₀ base g Λ s E B F X N T hC tab hpre hd hu
    replace X : (Mine.hd.heap_39 w.params).In g := X
    replace T : Top p loose mean mg mb g := T
    obtain ⟨_, hD⟩ := hpre
    refine execs_take 1 ?_
    dsimp only [List.take, List.drop]
    refine wpAny_execs_cons ?_
    refine wpAny_While ?_
    refine while_led (fun f s' h => h) F N tab (fun k m Λ' => ∃ T vs₁ qs₁ cur tc, m "pairs" = some (.ref T) ∧ m "text" = some (.str cur tc) ∧ (T, tupObj vs₁) ∈ Λ' ∧ FlatOf vs₁ qs₁ ∧ k = qs₁.length ∧ k ≤ 100 ∧ RepOk cur qs₁ ∧ qs₁.foldl repl1 cur = qs.foldl repl1 x) qs.length ⟨_, _, _, _, _, rfl, rfl, hD, hfl, rfl, hsz, hok, rfl⟩ ?_
    · rintro k m₁ Λ₁ s₁ E' ⟨h1, tk1, rfl⟩ ⟨T', vs₁, qs₁, cur, tc, e1, e2, e3, e4, e5, e6, e7, e8⟩ hT hS F6 N6
      replace F6 := fr_says [("pairs", .ref T'), ("text", .str cur tc)] F6 (by simp [e1, e2])
      have hz : vs₁.length ≤ 1000 := by rw [e4.len]; omega
      cases e4 with
      | nil =>
        k_steps
        refine hold_out ?_
        refine ktl_truthyK N6 e3 hz ?_
        dsimp only [List.isEmpty_nil, Bool.not_true]
        k_steps
        refine hold_out ?_
        k_steps
        refine ⟨_, _, _, _, rfl, F6, N6, hT, hS, tc, ?_⟩
        rw [← e8]
        rfl
      | cons e4 =>
        rename_i a b t u vs' qs'
        obtain ⟨l0, l1, l2, l3, l4⟩ := e7
        dsimp only at l1 l2 l3
        k_steps
        refine hold_out ?_
        refine ktl_truthyK N6 e3 hz ?_
        dsimp only [List.isEmpty_cons, Bool.not_false]
        k_steps
        refine kim_tup N6 e3 rfl rfl (by decide) (by decide) (j := 1) (x := .str b u) (by unfold seqIndex?; simp; omega) rfl ?_
        k_steps
        refine kim_tup N6 e3 rfl rfl (by decide) (by decide) (j := 0) (x := .str a t) (by unfold seqIndex?; simp; omega) rfl ?_
        k_steps
        refine KSpl.split1 F6 N6 (by simp; omega) ?_ (by rw [sizeLine_eq]; omega)
        intro D1 ls h7 tk7 hl1 hl2 F7 N7 hlt7
        k_steps
        have hw := split_weight cur a (by omega)
        refine SC.join ⟨_, (N7 _ (.head _)).1, rfl, 0, rfl⟩ hl1 (joinOk_of ?_) fun t8 k8 => ?_
        · have : (Txt.split cur a).length * b.length ≤ (Txt.split cur a).length * 100 := Nat.mul_le_mul_left _ l3
          omega
        k_steps
        rename Fr _ _ _ _ => F8
        rename News _ _ _ _ => N8
        refine hold_out ?_
        have lt8 := news_lt N8
        refine slice_tuple_from (a := 2) F8 N8 (News.isTup N8 (.tail _ e3)) (by decide) (by simp) ?_ (hsz := by rw [sizeLine_eq]; simpa using by simp only [List.length_cons] at hz; omega)
        intro h9 F9 N9
        dsimp only [List.toList_toArray, List.drop] at N9
        k_steps
        rename Fr _ _ _ _ => Fa
        rename News _ _ _ _ => Na
        refine WEnd.next (n' := qs'.length) (by rw [e5]; simp) Fa Na (hT.sub fun _ h => .tail _ (.tail _ h)) (hS.trans ((Step.cons hlt7).trans (Step.cons fun q hq => Nat.lt_succ_of_lt (lt8 q hq)))) ?_
        refine ⟨_, _, _, _, _, rfl, rfl, .head _, e4, rfl, ?_, l4, e8⟩
        rw [e5] at e6; simp only [List.length_cons] at e6; omega

end Mine
namespace Mine
open PySem PySem.Calls PySem.W PyProof.Rows PySem.Flt PySem.Builtin PySem.Builtin.ObjectAttr
theorem offPC2 : True := by w_top off; trivial
theorem fill9 : PySem.Challenge.rw_ph0008_02.prog = PySem.Challenge.rw_ph0008_02.prog ∧ Mine.hd.heap_39 = Mine.hd.heap_39 := by k_fill; exact ⟨rfl, rfl⟩
local macro_rules | `(tactic| walk_at "getMethod ref") => `(tactic| refine hold_in ?_)
local macro_rules | `(tactic| walk_at "getAttr ref") => `(tactic| refine hold_in ?_)
local macro_rules | `(tactic| walk_at "call ref") => `(tactic| refine hold_in ?_)
local macro_rules | `(tactic| walk_at "truthy ref") => `(tactic| refine hold_in ?_)
theorem stepN {h₀ h : Heap} {L : Addr} {Λ : Ldg} {x : Addr × Obj} (_ : News h₀ L h (x :: Λ)) (l : ∀ q ∈ Λ, q.1 < x.1) : Step Λ (x :: Λ) := Step.cons l
theorem law_pieces (w p loose mean mg mb) (x z : Str) (tx tz : Tok) (l : Addr) (ns : List Int) (size : Int) (ts : Tok) (hns : ns.length ≤ 1000) (hgo : Goes (fun j => nxM ns size j) x.length) (hx : x.length ≤ 10) (hz : z.length ≤ 10) :
    Con (G2 w p loose mean mg mb) 40 180 73 [.str x tx, .ref l, .int size ts, .str z tz] (fun Λ => IsInts Λ l ns) (fun _ v _ => ∃ t, v = .str (pcGo x z (fun j => nxM ns size j) (x.length + 1) (Str.ofString "") x.length x.length) t) := by
  refine Con.ofDef (d := 39) (u := 177) (oc := _) (od := _) (osl := _) (binds := [("line", .str x tx), ("marks", .ref l), ("size", .int size ts), ("given", .str z tz)]) (name := _) (qual := _) (params := _) (body := _) (scope := _) (dV := _) (kV := _) (doc := _) (pm := _) (an := _) (cdv := _) (ct := _) rfl (by kernel_rfl) (fun s => BindsTo.of_eq rfl) (locs rfl) rfl rfl rfl (by decide) ?_
  intro dp un gd L outer A₀ base g Λ s E B F X N T hC tab hpre hd hu
  replace X : (Mine.hd.heap_39 w.params).In g := X
  replace T : Top p loose mean mg mb g := T
  refine execs_take 2 ?_
  dsimp only [List.take, List.drop]
  k_steps
  refine hold_out ?_
  refine law_program w p loose mean mg mb l ns size ts hns _ _ _ _ _ _ _ _ _ _ ⟨⟨gd, _, _, _, _, _, outer, A₀, base, rfl, B, rfl, hC⟩, by k_asm, X, by k_asm, T, tab⟩ hpre (by omega) (by omega) ?_
  rintro v1 Λ1 h1 tk1 c1 S1 ⟨pg, rfl, hpg⟩
  have F1 := c1.F
  have N1 := c1.N
  have tab1 := c1.tab
  clear c1
  k_steps
  show Hold _
  refine hold_out ?_
  rename Fr _ _ _ _ => F2; rename News _ _ _ _ => N2
  have S2 := S1.trans (stepN N2 (by assumption))
  have hpg2 := (hpg x).mono (stepN N2 (by assumption)).sub
  refine execs_take 1 ?_
  dsimp only [List.take, List.drop]
  refine wpAny_execs_cons ?_
  refine wpAny_For ?_
  k_steps
  rename Fr _ _ _ _ => F3; rename News _ _ _ _ => N3
  rename IsRange _ _ _ _ _ _ _ _ => hr
  rw [show ((x.length : Int) + 1) = ((x.length + 1 : Nat) : Int) by omega] at hr
  generalize hnx : (fun j => nxM ns size j) = nx at *
  refine iter_range (fun f s' h => h) rfl F3 N3 (tab1.sub fun _ h => .tail _ h) hr (by omega) (fun _ _ => go_name) (fun i m Λ' => ∃ d td l tl c tc, m "line" = some (.str x tx) ∧ m "given" = some (.str z tz) ∧ m "program" = some (.ref pg) ∧ m "done" = some (.str d td) ∧ m "left" = some (.int l tl) ∧ m "col" = some (.int c tc) ∧ d.length ≤ 20 * i ∧ pcGo x z nx (x.length + 1 - i) d l c = pcGo x z nx (x.length + 1) (Str.ofString "") x.length x.length) (fun _ _ _ _ _ h => h) ⟨_, _, _, _, _, _, rfl, rfl, rfl, rfl, rfl, rfl, by decide, rfl⟩ ?_ ?_
  · rintro i v m₁ Λ₁ s₁ E' ⟨h1, tk1, rfl⟩ hi ⟨tv, rfl⟩ ⟨d, td, l, tl, c, tc, e1, e2, e3, e4, e5, e6, e7, e8⟩ hT hsub F2 N2
    replace F2 := fr_says [("line", .str x tx), ("given", .str z tz), ("program", .ref pg), ("done", .str d td), ("left", .int l tl), ("col", .int c tc)] F2 (by simp [e1, e2, e3, e4, e5, e6])
    obtain ⟨k, hk⟩ : ∃ k, x.length + 1 - i = k + 1 := ⟨x.length - i, by omega⟩
    have hk' : x.length + 1 - (i + 1) = k := by omega
    rw [hk, pcGo] at e8
    have hpg' := hpg2.mono hsub.sub
    k_steps
    rename Fr _ _ _ _ => F3; rename News _ _ _ _ => N3
    refine hold_out ?_
    refine search_reverse2 w p loose mean mg mb "number" _ _ x.length hgo (by omega) pg x _ _ _ _ _ _ _ _ _ _ _ _ _ ⟨⟨gd, _, _, _, _, _, outer, A₀, base, rfl, B, rfl, hC⟩, F3, X, N3, T, hT⟩ hpg' (by omega) (by omega) ?_
    rintro v4 Λ4 h4 tk4 c4 S4 P4
    have F4 := c4.F
    have N4 := c4.N
    have tab4 := c4.tab
    clear c4 F3 N3
    cases hr4 : revGo nx c (x.length + 1) 0 none with
    | none =>
      rw [hr4] at P4 e8
      cases P4
      k_steps
      refine wpAny_execs_nil ?_
      show Hold _
      refine hold_out ?_
      k_steps
      refine Lv.intro (by k_asm) (by k_asm) tab4 (S2.trans (hsub.trans S4)) ?_
      rw [← e8]
      exact ⟨_, rfl⟩
    | some r =>
      obtain ⟨i2, j2, g2⟩ := r
      rw [hr4] at P4 e8
      dsimp only at e8
      obtain ⟨a, Da, fda, esa, na, sp, gv, fds, rfl, q1, q2, q3, q4, q5, q6, q7, q8, q9⟩ := id P4
      k_steps
      refine hold_out ?_
      rename Fr _ _ _ _ => F9; rename News _ _ _ _ => N9
      refine fn_truthy (N9 _ q1).1 ?_
      k_steps
      refine hold_out ?_
      rename Fr _ _ _ _ => Fa; rename News _ _ _ _ => Na
      refine getMethod_led Na q1 q2 q3 q4 lk_function_span rfl ?_
      dsimp only
      refine callWith_F0 ⟨_, _, _, _, (Na _ q8).1⟩ ?_
      dsimp only [List.nil_append]
      refine q9 _ _ _ _ _ _ _ _ _ _ ⟨⟨gd, _, _, _, _, _, outer, A₀, base, rfl, B, rfl, hC⟩, Fa, X, Na, T, tab4⟩ .refl (by omega) (by omega) ?_
      rintro v5 Λb hb tkb cb Sb ⟨T4, ti4, tj4, rfl, hT4⟩
      have Fb := cb.F
      have Nb := cb.N
      have tabb := cb.tab
      clear cb Fa Na
      k_steps
      refine TurnEnd.next (by k_asm) (by k_asm) (tabb.sub fun _ h => List.mem_cons_of_mem _ h) ((S4.trans Sb).trans (Step.cons (by assumption))) ?_
      refine ⟨_, _, _, _, _, _, rfl, rfl, rfl, rfl, rfl, rfl, ?_, ?_⟩
      · omega
      · rw [hk']; exact e8
  · intro m' Λ' h' tk F2 N2 T2 S3 ⟨d, td, l, tl, c, tc, e1, e2, e3, e4, e5, e6, e7, e8⟩
    replace F2 := fr_says [("line", .str x tx), ("done", .str d td), ("left", .int l tl)] F2 (by simp [e1, e4, e5])
    rw [Nat.sub_self, pcGo] at e8
    refine wpAny_execs_nil ?_
    show Hold _
    refine hold_out ?_
    k_steps
    refine Lv.intro (by k_asm) (by k_asm) T2 (S2.trans S3) ?_
    rw [← e8]
    exact ⟨_, rfl⟩
end Mine
namespace Mine
open PySem PySem.Calls PySem.W PyProof.Rows PySem.Flt PySem.Builtin PySem.Builtin.ObjectAttr
theorem offLL2 : True := by w_top off; trivial
theorem fillLL : PySem.Challenge.rw_ph0008_02.prog = PySem.Challenge.rw_ph0008_02.prog ∧ Mine.hd.heap_39 = Mine.hd.heap_39 := by k_fill; exact ⟨rfl, rfl⟩
local macro_rules | `(tactic| walk_at "call builtin:sorted") => `(tactic| refine hold_in ?_)
local macro_rules | `(tactic| walk_at "eval ListComp") => `(tactic| refine hold_in ?_)
local macro_rules | `(tactic| walk_at "CompSrc") => `(tactic| refine hold_in ?_)
local macro_rules | `(tactic| walk_at "eval Lambda") => `(tactic| refine hold_in ?_)
/-- the ends in the order of what follows them -/
def IsSA (x : Str) (sa : List Nat) : Prop := sa.Perm (List.range (x.length + 1)) ∧ sa.Pairwise (fun (p q : Nat) => ¬ (Txt.slice x (some (q : Int)) none).cps.toList < (Txt.slice x (some (p : Int)) none).cps.toList)
def lastOfSA (x : Str) (sa : List Nat) : Str := Txt.join (Str.ofString "") ((sa.map Int.ofNat).map fun p => Txt.item (Str.ofString "$" ++ x) p)
theorem ints_made : ∀ {out : List Value}, (∀ v ∈ out, ∃ (i : Nat) (t : Tok), v = .int i t) → IntsAre out ((out.map fun v => (numOf v).toNat).map Int.ofNat)
  | [], _ => .nil
  | v :: r, h => by
    obtain ⟨i, t, rfl⟩ := h v (.head _)
    exact .cons _ _ (ints_made fun v hv => h v (.tail _ hv))
theorem out_sa {n : Nat} {g : Nat → Str} {vs out : List Value} (hv : IntsAre vs ((List.range n).map Int.ofNat)) (ho : OutS ((List.range n).map g) vs out) :
    ∃ sa : List Nat, sa.Perm (List.range n) ∧ IntsAre out (sa.map Int.ofNat) ∧ sa.Pairwise (fun p q => ¬ (g q).cps.toList < (g p).cps.toList) := by
  obtain ⟨ps, hp, ho, hs⟩ := ho
  have hvl : vs.length = n := by have := hv.length; simpa using this
  have hn : vs.map (fun v => (numOf v).toNat) = List.range n := by
    have := congrArg (List.map Int.toNat) hv.nums
    rw [List.map_map, List.map_map] at this
    rw [show (fun v => (numOf v).toNat) = Int.toNat ∘ numOf from rfl, this]
    exact List.map_id _
  have hz : ∀ p ∈ ((List.range n).map g).zip vs, ∃ (i : Nat) (t : Tok), p = (g i, .int i t) := by
    intro p hp
    obtain ⟨k, hk⟩ := List.mem_iff_getElem?.mp hp
    rw [List.getElem?_zip_eq_some] at hk
    obtain ⟨h1, h2⟩ := hk
    have hkn : k < n := by rw [← hvl]; exact (List.getElem?_eq_some_iff.mp h2).1
    rw [List.getElem?_map, List.getElem?_range hkn] at h1
    have h3 := ints_at hv k
    rcases h3 with ⟨e, _⟩ | ⟨m, t, e, e'⟩
    · rw [e] at h2; cases h2
    · rw [List.getElem?_map, List.getElem?_range hkn] at e'
      refine ⟨k, t, Prod.ext (Option.some.inj h1).symm ?_⟩
      rw [e] at h2
      rw [← Option.some.inj h2, ← Option.some.inj e']
      rfl
  have hz' : ∀ p ∈ ps, ∃ (i : Nat) (t : Tok), p = (g i, .int i t) := fun p h => hz p (hp.mem_iff.mp h)
  refine ⟨ps.map fun p => (numOf p.2).toNat, ?_, ?_, ?_⟩
  · have h1 := hp.map (fun p => (numOf p.2).toNat)
    have h2 : (((List.range n).map g).zip vs).map (fun p => (numOf p.2).toNat) = List.range n := by
      rw [show (fun p : Str × Value => (numOf p.2).toNat) = (fun v => (numOf v).toNat) ∘ Prod.snd from rfl, ← List.map_map, List.map_snd_zip (by rw [List.length_map, List.length_range, hvl]; exact Nat.le_refl _), hn]
    rw [h2] at h1
    exact h1
  · have := ints_made (out := out) (fun v hv => by
      rw [ho] at hv
      obtain ⟨p, hp, rfl⟩ := List.mem_map.mp hv
      obtain ⟨i, t, rfl⟩ := hz' p hp
      exact ⟨i, t, rfl⟩)
    rw [ho, List.map_map, List.map_map] at this
    rw [ho, List.map_map]
    exact this
  · rw [List.pairwise_map]
    refine List.Pairwise.imp_of_mem (fun ha hb h => ?_) hs
    obtain ⟨i, t, rfl⟩ := hz' _ ha
    obtain ⟨j, u, rfl⟩ := hz' _ hb
    exact h
theorem news_dup {h₀ h : Heap} {L : Addr} {y : Addr × Obj} {Λ : Ldg} (N : News h₀ L h Λ) (hm : y ∈ Λ) : News h₀ L h (y :: Λ) := fun p hp => by
  rcases List.mem_cons.mp hp with rfl | hp
  · exact N _ hm
  · exact N p hp
theorem hd_mem {h₀ h : Heap} {L : Addr} {y : Addr × Obj} {Λ : Ldg} (_ : News h₀ L h (y :: Λ)) : y ∈ y :: Λ := .head _
/-- the range object into the ledger -/
theorem range_led {h₀ h₁ h : Heap} {L : Addr} {m : Str → Option Value} {Λ : Ldg} {a b c : Int} {t u v : Tok} (F : Fr h₀ L h₁ m) (N1 : News h₀ L h₁ Λ) (N : News h₀ L h Λ) (hr : IsRange h h₁.objs.size a b c t u v) :
    ∃ o, News h₀ L h ((h₁.objs.size, o) :: Λ) ∧ o.cls ≠ .none ∧ (∀ q ∈ Λ, q.1 < h₁.objs.size) ∧ ∀ h', h'.get? h₁.objs.size = some o → IsRange h' h₁.objs.size a b c t u v := by
  have hL : L < h₁.objs.size := F.ns.lt
  refine ⟨_, fun p hp => ?_, ?_, fun q hq => Heap.lt_size (N1 q hq).1, fun h' e => e⟩
  · rcases List.mem_cons.mp hp with rfl | hp
    · exact ⟨hr, Nat.ne_of_gt hL, Heap.get?_none_of_le (Nat.le_trans F.above (Nat.le_of_lt hL))⟩
    · exact N p hp
  · nofun
theorem law_last_letters (w p loose mean mg mb) (x : Str) (tx : Tok) (hx : x.length ≤ 10) :
    Con (G2 w p loose mean mg mb) 20 80 54 [.str x tx] (fun _ => True) (fun _ v _ => ∃ sa t, IsSA x sa ∧ v = .str (lastOfSA x sa) t) := by
  refine Con.ofDefC (d := 19) (u := 77) (oc := _) (od := _) (osl := _) (binds := [("line", .str x tx)]) (name := _) (qual := _) (params := _) (body := _) (scope := _) (dV := _) (kV := _) (doc := _) (pm := _) (an := _) (cdv := _) (ct := _) rfl (by kernel_rfl) (fun s => BindsTo.of_eq rfl) rfl (by decide +kernel) rfl rfl rfl ?_
  intro dp un gd L outer A₀ base g Λ cells s E B F X N Y hlt T hC tab hpre hd hu
  obtain ⟨o1, rfl, d1⟩ := CellsAre.one Y
  clear Y
  replace d1 : o1.data = .cell (some (.str x tx)) := d1
  replace X : (Mine.hd.heap_39 w.params).In g := X
  replace T : Top p loose mean mg mb g := T
  have hCo : CodeHd g 53 51 := (hC (53, 51) (.tail _ (.tail _ (.head _)))).keeps B.stays
  have hnd := sp_nd w p loose mean mg mb
  have tab0 : TabOk (G2 w p loose mean mg mb).sp ([(L + 1, o1)] ++ Λ) := tab.sub fun _ h => List.mem_append_right _ h
  have FS := hold_out F
  have NS := hold_out N
  refine execs_take 1 ?_
  dsimp only [List.take, List.drop]
  k_steps
  rename Fr _ _ _ _ => F0; rename News _ _ _ _ => N0; rename IsRange _ _ _ _ _ _ _ _ => hr0
  refine hold_out ?_
  have hr1 : IsRange _ s.heap.objs.size 0 ((x.length + 1 : Nat) : Int) 1 _ _ _ := hr0
  obtain ⟨ro, N1, hro, hrlt, hrb⟩ := range_led (hold_in FS) (hold_in NS) N0 hr1
  clear FS NS
  refine kla_eval rfl ?_
  refine lam_make ?_
  refine lam_led F0 N1 T hCo rfl (tab0.sub fun _ h => .tail _ h) hnd (.tail _ (.tail _ (.head _))) rfl ?_
  intro f c1 oc1 doc1 ctv1 h1 tk1 Λ1 F1 N2 T1 S1 hc1 hl1 hf1
  have hrm := S1.keep _ (.head _) (.of_cls hro)
  have hcm := S1.keep (L + 1, o1) (.tail _ (.head _)) (NT.of_cell d1)
  k_steps
  rename Fr _ _ _ _ => F3; rename News _ _ _ _ => N3
  refine hold_out ?_
  have hr3 := hrb _ (N3 _ (.tail _ hrm)).1
  show wpAny _ _ (call (.builtin "sorted") [.ref s.heap.objs.size] [(Str.ofString "key", .ref f)]) _ _ _
  refine sorted_range_key rfl F3 N3 hr3 (fun i => Txt.slice x (some (i : Int)) none) (by omega) ?_ ?_
  · intro i t h tk own hi F4 N4
    have hfm := hd_mem N3
    have hlam := Con.ofLam (G := G2 w p loose mean mg mb) (d := 1) (u := 13) (vs := [.int i t]) (Post := fun Λ v Λ' => (∃ t', v = .str (Txt.slice x (some (i : Int)) none) t') ∧ ∀ p ∈ Λ, p ∈ Λ') hfm (.tail _ hc1) hl1 (binds := [("place", .int i t)]) (fun _ _ _ _ _ _ => BindsTo.of_eq rfl) (locs rfl) rfl rfl rfl (by decide) (by
      intro dp un gd L' outer A₀ base g Λ' s E B F X N T hC tab hsub hd hu
      replace X : (Mine.hd.heap_39 w.params).In g := X
      replace T : Top p loose mean mg mb g := T
      have mP := hsub _ (.tail _ hcm) (NT.of_cell d1)
      k_steps
      exact Lv.intro (by k_asm) (by k_asm) tab .refl ⟨⟨_, rfl⟩, fun _ h => h⟩)
    refine hlam dp (un + 1 + 1) _ _ _ _ _ _ _ _ ⟨⟨gd, _, _, _, _, _, outer, A₀, base, rfl, B, rfl, hC⟩, F4, X, N4, T, (T1.sub fun _ h => List.mem_append_left _ (.tail _ h))⟩ (fun p hp _ => List.mem_append_left _ hp) (by omega) (by omega) ?_
    rintro v Λ6 h6 tk6 c6 S6 ⟨⟨t', rfl⟩, hk6⟩
    exact ⟨h6, tk6, t', rfl, rfl, c6.F, news_sub c6.N hk6⟩
  intro D h5 tk5 vs out c F5 N5 lD hvs hout
  k_steps
  dsimp only
  refine hold_out ?_
  obtain ⟨sa, hperm, hI, hsort⟩ := out_sa hvs hout
  obtain ⟨ol⟩ := out
  rename Fr _ _ _ _ => F7; rename News _ _ _ _ => N6
  have N7 := news_dup N6 (.tail _ (.tail _ hcm))
  have hol : ol.length ≤ 20 := by
    have h1 := hI.length
    have h2 := hperm.length_eq
    rw [List.length_map] at h1
    rw [List.length_range] at h2
    have h3 : ol.length = sa.length := h1
    omega
  k_steps
  refine hold_out ?_
  rename News _ _ _ _ => N7
  refine LCg.ListComp_U (F₀ := F7) (by with_unfolding_all rfl) (by decide) (by rfl) (by decide) (by rfl) ?_
  k_steps
  refine hold_out ?_
  refine LCg.CompSrc.ledger (by rfl) F7 N7 (.tail _ (.head _)) (by rw [sizeLine_eq, List.size_toArray]; omega) ?_
  intro g'
  have hlen : ((Str.ofString "$" ++ x).length : Int) = x.length + 1 := by
    have h9 := Str.length_append (Str.ofString "$") x
    rw [show (Str.ofString "$").length = 1 from by decide +kernel] at h9
    rw [h9]
    omega
  refine kct_list (fun p => Txt.item (Str.ofString "$" ++ x) p) hI (fun k' t' I' oI' C' oC' D' m' ys' h' tk' E' hk' hC' hx' F' N' off' ne' hm' => ?_) ?_
  · obtain ⟨p, hp, rfl⟩ := List.mem_map.mp hk'
    have hpn := List.mem_range.mp (hperm.mem_iff.mp hp)
    have hp0 : 0 ≤ Int.ofNat p := Int.natCast_nonneg p
    have hp1 : Int.ofNat p < ((Str.ofString "$" ++ x).length : Int) := by rw [hlen]; show ((p : Nat) : Int) < _; omega
    k_steps
    exact ⟨_, _, _, rfl, F', N', off', .inr ⟨_, .tail _ (.head _), rfl, _, rfl⟩, rfl, _, rfl⟩
  · intro ys2 hc2 hl2
    k_steps
    rename Fr _ _ _ _ => F9; rename News _ _ _ _ => N9
    have Sa : Step Λ ([(L + 1, o1)] ++ Λ) := Step.app fun p hp q hq => by
      rw [List.mem_singleton.mp hp]
      exact Nat.lt_succ_of_lt (hlt q hq)
    have Sc := Sa.trans ((Step.cons hrlt).trans S1)
    exact Lv.intro F9 (news_sub N9 fun p hp => .tail _ (.tail _ (.tail _ (.tail _ hp)))) T1 Sc ⟨sa, _, ⟨hperm, hsort⟩, rfl⟩
end Mine
namespace Mine
open PySem PySem.Calls PySem.W PyProof.Rows PySem.Flt PySem.Builtin PySem.Builtin.ObjectAttr
theorem offST2 : True := by w_top off; trivial
theorem fillST : PySem.Challenge.rw_ph0008_02.prog = PySem.Challenge.rw_ph0008_02.prog ∧ Mine.hd.heap_39 = Mine.hd.heap_39 := by k_fill; exact ⟨rfl, rfl⟩
local macro_rules | `(tactic| walk_at "call ref") => `(tactic| refine hold_in ?_)
local macro_rules | `(tactic| walk_at "subscriptTail") => `(tactic| refine hold_in ?_)
local macro_rules | `(tactic| walk_at "truthy ref") => `(tactic| refine hold_in ?_)
local macro_rules | `(tactic| walk_at "getAttr ref") => `(tactic| refine hold_in ?_)
/-- the two dicts at a letter -/
def StepTab (G : Gl) (Λ : Ldg) (Pa Ba : Addr) (last letter : Str) (ns : List Int) (c : Int) : Prop :=
  ∃ op ob kp kb pg tc, (Pa, op) ∈ Λ ∧ op.IsDictOf (PySem.strKind G.prog G.w) kp ∧ valueAt kp letter = some (.ref pg) ∧ (Ba, ob) ∈ Λ ∧ ob.IsDictOf (PySem.strKind G.prog G.w) kb ∧ valueAt kb letter = some (.int c tc) ∧
    IsProg G "number" (fun (g : Int) u => ∃ t, u = .int g t) Λ pg last (fun j => nxM ns 1 j)
theorem dict_cls {prog : Program} {w : World} {o : Obj} {kvs : List (Str × Value)} (h : o.IsDictOf (PySem.strKind prog w) kvs) : o.cls = .type "dict" := by
  obtain ⟨es, ep, h, _⟩ := h
  exact h.1
/-- how many of the marks stand ahead of the row -/
def rankOf (ns : List Int) (last : Str) (row : Int) : Int := match revGo (fun j => nxM ns 1 j) row (last.length + 1) 0 none with
  | none => 0
  | some (_, _, k) => k
theorem law_step (w p loose mean mg mb) (Pa Ba : Addr) (last letter : Str) (tl tt : Tok) (row : Int) (tr : Tok) (ns : List Int) (c : Int) (hg : Goes (fun j => nxM ns 1 j) last.length) (hl : last.length ≤ 20) :
    Con (G2 w p loose mean mg mb) 40 180 61 [.ref Pa, .ref Ba, .str last tl, .str letter tt, .int row tr] (fun Λ => StepTab (G2 w p loose mean mg mb) Λ Pa Ba last letter ns c) (fun _ v _ => ∃ t, v = .int (c + rankOf ns last row) t) := by
  refine Con.ofDef (d := 39) (u := 177) (oc := _) (od := _) (osl := _) (binds := [("programs", .ref Pa), ("before", .ref Ba), ("last", .str last tl), ("letter", .str letter tt), ("row", .int row tr)]) (name := _) (qual := _) (params := _) (body := _) (scope := _) (dV := _) (kV := _) (doc := _) (pm := _) (an := _) (cdv := _) (ct := _) rfl (by kernel_rfl) (fun s => BindsTo.of_eq rfl) (locs rfl) rfl rfl rfl (by decide) ?_
  intro dp un gd L outer A₀ base g Λ s E B F X N T hC tab hpre hd hu
  replace X : (Mine.hd.heap_39 w.params).In g := X
  replace T : Top p loose mean mg mb g := T
  obtain ⟨op, ob, kp, kb, pg, tc, h1, h2, h3, h4, h5, h6, h7⟩ := hpre
  have n1 : NT op := .of_cls (by rw [dict_cls h2]; nofun)
  have n4 : NT ob := .of_cls (by rw [dict_cls h5]; nofun)
  k_steps
  rename Fr _ _ _ _ => F1; rename News _ _ _ _ => N1
  refine hold_out ?_
  refine kda_item (knd := PySem.strKind _ _) N1 h1 h2 (strKind_is _ _ _ _) h3 ?_
  k_steps
  refine hold_out ?_
  refine search_reverse2 w p loose mean mg mb "number" _ _ last.length hg (by omega) pg last _ _ _ _ _ _ _ _ _ _ _ _ _ ⟨⟨gd, _, _, _, _, _, outer, A₀, base, rfl, B, rfl, hC⟩, F1, X, N1, T, tab⟩ h7 (by omega) (by omega) ?_
  rintro v4 Λ4 h4' tk4 c4 S4 P4
  have F4 := c4.F
  have N4 := c4.N
  have tab4 := c4.tab
  clear c4 F1 N1
  have m4 := S4.keep _ h4 n4
  unfold rankOf
  cases hr4 : revGo (fun j => nxM ns 1 j) row (last.length + 1) 0 none with
  | none =>
    rw [hr4] at P4
    cases P4
    k_steps
    rename Fr _ _ _ _ => F5; rename News _ _ _ _ => N5
    refine hold_out ?_
    refine kda_item (knd := PySem.strKind _ _) N5 m4 h5 (strKind_is _ _ _ _) h6 ?_
    k_steps
    exact Lv.intro (by k_asm) (by k_asm) tab4 S4 ⟨_, rfl⟩
  | some r =>
    obtain ⟨i2, j2, g2⟩ := r
    rw [hr4] at P4
    obtain ⟨a, Da, fda, esa, na, sp, gv, fds, rfl, q1, q2, q3, q4, q5, ⟨tg, rfl⟩, q7, q8, q9⟩ := id P4
    k_steps
    rename Fr _ _ _ _ => F5; rename News _ _ _ _ => N5
    refine hold_out ?_
    refine kda_item (knd := PySem.strKind _ _) N5 m4 h5 (strKind_is _ _ _ _) h6 ?_
    k_steps
    refine hold_out ?_
    refine fn_truthy (N5 _ q1).1 ?_
    k_steps
    refine hold_out ?_
    rename Fr _ _ _ _ => F6; rename News _ _ _ _ => N6
    refine getAttr_led N6 q1 q2 q3 q5 lk_function_number q7 ?_
    k_steps
    exact Lv.intro (by k_asm) (by k_asm) tab4 S4 ⟨_, rfl⟩
end Mine
namespace Mine
open PySem PySem.Calls PySem.W PyProof.Rows PySem.Flt PySem.Builtin PySem.Builtin.ObjectAttr
structure Box (P : Prop) : Prop where
  out : P
/-- where law_told's body stands -/
structure AtT (w : World) (p : Program) (loose : List Str) (mean : ExcName → Option Value) (mg mb : Str → Option Value) (dp un : Nat) (L : Addr) (outer : List Env) (A₀ : Around) (base g : Heap) (h : Heap) (m : Str → Option Value) (Λ : Ldg) : Prop where
  B : Below A₀ base outer g
  F : Fr g L h m
  X : (Mine.hd.heap_39 w.params).In g
  N : News g L h Λ
  T : Top p loose mean mg mb g
  hC : ∀ q ∈ (G2 w p loose mean mg mb).tabs, CodeHd base q.1 q.2
  tab : TabOk (G2 w p loose mean mg mb).sp Λ
  hd : dp + 80 < recursionLimit
  hu : un + 340 < cLine
def L4 : List Str := [Str.ofString "$", Str.ofString "a", Str.ofString "b", Str.ofString "c"]
/-- the two dicts as far as they are filled -/
def DictSt (G : Gl) (Λ : Ldg) (M : List Addr) (Pa Ba : Addr) (last : Str) (don : List Str) (mk : Str → List Int) (cs : Str → Int) : Prop :=
  ∃ op ob kp kb, (Pa, op) ∈ Λ ∧ op.IsDictOf (PySem.strKind G.prog G.w) kp ∧ (Ba, ob) ∈ Λ ∧ ob.IsDictOf (PySem.strKind G.prog G.w) kb ∧ kp.length ≤ don.length ∧ kb.length ≤ don.length ∧
    ∀ l ∈ don, ∃ pg tc, valueAt kp l = some (.ref pg) ∧ valueAt kb l = some (.int (cs l) tc) ∧ ∃ Λp : Ldg, (∀ p ∈ Λp, p ∈ Λ ∧ NT p.2 ∧ NI p.2 ∧ p.1 ∉ M) ∧ IsProg G "number" (fun (g : Int) u => ∃ t, u = .int g t) Λp pg last (fun j => nxM (mk l) 1 j)
theorem DictSt.nmono {G : Gl} {Λ Λ' : Ldg} {M : List Addr} {Pa Ba : Addr} {last : Str} {don : List Str} {mk : Str → List Int} {cs : Str → Int} (x : DictSt G Λ M Pa Ba last don mk cs) (hs : NSub Λ Λ') : DictSt G Λ' M Pa Ba last don mk cs := by
  obtain ⟨op, ob, kp, kb, h1, h2, h3, h4, h5, h6, h7⟩ := x
  have nd : ∀ {o : Obj} {kvs}, o.IsDictOf (PySem.strKind G.prog G.w) kvs → NI o := fun h => .of_data fun vs e => by obtain ⟨es, ep, _, h2, _⟩ := h; rw [e] at h2; cases h2
  refine ⟨op, ob, kp, kb, hs _ h1 (nd h2), h2, hs _ h3 (nd h4), h4, h5, h6, fun l hl => ?_⟩
  obtain ⟨pg, tc, e1, e2, Λp, e3, e4⟩ := h7 l hl
  exact ⟨pg, tc, e1, e2, Λp, fun p hp => let ⟨a, b, c, d⟩ := e3 p hp; ⟨hs _ a c, b, c, d⟩, e4⟩
theorem DictSt.kmono {G : Gl} {Λ Λ' : Ldg} {M M' : List Addr} {Pa Ba : Addr} {last : Str} {don : List Str} {mk : Str → List Int} {cs : Str → Int} (x : DictSt G Λ M Pa Ba last don mk cs) (hk : Keep M' Λ Λ') (hm : ∀ a ∈ M', a ∈ M) (hP : Pa ∉ M') (hB : Ba ∉ M') : DictSt G Λ' M Pa Ba last don mk cs := by
  obtain ⟨op, ob, kp, kb, h1, h2, h3, h4, h5, h6, h7⟩ := x
  have nd : ∀ {o : Obj} {kvs}, o.IsDictOf (PySem.strKind G.prog G.w) kvs → NT o := fun h => .of_cls (by rw [dict_cls h]; nofun)
  refine ⟨op, ob, kp, kb, hk _ h1 (nd h2) hP, h2, hk _ h3 (nd h4) hB, h4, h5, h6, fun l hl => ?_⟩
  obtain ⟨pg, tc, e1, e2, Λp, e3, e4⟩ := h7 l hl
  exact ⟨pg, tc, e1, e2, Λp, fun p hp => let ⟨a, b, c, d⟩ := e3 p hp; ⟨hk _ a b fun q => d (hm _ q), b, c, d⟩, e4⟩
theorem DictSt.step {G : Gl} {Λ : Ldg} {M : List Addr} {Pa Ba : Addr} {last : Str} {don : List Str} {mk : Str → List Int} {cs : Str → Int} (x : DictSt G Λ M Pa Ba last don mk cs) {l : Str} (hl : l ∈ don) : StepTab G Λ Pa Ba last l (mk l) (cs l) := by
  obtain ⟨op, ob, kp, kb, h1, h2, h3, h4, h5, h6, h7⟩ := x
  obtain ⟨pg, tc, e1, e2, Λp, e3, e4⟩ := h7 l hl
  exact ⟨op, ob, kp, kb, pg, tc, h1, h2, e1, h3, h4, e2, e4.mono fun p hp _ => (e3 p hp).1⟩
/-- more may be left out -/
theorem DictSt.more {G : Gl} {Λ : Ldg} {M M' : List Addr} {Pa Ba : Addr} {last : Str} {don : List Str} {mk : Str → List Int} {cs : Str → Int} (x : DictSt G Λ M Pa Ba last don mk cs) (h : ∀ p ∈ Λ, p.1 ∉ M → p.1 ∉ M') : DictSt G Λ M' Pa Ba last don mk cs := by
  obtain ⟨op, ob, kp, kb, h1, h2, h3, h4, h5, h6, h7⟩ := x
  refine ⟨op, ob, kp, kb, h1, h2, h3, h4, h5, h6, fun l hl => ?_⟩
  obtain ⟨pg, tc, e1, e2, Λp, e3, e4⟩ := h7 l hl
  exact ⟨pg, tc, e1, e2, Λp, fun p hp => let ⟨a, b, c, d⟩ := e3 p hp; ⟨a, b, c, h p a d⟩, e4⟩
/-- the rows at which a letter stands -/
def mkL (last letter : Str) : List Int := ((List.range last.length).filter fun (i : Nat) => Txt.item last (i : Int) == letter).map Int.ofNat
/-- the letters ahead of the i-th one, counted -/
def cntTo (last : Str) (i : Nat) : Int := ((L4.take i).map fun l => ((mkL last l).length : Int)).sum
def csL (last letter : Str) : Int := cntTo last (L4.idxOf letter)
/-- a row and a letter lead to a row -/
def stepOf (x l : Str) (row : Int) : Int := csL x l + rankOf (mkL x l) x row
/-- row by row from the empty end's row on: the line, the row, the places -/
def invGo (x : Str) : Nat → Str × Int × List Int
  | 0 => (Str.ofString "", 0, List.replicate x.length 0)
  | i + 1 => if i + 1 < x.length then (Txt.item x (invGo x i).2.1 ++ (invGo x i).1, stepOf x (Txt.item x (invGo x i).2.1) (invGo x i).2.1, (invGo x i).2.2.set (invGo x i).2.1.toNat ((x.length : Int) - 1 - i))
    else ((invGo x i).1, (invGo x i).2.1, (invGo x i).2.2.set (invGo x i).2.1.toNat ((x.length : Int) - 1 - i))
def InvOk (x : Str) : Prop := ∀ i < x.length, 0 ≤ (invGo x i).2.1 ∧ (invGo x i).2.1 < x.length ∧ (i + 1 < x.length → Txt.item x (invGo x i).2.1 ∈ L4) ∧ (invGo x i).1.length ≤ 20
def lowGo (x : Str) (r : Int) (signs : List Nat) : Int := signs.foldl (fun r c => stepOf x ⟨#[c]⟩ r) r
theorem flat_rep : ∀ (n : Nat) (a : Int), (List.replicate n [a]).flatten = List.replicate n a
  | 0, _ => rfl
  | n + 1, a => by rw [List.replicate_succ, List.flatten_cons, flat_rep n a]; rfl
theorem allLt_mem (d : Nat) (l : List (Addr × Obj)) : AllLt d l → ∀ p, p ∈ l → @LT.lt Nat _ p.1 d := by
  induction l with
  | nil => intro _ p hp; exact absurd hp (List.not_mem_nil)
  | cons q r ih =>
    intro h p hp
    cases List.mem_cons.mp hp with
    | inl e => exact e ▸ h.1
    | inr hp => exact ih h.2 p hp
theorem places_of {h₀ h : Heap} {L t a b c : Addr} {tu ob oc : Obj} {vs : List Value} {m : Str → Option Value} {Λ : Ldg} {R1 R2 : Prop} (N : News h₀ L h ((t, tu) :: (a, listObj vs 0) :: (b, ob) :: (c, oc) :: Λ)) (_ : Fr h₀ L h m) (l : R1 ∧ R2 ∧ AllLt a Λ) (e : m "places" = some (.ref a)) :
    ∃ Pl Λ1, m "places" = some (.ref Pl) ∧ News h₀ L h Λ1 ∧ (∀ p ∈ Λ, p ∈ Λ1 ∧ p.1 ≠ Pl) ∧ (Pl, listObj vs 0) ∈ Λ1 ∧ True :=
  ⟨a, _, e, N, fun p hp => ⟨.tail _ (.tail _ (.tail _ (.tail _ hp))), Nat.ne_of_lt (allLt_mem _ _ l.2.2 p hp)⟩, .tail _ (.head _), trivial⟩
theorem inv_len (x : Str) : ∀ i, (invGo x i).2.2.length = x.length
  | 0 => by simp [invGo]
  | i + 1 => by
    rw [invGo]
    split
    · simp [inv_len x i]
    · simp [inv_len x i]
theorem ints_set : ∀ {vs : List Value} {ns : List Int}, IntsAre vs ns → ∀ (k : Nat) (a : Int) (t : Tok), IntsAre (vs.set k (.int a t)) (ns.set k a)
  | _, _, .nil, _, _, _ => .nil
  | _, _, .cons n u h, 0, a, t => .cons a t h
  | _, _, .cons n u h, k + 1, a, t => .cons n u (ints_set h k a t)
theorem nxM_some {size j : Int} : ∀ {ns : List Int} {i : Nat} {a b c : Int}, nxMgo size j ns i = some (a, b, c) → a ∈ ns ∧ j ≤ a ∧ b = a + size
  | [], _, _, _, _, h => by cases h
  | m :: r, i, a, b, c, h => by
    rw [nxMgo] at h
    split at h
    · cases h; exact ⟨.head _, by assumption, rfl⟩
    · obtain ⟨h1, h2⟩ := nxM_some h
      exact ⟨.tail _ h1, h2⟩
theorem goes_mk (x l : Str) : Goes (fun j => nxM (mkL x l) 1 j) x.length := by
  intro s i j g hs e
  obtain ⟨h1, h2, h3⟩ := nxM_some e
  unfold mkL at h1
  obtain ⟨k, hk, rfl⟩ := List.mem_map.mp h1
  have := List.mem_range.mp (List.mem_filter.mp hk).1
  have hk' : Int.ofNat k = (k : Int) := rfl
  omega
/-- what law_told hands back -/
def ToldRes (Λ' : Ldg) (v : Value) (line : Str) (places : List Int) (low high : Int) : Prop :=
  ∃ T t l ns, v = .ref T ∧ (T, tupObj [.str line t, .ref l]) ∈ Λ' ∧ IsInts Λ' l ns ∧ ns.Perm ((places.drop low.toNat).take (min high.toNat places.length - low.toNat)) ∧ ns.Pairwise (· ≤ ·)

theorem stepT {h₀ h : Heap} {L : Addr} {Λ : Ldg} {x : Addr × Obj} (_ : News h₀ L h (x :: Λ)) (l : ∀ q ∈ Λ, q.1 < x.1) : Step Λ (x :: Λ) := Step.cons l
end Mine
namespace Mine
open PySem PySem.Calls PySem.W PyProof.Rows PySem.Flt PySem.Builtin PySem.Builtin.ObjectAttr
theorem offTF2 : True := by w_top off; trivial
theorem fillTF : PySem.Challenge.rw_ph0008_02.prog = PySem.Challenge.rw_ph0008_02.prog ∧ Mine.hd.heap_39 = Mine.hd.heap_39 := by k_fill; exact ⟨rfl, rfl⟩
local macro_rules | `(tactic| walk_at "exec For") => `(tactic| refine hold_in ?_)
local macro_rules | `(tactic| walk_at "call ref") => `(tactic| refine hold_in ?_)
local macro_rules | `(tactic| walk_at "setItem ref") => `(tactic| refine hold_in ?_)
theorem rev_tl (y : Str) (u : Tok) : (Txt.sliceBy y none none (-1, u)).cps.toList = y.cps.toList.reverse := by
  rw [step_rev_list]
  apply List.ext_getElem
  · simp [Str.length]
  · intro i h1 h2
    simp only [List.length_map, List.length_range] at h1
    rw [List.getElem_map, List.getElem_range, List.getElem_reverse]
    have hl : y.cps.toList.length = y.length := by simp [Str.length]
    have : y.length - 1 - i < y.cps.size := by simp only [Str.length] at h1 ⊢; omega
    rw [Array.getD_eq_getD_getElem?, Array.getElem?_eq_getElem this]
    simp [hl]
theorem low_succ {x : Str} (r : Int) (l : List Nat) {i c : Nat} (h : l[i]? = some c) : lowGo x r (l.take (i + 1)) = stepOf x ⟨#[c]⟩ (lowGo x r (l.take i)) := by
  unfold lowGo
  rw [List.take_add_one, h, List.foldl_append]
  rfl
theorem told_end (w p loose mean mg mb) {oc od osl name qual params body scope dV kV doc pm an cdv0 ct} (ho : (Mine.hd.heap_39 w.params).lookup 66 = some ⟨oc, od, .func (fnOf name qual params body scope dV kV doc pm an cdv0 ct), osl⟩)
    (dp un : Nat) (gd : Option (List Code)) (L fa : Addr) (cd : Value) (cl : List (Str × Addr)) (outer : List Env) (A₀ : Around) (base g : Heap) (m : Str → Option Value) (Λ : Ldg) (s : Shared) (E : Value → Shared → Prop)
    (at0 : AtT w p loose mean mg mb dp un L outer A₀ base g s.heap m Λ) (s₀ : Shared) (Λ₀ : Ldg) (hs0 : ∃ h tk, s = { s₀ with heap := h, toks := tk }) (hk0 : ∀ q ∈ Λ₀, NT q.2 → q ∈ Λ ∧ q.1 ≠ L + 1 + 1)
    (x y : Str) (tx ty : Tok) (hx : 1 ≤ x.length ∧ x.length ≤ 10) (hy : y.length ≤ 10 ∧ ∀ c ∈ y.cps.toList, c < 128 ∧ (⟨#[c]⟩ : Str) ∈ L4) (line : Str) (tl : Tok)
    (Pa Ba Pl : Addr) (h1 : m "programs" = some (.ref Pa)) (h2 : m "before" = some (.ref Ba)) (h3 : m "piece" = some (.str y ty)) (h4 : m "places" = some (.ref Pl)) (h5 : m "line" = some (.str line tl)) (hcl : cl = cellsFrom (L + 1) scope.names [])
    (ol : Obj) (d2 : ol.data = .cell (some (.str x tx))) (ml : (L + 1, ol) ∈ Λ) (oc1 : Obj) (v1 : Option Value) (d1 : oc1.data = .cell v1) (mc : (L + 1 + 1, oc1) ∈ Λ)
    (pv : List Value) (pn : Nat) (pl : List Int) (mp : (Pl, listObj pv pn) ∈ Λ) (hpl : IntsAre pv pl) (hpn : pl.length ≤ 20)
    (hD : DictSt (G2 w p loose mean mg mb) Λ [L + 1 + 1] Pa Ba x L4 (mkL x) (csL x)) (nP : Pa ≠ L + 1 + 1) (nB : Ba ≠ L + 1 + 1) (hlo : 0 ≤ lowGo x 0 y.cps.toList.reverse) (hhi : 0 ≤ lowGo x x.length y.cps.toList.reverse) :
    Box (wpAny (model PySem.Challenge.rw_ph0008_02.prog w) (ktrTop dp un gd "_law_told" scope L fa cd cl outer) (execs (body.drop 4) (envX "_law_told" scope L fa cd cl)) (fun fl s' => LvK (G2 w p loose mean mg mb) g L Λ₀ (fun _ v Λ' => ToldRes Λ' v line pl (lowGo x 0 y.cps.toList.reverse) (lowGo x x.length y.cps.toList.reverse)) s₀ (retOf fl) s') E s) := by
  refine ⟨?_⟩
  rw [show (Mine.hd.heap_39 w.params).lookup 66 = some ⟨_, _, .func (fnOf _ _ _ _ _ _ _ _ _ _ _ _), _⟩ from rfl] at ho
  cases ho
  subst hcl
  obtain ⟨B, F, X, N, T, hC, tab, hd, hu⟩ := at0
  replace F := fr_says [("programs", .ref Pa), ("before", .ref Ba), ("piece", .str y ty), ("places", .ref Pl), ("line", .str line tl)] F (by simp [h1, h2, h3, h4, h5])
  have N0 := news_dup N ml
  clear N
  dsimp only [List.drop]
  refine execs_take 1 ?_
  dsimp only [List.take, List.drop]
  k_steps
  dsimp only
  refine hold_out ?_
  rename Fr _ _ _ _ => F1; rename News _ _ _ _ => N0
  have N1 := news_sub N0 (Λ' := (L + 1, ol) :: Λ) fun q hq => .tail _ hq
  clear N0
  refine execs_take 1 ?_
  dsimp only [List.take, List.drop]
  refine wpAny_execs_cons ?_
  refine wpAny_For ?_
  k_steps
  rename Fr _ _ _ _ => F2; rename News _ _ _ _ => N2
  rename_i trev
  have hrev : ∀ u, (Txt.sliceBy y none none (-1, u)).cps.toList = y.cps.toList.reverse := rev_tl y
  have hsz : ∀ u, (Txt.sliceBy y none none (-1, u)).cps.size = y.cps.toList.reverse.length := fun u => by rw [← Array.length_toList, hrev]
  have hxl : (x.length : Int) = ((x.length : Nat) : Int) := rfl
  refine iter_strK (fun f s' h => h) rfl F2 N2 (tab.sub fun p h => .tail _ h) [L + 1 + 1] ?_ ?_ (fun _ _ => go_name) (fun i m Λ' => m "programs" = some (.ref Pa) ∧ m "before" = some (.ref Ba) ∧ m "places" = some (.ref Pl) ∧ m "line" = some (.str line tl) ∧ (∃ t, m "low" = some (.int (lowGo x 0 (y.cps.toList.reverse.take i)) t)) ∧ (∃ t, m "high" = some (.int (lowGo x x.length (y.cps.toList.reverse.take i)) t)) ∧
    (L + 1, ol) ∈ Λ' ∧ (∃ oc v0, (L + 1 + 1, oc) ∈ Λ' ∧ oc.data = .cell v0) ∧ (Pl, listObj pv pn) ∈ Λ' ∧ DictSt (G2 w p loose mean mg mb) Λ' [L + 1 + 1] Pa Ba x L4 (mkL x) (csL x)) ?_ ?_ ?_ ?_
  · intro a ha
    rw [List.mem_singleton.mp ha]
    exact Heap.lt_size (N2 _ (.tail _ mc)).1
  · rw [← Array.all_toList, hrev, List.all_eq_true]
    intro c hc
    exact decide_eq_true (hy.2 c (List.mem_reverse.mp hc)).1
  · rintro i m Λ Λ' hs ⟨a1, a2, a3, a4, a5, a6, a7, ⟨oc, v0, a8, a9⟩, a10, a11⟩
    exact ⟨a1, a2, a3, a4, a5, a6, hs _ a7 (.of_data fun vs e => by rw [d2] at e; cases e), ⟨oc, v0, hs _ a8 (.of_data fun vs e => by rw [a9] at e; cases e), a9⟩, hs _ a10 (.of_data (by nofun)), a11.nmono hs⟩
  · exact ⟨rfl, rfl, rfl, rfl, ⟨_, rfl⟩, ⟨_, rfl⟩, .head _, ⟨oc1, v1, .tail _ mc, d1⟩, .tail _ mp, hD.kmono (M' := []) (fun q hq _ _ => .tail _ hq) (fun _ h => nomatch h) (fun h => nomatch h) (fun h => nomatch h)⟩
  · rintro i v m₁ Λ₁ s₁ E' ⟨h1, tk1, rfl⟩ hi hv ⟨a1, a2, a3, a4, ⟨t5, a5⟩, ⟨t6, a6⟩, a7, ⟨oc, v0, a8, a9⟩, a10, a11⟩ hT hsub F5 N5
    replace F5 := fr_says [("programs", .ref Pa), ("before", .ref Ba), ("places", .ref Pl), ("line", .str line tl), ("low", .int (lowGo x 0 (y.cps.toList.reverse.take i)) t5), ("high", .int (lowGo x x.length (y.cps.toList.reverse.take i)) t6)] F5 (by simp [a1, a2, a3, a4, a5, a6])
    obtain ⟨c, t, hc, rfl⟩ := hv
    have hc' : y.cps.toList.reverse[i]? = some c := by rw [← hrev, Array.getElem?_toList]; exact hc
    have hcL := (hy.2 c (List.mem_reverse.mp (List.mem_of_getElem? hc'))).2
    refine wpAny_assign_Name ?_
    refine cell_led F5 N5 hT (by rfl) a8 a9 ?_
    intro h3 o3 Λ3 F3 N3 tab3 K3 m3 d3 keep3
    have nlc : L + 1 ≠ L + 1 + 1 := Nat.ne_of_lt (Nat.lt_succ_self _)
    have npc : Pl ≠ L + 1 + 1 := news_ne N5 a10 a8 fun e => by rw [a9] at e; cases e
    have ml3 := keep3 _ a7 nlc
    have mp3 := keep3 _ a10 npc
    have a12 := a11.kmono K3 (by simp) (by simpa using nP) (by simpa using nB)
    have N6 := news_dup (news_dup N3 m3) (List.mem_cons_of_mem _ ml3)
    clear N3 N5
    k_steps
    rename Fr _ _ _ _ => F7; rename News _ _ _ _ => N7
    refine hold_out ?_
    have up : ∀ q ∈ Λ3, q ∈ (L + 1, ol) :: (L + 1 + 1, o3) :: Λ3 := fun q hq => .tail _ (.tail _ hq)
    have a13 := a12.kmono (M' := []) (fun q hq _ _ => up q hq) (fun _ h => nomatch h) (fun h => nomatch h) (fun h => nomatch h)
    refine law_step w p loose mean mg mb Pa Ba x ⟨#[c]⟩ _ _ (lowGo x 0 (y.cps.toList.reverse.take i)) _ (mkL x ⟨#[c]⟩) (csL x ⟨#[c]⟩) (goes_mk x _) (by omega) _ _ _ _ _ _ _ _ _ _ ⟨⟨gd, _, _, _, _, _, outer, A₀, base, rfl, B, rfl, hC⟩, F7, X, N7, T, tab3.sub up⟩ (a13.step hcL) (by omega) (by omega) ?_
    rintro v8 Λ8 h8 tk8 c8 S8 ⟨t8, rfl⟩
    have F8 := c8.F
    have N8 := c8.N
    have tab8 := c8.tab
    clear c8 F7 N7
    have a14 := a13.kmono (M' := []) (fun q hq hn _ => S8.keep q hq hn) (fun _ h => nomatch h) (fun h => nomatch h) (fun h => nomatch h)
    have ml8 := S8.keep _ (.head _) (NT.of_cell d2)
    have mc8 := S8.keep _ (.tail _ (.head _)) (NT.of_cell d3)
    have mp8 := S8.keep _ (up _ mp3) (.of_cls (by nofun))
    have N9 := news_dup (news_dup N8 mc8) (List.mem_cons_of_mem _ ml8)
    clear N8
    k_steps
    rename Fr _ _ _ _ => F10; rename News _ _ _ _ => N10
    refine hold_out ?_
    have up8 : ∀ q ∈ Λ8, q ∈ (L + 1, ol) :: (L + 1 + 1, o3) :: Λ8 := fun q hq => .tail _ (.tail _ hq)
    have a15 := a14.kmono (M' := []) (fun q hq _ _ => up8 q hq) (fun _ h => nomatch h) (fun h => nomatch h) (fun h => nomatch h)
    refine law_step w p loose mean mg mb Pa Ba x ⟨#[c]⟩ _ _ (lowGo x x.length (y.cps.toList.reverse.take i)) _ (mkL x ⟨#[c]⟩) (csL x ⟨#[c]⟩) (goes_mk x _) (by omega) _ _ _ _ _ _ _ _ _ _ ⟨⟨gd, _, _, _, _, _, outer, A₀, base, rfl, B, rfl, hC⟩, F10, X, N10, T, tab8.sub up8⟩ (a15.step hcL) (by omega) (by omega) ?_
    rintro v11 Λ11 h11 tk11 c11 S11 ⟨t11, rfl⟩
    have F11 := c11.F
    have N11 := c11.N
    have tab11 := c11.tab
    clear c11 F10 N10
    have a16 := a15.kmono (M' := []) (fun q hq hn _ => S11.keep q hq hn) (fun _ h => nomatch h) (fun h => nomatch h) (fun h => nomatch h)
    have ml11 := S11.keep _ (.head _) (NT.of_cell d2)
    have mc11 := S11.keep _ (.tail _ (.head _)) (NT.of_cell d3)
    have mp11 := S11.keep _ (up8 _ mp8) (.of_cls (by nofun))
    k_steps
    rename Fr _ _ _ _ => F12; rename News _ _ _ _ => N12
    have e1 : lowGo x 0 (y.cps.toList.reverse.take (i + 1)) = stepOf x ⟨#[c]⟩ (lowGo x 0 (y.cps.toList.reverse.take i)) := low_succ _ _ hc'
    have e2 : lowGo x x.length (y.cps.toList.reverse.take (i + 1)) = stepOf x ⟨#[c]⟩ (lowGo x x.length (y.cps.toList.reverse.take i)) := low_succ _ _ hc'
    refine TurnEndK.next F12 N12 tab11 (fun q hq hn hm => S11.keep q (up8 q (S8.keep q (up q (K3 q hq hn hm)) hn)) hn) ⟨rfl, rfl, rfl, rfl, by rw [e1]; exact ⟨_, rfl⟩, by rw [e2]; exact ⟨_, rfl⟩, ml11, ⟨o3, _, mc11, d3⟩, mp11, a16⟩
  · intro m' Λ' h' tk F3 N3 T3 K3 ⟨a1, a2, a3, a4, ⟨t5, a5⟩, ⟨t6, a6⟩, a7, ⟨oc, v0, a8, a9⟩, a10, a11⟩
    rw [hsz, List.take_length] at a5 a6
    replace F3 := fr_says [("places", .ref Pl), ("line", .str line tl), ("low", .int (lowGo x 0 y.cps.toList.reverse) t5), ("high", .int (lowGo x x.length y.cps.toList.reverse) t6)] F3 (by simp [a3, a4, a5, a6])
    refine wpAny_execs_nil ?_
    dsimp only
    refine hold_out ?_
    have N4 := news_dup N3 a10
    clear N3
    k_steps
    rename Fr _ _ _ _ => F9; rename News _ _ _ _ => N9
    obtain ⟨hh0, tk0, rfl⟩ := hs0
    refine LvK.intro F9 N9 (T3.sub fun p h => .tail _ (.tail _ (.tail _ (.tail _ h)))) (fun q hq hn => ?_) ⟨_, _, _, _, rfl, .head _, ⟨_, _, .tail _ (.head _), by assumption⟩, by assumption, by assumption⟩
    obtain ⟨q1, q2⟩ := hk0 q hq hn
    exact .tail _ (.tail _ (.tail _ (.tail _ (K3 q (.tail _ q1) hn (by simpa using q2)))))
end Mine
namespace Mine
open PySem PySem.Calls PySem.W PyProof.Rows PySem.Flt PySem.Builtin PySem.Builtin.ObjectAttr
theorem offTE2 : True := by w_top off; trivial
theorem fillTE : PySem.Challenge.rw_ph0008_02.prog = PySem.Challenge.rw_ph0008_02.prog ∧ Mine.hd.heap_39 = Mine.hd.heap_39 := by k_fill; exact ⟨rfl, rfl⟩
local macro_rules | `(tactic| walk_at "exec For") => `(tactic| refine hold_in ?_)
local macro_rules | `(tactic| walk_at "call ref") => `(tactic| refine hold_in ?_)
local macro_rules | `(tactic| walk_at "setItem ref") => `(tactic| refine hold_in ?_)
theorem told_rest (w p loose mean mg mb) {oc od osl name qual params body scope dV kV doc pm an cdv0 ct} (ho : (Mine.hd.heap_39 w.params).lookup 66 = some ⟨oc, od, .func (fnOf name qual params body scope dV kV doc pm an cdv0 ct), osl⟩)
    (dp un : Nat) (gd : Option (List Code)) (L fa : Addr) (cd : Value) (cl : List (Str × Addr)) (outer : List Env) (A₀ : Around) (base g : Heap) (m : Str → Option Value) (Λ : Ldg) (s : Shared) (E : Value → Shared → Prop)
    (at0 : AtT w p loose mean mg mb dp un L outer A₀ base g s.heap m Λ) (s₀ : Shared) (Λ₀ : Ldg) (hs0 : ∃ h tk, s = { s₀ with heap := h, toks := tk }) (hk0 : ∀ q ∈ Λ₀, NT q.2 → q ∈ Λ ∧ q.1 ≠ L + 1 + 1)
    (Pa Ba : Addr) (x y : Str) (tx ty : Tok) (hx : 1 ≤ x.length ∧ x.length ≤ 10) (hI : InvOk x) (hy : y.length ≤ 10 ∧ ∀ c ∈ y.cps.toList, c < 128 ∧ (⟨#[c]⟩ : Str) ∈ L4) (hlo : 0 ≤ lowGo x 0 y.cps.toList.reverse) (hhi : 0 ≤ lowGo x x.length y.cps.toList.reverse) (nPc : Pa ≠ L + 1 + 1) (nBc : Ba ≠ L + 1 + 1)
    (nPB : Pa ≠ Ba) (h1 : m "programs" = some (.ref Pa)) (h2 : m "before" = some (.ref Ba)) (h3 : m "piece" = some (.str y ty)) (hcl : cl = cellsFrom (L + 1) scope.names [])
    (ol : Obj) (d2 : ol.data = .cell (some (.str x tx))) (ml : (L + 1, ol) ∈ Λ) (oc1 : Obj) (v1 : Option Value) (d1 : oc1.data = .cell v1) (mc : (L + 1 + 1, oc1) ∈ Λ)
    (hD : DictSt (G2 w p loose mean mg mb) Λ [Pa, Ba, L + 1 + 1] Pa Ba x L4 (mkL x) (csL x)) :
    Box (wpAny (model PySem.Challenge.rw_ph0008_02.prog w) (ktrTop dp un gd "_law_told" scope L fa cd cl outer) (execs (body.drop 2) (envX "_law_told" scope L fa cd cl)) (fun fl s' => LvK (G2 w p loose mean mg mb) g L Λ₀ (fun _ v Λ' => ToldRes Λ' v (invGo x x.length).1 (invGo x x.length).2.2 (lowGo x 0 y.cps.toList.reverse) (lowGo x x.length y.cps.toList.reverse)) s₀ (retOf fl) s') E s) := by
  refine ⟨?_⟩
  rw [show (Mine.hd.heap_39 w.params).lookup 66 = some ⟨_, _, .func (fnOf _ _ _ _ _ _ _ _ _ _ _ _), _⟩ from rfl] at ho
  cases ho
  subst hcl
  obtain ⟨B, F, X, N, T, hC, tab, hd, hu⟩ := at0
  replace F := fr_says [("programs", .ref Pa), ("before", .ref Ba), ("piece", .str y ty)] F (by simp [h1, h2, h3])
  have N0 := news_dup N ml
  clear N
  dsimp only [List.drop]
  refine execs_take 1 ?_
  dsimp only [List.take, List.drop]
  k_steps
  dsimp only
  refine hold_out ?_
  rename Fr _ _ _ _ => F1; rename News _ _ _ _ => N1
  have hi0 : IntsAre (List.replicate ((x.length : Nat) : Int).toNat [Value.int 0 (s.toks + 1)]).flatten (List.replicate ((x.length : Nat) : Int).toNat [(0 : Int)]).flatten := by assumption
  obtain ⟨Pl, Λ1, eL, N2, in2, mp, nlt⟩ := places_of N1 F1 (by assumption) rfl
  have tab2 := tab.sub fun p h => (in2 p h).1
  have e0 : (List.replicate ((x.length : Nat) : Int).toNat [(0 : Int)]).flatten = List.replicate x.length 0 := by rw [Int.toNat_natCast]; exact flat_rep _ _
  have hi1 := hi0
  rw [e0] at hi1
  refine execs_take 1 ?_
  dsimp only [List.take, List.drop]
  refine wpAny_execs_cons ?_
  refine wpAny_For ?_
  have N3 := news_dup N2 (in2 _ ml).1
  clear N2
  k_steps
  rename Fr _ _ _ _ => F4; rename News _ _ _ _ => N4; rename IsRange _ _ _ _ _ _ _ _ => hr
  have hD1 : DictSt (G2 w p loose mean mg mb) Λ1 [Pa, Ba, L + 1 + 1, Pl] Pa Ba x L4 (mkL x) (csL x) := by
    have := hD.more (M' := [Pa, Ba, L + 1 + 1, Pl]) fun q hq hn => by
      have h9 := (in2 q hq).2
      simp only [List.mem_cons, List.not_mem_nil, or_false, not_or] at hn ⊢
      exact ⟨hn.1, hn.2.1, hn.2.2, h9⟩
    exact this.kmono (M' := []) (fun q hq _ _ => (in2 q hq).1) (fun _ h => nomatch h) (fun h => nomatch h) (fun h => nomatch h)
  have nPP : Pa ≠ Pl := by obtain ⟨op, _, _, _, q1, _⟩ := hD; exact (in2 _ q1).2
  have nBP : Ba ≠ Pl := by obtain ⟨op, ob, _, _, _, _, q1, _⟩ := hD; exact (in2 _ q1).2
  have nlP : L + 1 ≠ Pl := (in2 _ ml).2
  have ncP : L + 1 + 1 ≠ Pl := (in2 _ mc).2
  refine iter_downK (n := x.length) (fun f s' h => h) rfl F4 N4 (tab2.sub fun p h => .tail _ h) [Pl] ?_ hr (by omega) (fun _ _ => go_name) (fun i m Λ' => m "programs" = some (.ref Pa) ∧ m "before" = some (.ref Ba) ∧ m "piece" = some (.str y ty) ∧ m "places" = some (.ref Pl) ∧ (∃ t, m "line" = some (.str (invGo x i).1 t)) ∧ (∃ t, m "row" = some (.int (invGo x i).2.1 t)) ∧
    (L + 1, ol) ∈ Λ' ∧ (∃ pv n, (Pl, listObj pv n) ∈ Λ' ∧ IntsAre pv (invGo x i).2.2) ∧ DictSt (G2 w p loose mean mg mb) Λ' [Pa, Ba, L + 1 + 1, Pl] Pa Ba x L4 (mkL x) (csL x)) ?_ ?_ ?_ ?_
  · intro a ha
    rw [List.mem_singleton.mp ha]
    exact Heap.lt_size (N4 _ (.tail _ mp)).1
  · rintro i m Λ Λ' hs ⟨a1, a2, a3, a4, a5, a6, a7, ⟨pv, n, a8, a9⟩, a10⟩
    exact ⟨a1, a2, a3, a4, a5, a6, hs _ a7 (.of_data fun vs e => by rw [d2] at e; cases e), ⟨pv, n, hs _ a8 (.of_data (by nofun)), a9⟩, a10.nmono hs⟩
  · exact ⟨rfl, rfl, rfl, eL, ⟨_, rfl⟩, ⟨_, rfl⟩, .head _, ⟨_, _, .tail _ mp, hi1⟩, hD1.kmono (M' := []) (fun q hq _ _ => .tail _ hq) (fun _ h => nomatch h) (fun h => nomatch h) (fun h => nomatch h)⟩
  · rintro i v m₁ Λ₁ s₁ E' ⟨h1, tk1, rfl⟩ hi ⟨tv, rfl⟩ ⟨a1, a2, a3, a4, ⟨t5, a5⟩, ⟨t6, a6⟩, a7, ⟨pv, pn, a8, a9⟩, a10⟩ hT hsub F5 N5
    obtain ⟨i1, i2, i3, i4⟩ := hI i hi
    replace F5 := fr_says [("programs", .ref Pa), ("before", .ref Ba), ("piece", .str y ty), ("places", .ref Pl), ("line", .str (invGo x i).1 t5), ("row", .int (invGo x i).2.1 t6)] F5 (by simp [a1, a2, a3, a4, a5, a6])
    have N6 := news_dup N5 a7
    clear N5
    k_steps
    refine hold_out ?_
    rename Fr _ _ _ _ => F7; rename News _ _ _ _ => N7
    have hpl : pv.length = x.length := by have := a9.length; rw [inv_len] at this; exact this
    refine seti_led F7 N7 (hT.sub fun p h => .tail _ h) (.tail _ a8) i1 (by omega) (by omega) ?_
    intro h8 Λ8 n8 F8 N8 tab8 K8 m8 keep8
    have ml8 := keep8 _ (.head _) nlP
    have a11 := (a10.kmono (M' := []) (fun q hq _ _ => List.mem_cons_of_mem (L + 1, ol) hq) (fun _ h => nomatch h) (fun h => nomatch h) (fun h => nomatch h)).kmono K8 (by simp) (by simpa using nPP) (by simpa using nBP)
    have hset := ints_set a9 (invGo x i).2.1.toNat ((x.length : Int) - 1 - i) tv
    have N9 := news_dup N8 ml8
    clear N8
    k_steps
    · rename (0 < _) => hpos
      have hlt : i + 1 < x.length := by omega
      rename Fr _ _ _ _ => F10; rename News _ _ _ _ => N10
      refine hold_out ?_
      refine law_step w p loose mean mg mb Pa Ba x (Txt.item x (invGo x i).2.1) _ _ (invGo x i).2.1 _ (mkL x (Txt.item x (invGo x i).2.1)) (csL x (Txt.item x (invGo x i).2.1)) (goes_mk x _) (by omega) _ _ _ _ _ _ _ _ _ _ ⟨⟨gd, _, _, _, _, _, outer, A₀, base, rfl, B, rfl, hC⟩, F10, X, N10, T, tab8.sub fun p h => .tail _ h⟩ ((a11.kmono (M' := []) (fun q hq _ _ => List.mem_cons_of_mem (L + 1, ol) hq) (fun _ h => nomatch h) (fun h => nomatch h) (fun h => nomatch h)).step (i3 hlt)) (by omega) (by omega) ?_
      rintro v11 Λ11 h11 tk11 c11 S11 ⟨t11, rfl⟩
      have F11 := c11.F
      have N11 := c11.N
      have tab11 := c11.tab
      clear c11 F10 N10
      have a12 := (a11.kmono (M' := []) (fun q hq hn _ => S11.keep q (.tail _ hq) hn) (fun _ h => nomatch h) (fun h => nomatch h) (fun h => nomatch h))
      have m11 := S11.keep _ (.tail _ m8) (.of_cls (by nofun))
      have ml11 := S11.keep _ (.head _) (NT.of_cell d2)
      k_steps
      rename Fr _ _ _ _ => F12; rename News _ _ _ _ => N12
      have hgo : invGo x (i + 1) = (Txt.item x (invGo x i).2.1 ++ (invGo x i).1, stepOf x (Txt.item x (invGo x i).2.1) (invGo x i).2.1, (invGo x i).2.2.set (invGo x i).2.1.toNat ((x.length : Int) - 1 - i)) := by
        rw [invGo, if_pos hlt]
      refine TurnEndK.next F12 N12 tab11 (fun q hq hn hm => S11.keep q (.tail _ (K8 q (.tail _ hq) hn hm)) hn) ⟨rfl, rfl, rfl, rfl, by rw [hgo]; exact ⟨_, rfl⟩, by rw [hgo]; exact ⟨_, rfl⟩, ml11, ⟨_, _, m11, by rw [hgo]; exact hset⟩, a12⟩
    · rename (¬ 0 < _) => hpos
      have hlt : ¬ i + 1 < x.length := by omega
      rename Fr _ _ _ _ => F12; rename News _ _ _ _ => N12
      have hgo : invGo x (i + 1) = ((invGo x i).1, (invGo x i).2.1, (invGo x i).2.2.set (invGo x i).2.1.toNat ((x.length : Int) - 1 - i)) := by
        rw [invGo, if_neg hlt]
      refine TurnEndK.next F12 (news_sub N12 fun p h => .tail _ h) tab8 (fun q hq hn hm => K8 q (.tail _ hq) hn hm) ⟨rfl, rfl, rfl, rfl, by rw [hgo]; exact ⟨_, rfl⟩, by rw [hgo]; exact ⟨_, rfl⟩, ml8, ⟨_, _, m8, by rw [hgo]; exact hset⟩, a11⟩
  · intro m' Λ' h' tk F3 N3 T3 K3 ⟨a1, a2, a3, a4, ⟨t5, a5⟩, ⟨t6, a6⟩, a7, ⟨pv, n, a8, a9⟩, a10⟩
    refine wpAny_execs_nil ?_
    dsimp only
    refine hold_out ?_
    obtain ⟨hh0, tk0, rfl⟩ := hs0
    refine Box.out ?_
    refine told_end w p loose mean mg mb rfl dp un gd L fa cd _ outer A₀ base g m' Λ' _ E ⟨B, F3, X, N3, T, hC, T3, hd, hu⟩ s₀ Λ₀ ⟨_, _, rfl⟩ (fun q hq hn => ?_) x y tx ty hx hy (invGo x x.length).1 t5 Pa Ba Pl a1 a2 a3 a4 a5 rfl ol d2 a7 oc1 v1 d1 ?_ pv n _ a8 a9 (by rw [inv_len]; omega) (a10.more fun q _ hn => ?_) nPc nBc hlo hhi
    · obtain ⟨q1, q2⟩ := hk0 q hq hn
      exact ⟨K3 q (.tail _ (in2 q q1).1) hn (by simpa using (in2 q q1).2), q2⟩
    · exact K3 _ (.tail _ (in2 _ mc).1) (NT.of_cell d1) (by simpa using ncP)
    · simp only [List.mem_cons, List.not_mem_nil, or_false, not_or] at hn ⊢
      exact hn.2.2.1
end Mine
namespace Mine
open PySem PySem.Calls PySem.W PyProof.Rows PySem.Flt PySem.Builtin PySem.Builtin.ObjectAttr
theorem offTD2 : True := by w_top off; trivial
theorem fillTD : PySem.Challenge.rw_ph0008_02.prog = PySem.Challenge.rw_ph0008_02.prog ∧ Mine.hd.heap_39 = Mine.hd.heap_39 := by k_fill; exact ⟨rfl, rfl⟩
local macro_rules | `(tactic| walk_at "CompSrcT") => `(tactic| refine hold_in ?_)
local macro_rules | `(tactic| walk_at "setItem ref") => `(tactic| refine hold_in ?_)
local macro_rules | `(tactic| walk_at "exec For") => `(tactic| refine hold_in ?_)
local macro_rules | `(tactic| walk_at "call ref") => `(tactic| refine hold_in ?_)
theorem dicts_of {prog : Program} {w : World} {h₀ h : Heap} {L t a b : Addr} {tu oa ob oc ol : Obj} {m : Str → Option Value} {Λ : Ldg} {R : Prop} (N : News h₀ L h ((t, tu) :: (b, ob) :: (a, oa) :: (L + 1 + 1, oc) :: (L + 1, ol) :: Λ)) (_ : Fr h₀ L h m)
    (ha : oa.IsDictOf (PySem.strKind prog w) []) (hb : ob.IsDictOf (PySem.strKind prog w) []) (l0 : ∀ p ∈ [(L + 1 + 1, oc), (L + 1, ol)] ++ Λ, p.1 < a) (l2 : a < b ∧ R) (e1 : m "programs" = some (.ref a)) (e2 : m "before" = some (.ref b)) :
    ∃ Pa Ba Λ1, m "programs" = some (.ref Pa) ∧ m "before" = some (.ref Ba) ∧ News h₀ L h Λ1 ∧ (∀ p ∈ Λ, p ∈ Λ1) ∧ (∃ oa, (Pa, oa) ∈ Λ1 ∧ oa.IsDictOf (PySem.strKind prog w) []) ∧ (∃ ob, (Ba, ob) ∈ Λ1 ∧ ob.IsDictOf (PySem.strKind prog w) []) ∧ (L + 1 + 1, oc) ∈ Λ1 ∧ (L + 1, ol) ∈ Λ1 ∧ Pa ≠ Ba ∧ ∀ q ∈ Λ, q.1 ≠ Pa ∧ q.1 ≠ Ba :=
  ⟨a, b, _, e1, e2, N, fun p h => .tail _ (.tail _ (.tail _ (.tail _ (.tail _ h)))), ⟨_, .tail _ (.tail _ (.head _)), ha⟩, ⟨_, .tail _ (.head _), hb⟩, .tail _ (.tail _ (.tail _ (.head _))), .tail _ (.tail _ (.tail _ (.tail _ (.head _)))), Nat.ne_of_lt l2.1, fun q hq => have q0 := l0 q (.tail _ (.tail _ hq)); ⟨Nat.ne_of_lt q0, Nat.ne_of_lt (Nat.lt_trans q0 l2.1)⟩⟩
theorem letter_at {i c : Nat} (hc : (Str.ofString "$abc").cps[i]? = some c) : i < 4 ∧ L4[i]? = some ⟨#[c]⟩ ∧ L4.idxOf (⟨#[c]⟩ : Str) = i ∧ (⟨#[c]⟩ : Str) ∉ L4.take i := by
  have hs : (Str.ofString "$abc").cps = #[36, 97, 98, 99] := by decide +kernel
  rw [hs] at hc
  match i, hc with
  | 0, hc => cases hc; decide +kernel
  | 1, hc => cases hc; decide +kernel
  | 2, hc => cases hc; decide +kernel
  | 3, hc => cases hc; decide +kernel
theorem cnt_succ (last : Str) {i : Nat} {l : Str} (h : L4[i]? = some l) : cntTo last (i + 1) = cntTo last i + ((mkL last l).length : Int) := by
  unfold cntTo
  rw [List.take_add_one, h]
  simp
theorem law_told (w p loose mean mg mb) (x y : Str) (tx ty : Tok) (hx : 1 ≤ x.length ∧ x.length ≤ 10) (hI : InvOk x) (hy : y.length ≤ 10 ∧ ∀ c ∈ y.cps.toList, c < 128 ∧ (⟨#[c]⟩ : Str) ∈ L4) (hlo : 0 ≤ lowGo x 0 y.cps.toList.reverse) (hhi : 0 ≤ lowGo x x.length y.cps.toList.reverse) :
    ConK (G2 w p loose mean mg mb) 90 360 66 [.str x tx, .str y ty] (fun _ => True) (fun _ v Λ' => ToldRes Λ' v (invGo x x.length).1 (invGo x x.length).2.2 (lowGo x 0 y.cps.toList.reverse) (lowGo x x.length y.cps.toList.reverse)) := by
  refine ConK.ofDefC (d := 89) (u := 357) (oc := _) (od := _) (osl := _) (binds := [("last", .str x tx), ("piece", .str y ty)]) (name := _) (qual := _) (params := _) (body := _) (scope := _) (dV := _) (kV := _) (doc := _) (pm := _) (an := _) (cdv := _) (ct := _) rfl (by kernel_rfl) (fun s => BindsTo.of_eq rfl) rfl (by decide +kernel) rfl rfl rfl ?_
  intro dp un gd L outer A₀ base g Λ cells s E B F X N Y hlt T hC tab hpre hd hu
  obtain ⟨o1, o2, rfl, d1, d2⟩ := CellsAre.two Y
  clear Y
  replace d1 : o1.data = .cell none := d1
  replace d2 : o2.data = .cell (some (.str x tx)) := d2
  replace X : (Mine.hd.heap_39 w.params).In g := X
  replace T : Top p loose mean mg mb g := T
  refine execs_take 2 ?_
  dsimp only [List.take, List.drop]
  k_steps
  refine hold_out ?_
  rename Fr _ _ _ _ => F1; rename News _ _ _ _ => N1
  obtain ⟨Pa, Ba, Λ1, eP, eB, N1', in1, ⟨oa, ma, ha⟩, ⟨ob, mb', hb⟩, mc, ml, nPB, nold⟩ := dicts_of (prog := (G2 w p loose mean mg mb).prog) (w := (G2 w p loose mean mg mb).w) N1 F1 (by assumption) (by assumption) (by assumption) (by assumption) rfl rfl
  have tab1 : TabOk (G2 w p loose mean mg mb).sp Λ1 := tab.sub in1
  have hnC : ∀ {o : Obj} {kvs}, o.IsDictOf (PySem.strKind (G2 w p loose mean mg mb).prog (G2 w p loose mean mg mb).w) kvs → ∀ v, o.data ≠ .cell v := fun h v e => by obtain ⟨es, ep, _, h2, _⟩ := h; rw [e] at h2; cases h2
  have nPc : Pa ≠ L + 1 + 1 := news_ne N1' ma mc fun e => hnC ha _ (e.trans d1)
  have nBc : Ba ≠ L + 1 + 1 := news_ne N1' mb' mc fun e => hnC hb _ (e.trans d1)
  have nPl : Pa ≠ L + 1 := news_ne N1' ma ml fun e => hnC ha _ (e.trans d2)
  have nBl : Ba ≠ L + 1 := news_ne N1' mb' ml fun e => hnC hb _ (e.trans d2)
  refine wpAny_For ?_
  k_steps
  refine iter_strK (x := Str.ofString "$abc") (fun f s' h => h) rfl F1 N1' tab1 [Pa, Ba, L + 1 + 1] ?_ (by decide +kernel) (fun _ _ => go_name) (fun i m Λ' => m "programs" = some (.ref Pa) ∧ m "before" = some (.ref Ba) ∧ (∃ tc, m "count" = some (.int (cntTo x i) tc)) ∧ m "piece" = some (.str y ty) ∧ (L + 1, o2) ∈ Λ' ∧ (∃ oc v0, (L + 1 + 1, oc) ∈ Λ' ∧ oc.data = .cell v0) ∧ DictSt (G2 w p loose mean mg mb) Λ' [Pa, Ba, L + 1 + 1] Pa Ba x (L4.take i) (mkL x) (csL x)) ?_ ?_ ?_ ?_
  · intro a ha
    simp only [List.mem_cons, List.not_mem_nil, or_false] at ha
    rcases ha with rfl | rfl | rfl
    · exact Heap.lt_size (N1' _ ma).1
    · exact Heap.lt_size (N1' _ mb').1
    · exact Heap.lt_size (N1' _ mc).1
  · rintro i m Λ Λ' hs ⟨a1, a2, a3, a4, a5, ⟨oc, v0, a6, a7⟩, a8⟩
    exact ⟨a1, a2, a3, a4, hs _ a5 (.of_data fun vs e => by rw [d2] at e; cases e), ⟨oc, v0, hs _ a6 (.of_data fun vs e => by rw [a7] at e; cases e), a7⟩, a8.nmono hs⟩
  · refine ⟨eP, eB, ⟨_, rfl⟩, rfl, ml, ⟨o1, _, mc, d1⟩, oa, ob, [], [], ma, ha, mb', hb, Nat.le_refl _, Nat.le_refl _, fun l hl => nomatch hl⟩
  · rintro i v m₁ Λ₁ s₁ E' ⟨h1, tk1, rfl⟩ hi hv ⟨a1, a2, ⟨tc, a3⟩, a4, a5, ⟨oc, v0, a6, a7⟩, a8⟩ hT hsub F2 N2
    replace F2 := fr_says [("programs", .ref Pa), ("before", .ref Ba), ("count", .int (cntTo x i) tc), ("piece", .str y ty)] F2 (by simp [a1, a2, a3, a4])
    obtain ⟨c, t, hc, rfl⟩ := hv
    refine wpAny_assign_Name ?_
    refine cell_led F2 N2 hT (by rfl) a6 a7 ?_
    intro h3 o3 Λ3 F3 N3 tab3 K3 m3 d3 keep3
    have ml3 := keep3 _ a5 (by simp)
    have N4 := news_dup (news_dup N3 m3) (List.mem_cons_of_mem _ ml3)
    clear N3
    k_steps
    refine hold_out ?_
    rename Fr _ _ _ _ => F5; rename News _ _ _ _ => N5; rename IsRange _ _ _ _ _ _ _ _ => hr
    refine LCt.CompSrcT.range (n := x.length) (by rfl) F5 N5 hr (small_one (by omega) (by omega) (by omega) (by omega)) (by rw [rangeSize_one]; split <;> omega) (by rw [sizeLine_eq]; omega) ?_
    intro g'
    refine filt_range (fun k => Txt.item x (k : Int) == (⟨#[c]⟩ : Str)) (fun k t' I' oI' C' oC' D' m' ys' h' tk' E' hk' hC' hx' F' N' off' ne' => ?_) ?_
    · k_steps
      · exact ⟨_, _, _, rfl, F', N', off', trivial, by assumption, rfl, _, rfl⟩
      · exact ⟨_, _, _, rfl, F', N', off', trivial, by assumption, rfl⟩
    intro ys hys
    k_steps
    refine hold_out ?_
    rename Fr _ _ _ _ => F6; rename News _ _ _ _ => N6
    have hz6 : (mkL x ⟨#[c]⟩).length ≤ 1000 := by
      unfold mkL
      rw [List.length_map]
      have := List.length_filter_le (fun (i : Nat) => Txt.item x (i : Int) == (⟨#[c]⟩ : Str)) (List.range x.length)
      rw [List.length_range] at this
      omega
    have hys' : IntsAre ys (mkL x ⟨#[c]⟩) := hys
    refine law_programX w p loose mean mg mb _ (mkL x ⟨#[c]⟩) 1 _ hz6 _ _ _ _ _ _ _ _ _ _ ⟨⟨gd, _, _, _, _, _, outer, A₀, base, rfl, B, rfl, hC⟩, F6, X, N6, T, tab3.sub fun p h => .tail _ (.tail _ (.tail _ h))⟩ ⟨ys, _, .head _, hys'⟩ (by omega) (by omega) ?_
    rintro v7 Λ7 h7 tk7 c7 S7 ⟨pg, rfl, Λp, hp1, hp2⟩
    have F7 := c7.F
    have N7 := c7.N
    have tab7 := c7.tab
    have a9 := a8.kmono K3 (by simp) (by simpa using nPc) (by simpa using nBc)
    have a10 : DictSt (G2 w p loose mean mg mb) Λ7 [Pa, Ba, L + 1 + 1] Pa Ba x (L4.take i) (mkL x) (csL x) := a9.kmono (M' := []) (fun q hq hn _ => S7.keep q (.tail _ (.tail _ (.tail _ hq))) hn) (fun _ h => nomatch h) (fun h => nomatch h) (fun h => nomatch h)
    clear c7
    have mc7 : (L + 1 + 1, o3) ∈ Λ7 := S7.keep _ (.tail _ (.tail _ (.head _))) (NT.of_cell d3)
    have ml7 : (L + 1, o2) ∈ Λ7 := S7.keep _ (.tail _ (.head _)) (NT.of_cell d2)
    have mm7 := S7.keep _ (.head _) (.of_cls (by nofun))
    have N8 := news_dup N7 mc7
    clear N7
    k_steps
    refine hold_out ?_
    rename Fr _ _ _ _ => F8; rename News _ _ _ _ => N9
    obtain ⟨op, ob', kp, kb, p1, p2, p3, p4, p5, p6, p7⟩ := a10
    have hlt4 : (L4.take i).length ≤ 4 := by rw [List.length_take]; exact Nat.min_le_right _ _
    have nML : ∀ {o : Obj} {kvs} {vs : List Value} {n : Nat}, o.IsDictOf (PySem.strKind (G2 w p loose mean mg mb).prog (G2 w p loose mean mg mb).w) kvs → (LCg.lst vs).data ≠ o.data := fun h e => by obtain ⟨es, ep, _, h2, _⟩ := h; rw [h2] at e; cases e
    have nMP := news_ne N9 (.tail _ (.tail _ mm7)) (.tail _ (.tail _ p1)) (nML (n := 0) p2)
    have nMB := news_ne N9 (.tail _ (.tail _ mm7)) (.tail _ (.tail _ p3)) (nML (n := 0) p4)
    have notM : ∀ q ∈ Λp, q.1 ∉ [Pa, Ba, L + 1 + 1] := by
      intro q hq hm
      obtain ⟨b1, b2, b3, b4⟩ := hp1 q hq
      have inj : ∀ {a : Addr} {o : Obj}, (a, o) ∈ Λ7 → q.1 = a → q.2 = o := fun {a o} hm e => by
        obtain ⟨qa, qo⟩ := q
        have e' : qa = a := e
        subst e'
        exact news_inj N9 (.tail _ (.tail _ b1)) (.tail _ (.tail _ hm))
      have nf : ∀ {o : Obj} {kvs}, o.IsDictOf (PySem.strKind (G2 w p loose mean mg mb).prog (G2 w p loose mean mg mb).w) kvs → ∀ qq, ¬ CodeLike o qq := fun h qq ⟨vs, t, e, _⟩ => by obtain ⟨es, ep, _, h2, _⟩ := h; rw [h2] at e; cases e
      simp only [List.mem_cons, List.not_mem_nil, or_false] at hm
      rcases b4 with e | ⟨qc, hcode⟩ | hfr
      · rcases hm with h | h | h
        · exact nMP (e.symm.trans h)
        · exact nMB (e.symm.trans h)
        · exact news_ne N9 (.tail _ (.tail _ mm7)) (.tail _ (.tail _ mc7)) (fun e => by rw [d3] at e; cases e) (e.symm.trans h)
      · rcases hm with h | h | h
        · rw [inj p1 h] at hcode; exact nf p2 _ hcode
        · rw [inj p3 h] at hcode; exact nf p4 _ hcode
        · rw [inj mc7 h] at hcode
          obtain ⟨vs, t, e, _⟩ := hcode
          rw [d3] at e; cases e
      · obtain ⟨oq, ob2, _, _, r1, _, r3, _⟩ := a9
        rcases hm with h | h | h
        · exact Nat.lt_irrefl _ (h ▸ hfr _ (.tail _ (.tail _ (.tail _ r1))))
        · exact Nat.lt_irrefl _ (h ▸ hfr _ (.tail _ (.tail _ (.tail _ r3))))
        · exact Nat.lt_irrefl _ (h ▸ hfr _ (.tail _ (.tail _ (.head _))))
    refine dict_led F8 N9 (tab7.sub fun p h => .tail _ (.tail _ h)) (.tail _ (.tail _ p1)) p2 (by omega) ?_
    intro h9 o9 Λ9 tk9 F9 N10 tab9 K9 m9 d9 keep9
    have mc9 := keep9 _ (.tail _ (.head _)) (Ne.symm nPc)
    have q9 := keep9 _ (.tail _ (.tail _ p3)) (Ne.symm nPB)
    have mm9 := keep9 _ (.tail _ (.tail _ mm7)) nMP
    have ml9 := keep9 _ (.tail _ (.tail _ ml7)) (Ne.symm nPl)
    have N11 := news_dup N10 mc9
    clear N9 N10
    k_steps
    refine hold_out ?_
    rename Fr _ _ _ _ => F12; rename News _ _ _ _ => N12
    refine dict_led F12 N12 (tab9.sub fun p h => .tail _ h) (.tail _ q9) p4 (by omega) ?_
    intro h13 o13 Λ13 tk13 F13 N13 tab13 K13 m13 d13 keep13
    have m14 := keep13 _ (.tail _ m9) nPB
    have mc14 := keep13 _ (.tail _ mc9) (Ne.symm nBc)
    have mm14 := keep13 _ (.tail _ mm9) nMB
    have ml14 := keep13 _ (.tail _ ml9) (Ne.symm nBl)
    have N14 := news_dup N13 mm14
    clear N12 N13
    k_steps
    rename Fr _ _ _ _ => F15; rename News _ _ _ _ => N15
    obtain ⟨hi4, hL, hidx, hnin⟩ := letter_at hc
    have hcs : csL x ⟨#[c]⟩ = cntTo x i := by unfold csL; rw [hidx]
    have hcn := cnt_succ x hL
    refine TurnEndK.next F15 (news_sub N15 fun p h => .tail _ h) tab13 (fun q hq hn hm => ?_) ⟨rfl, rfl, by rw [hcn]; exact ⟨_, rfl⟩, rfl, ml14, ⟨o3, _, mc14, d3⟩, o9, o13, stored kp (⟨#[c]⟩ : Str) (.ref pg), stored kb (⟨#[c]⟩ : Str) (.int (cntTo x i) tc), m14, d9, m13, d13, ?_, ?_, ?_⟩
    · simp only [List.mem_cons, List.not_mem_nil, or_false, not_or] at hm
      exact keep13 _ (.tail _ (keep9 _ (.tail _ (.tail _ (S7.keep _ (.tail _ (.tail _ (.tail _ (keep3 q hq hm.2.2)))) hn))) hm.1)) hm.2.1
    · have := stored_length_le kp (⟨#[c]⟩ : Str) (.ref pg)
      rw [List.length_take, show L4.length = 4 from rfl] at p5 ⊢
      omega
    · have := stored_length_le kb (⟨#[c]⟩ : Str) (.int (cntTo x i) tc)
      rw [List.length_take, show L4.length = 4 from rfl] at p6 ⊢
      omega
    · intro l hl
      rw [List.take_add_one, hL] at hl
      rcases List.mem_append.mp hl with hl | hl
      · have hne : l ≠ ⟨#[c]⟩ := fun e => hnin (e ▸ hl)
        obtain ⟨pg', tc', e1, e2, Λq, e3, e4⟩ := p7 l hl
        refine ⟨pg', tc', by rw [at_stored, if_neg hne]; exact e1, by rw [at_stored, if_neg hne]; exact e2, Λq, fun q hq => ?_, e4⟩
        obtain ⟨b1, b2, b3, b4⟩ := e3 q hq
        have b4' := b4
        simp only [List.mem_cons, List.not_mem_nil, or_false, not_or] at b4'
        exact ⟨keep13 _ (.tail _ (keep9 _ (.tail _ (.tail _ b1)) b4'.1)) b4'.2.1, b2, b3, b4⟩
      · have hl' : l = ⟨#[c]⟩ := by simpa using hl
        subst hl'
        refine ⟨pg, tc, by rw [at_stored, if_pos rfl], by rw [at_stored, if_pos rfl, hcs], Λp, fun q hq => ?_, hp2 x⟩
        obtain ⟨b1, b2, b3, b4⟩ := hp1 q hq
        have b4' := notM q hq
        have b5 := b4'
        simp only [List.mem_cons, List.not_mem_nil, or_false, not_or] at b4'
        exact ⟨keep13 _ (.tail _ (keep9 _ (.tail _ (.tail _ b1)) b4'.1)) b4'.2.1, b2, b3, b5⟩
  · intro m' Λ' h' tk F3 N3 T3 K3 ⟨a1, a2, ⟨tc, a3⟩, a4, a5, ⟨oc, v0, a6, a7⟩, a8⟩
    refine wpAny_execs_nil ?_
    dsimp only
    refine hold_out ?_
    refine Box.out ?_
    refine told_rest w p loose mean mg mb rfl dp un gd L 66 _ _ outer A₀ base g m' Λ' { s with heap := h', toks := tk } E ⟨B, F3, X, N3, T, hC, T3, by omega, by omega⟩ s Λ ⟨_, _, rfl⟩ (fun q hq hn => ?_) Pa Ba x y tx ty hx hI hy hlo hhi nPc nBc nPB a1 a2 a4 rfl o2 d2 a5 oc v0 a7 a6 a8
    have hql := hlt q hq
    have nq : q.1 ≠ L + 1 + 1 := Nat.ne_of_lt (Nat.lt_succ_of_lt (Nat.lt_succ_of_lt hql))
    exact ⟨K3 q (in1 q hq) hn (by simpa using ⟨(nold q hq).1, (nold q hq).2, nq⟩), nq⟩
end Mine
namespace Mine
open PySem PySem.Calls PySem.W PyProof.Rows PySem.Flt PySem.Builtin PySem.Builtin.ObjectAttr
def CutQ (Mid : Shared → Prop) (f : Flow) (s' : Shared) : Prop := f = .next ∧ Mid s'
/-- statements cut at what holds behind the first ones -/
theorem execs_cut {M : Model} {A : Around} {E : Value → Shared → Prop} {env : Env} {Q : Flow → Shared → Prop} (n : Nat) (Mid : Shared → Prop) {l : List Stmt} {s : Shared}
    (h : wpAny M A (execs (l.take n) env) (CutQ Mid) E s) (k : ∀ s', Mid s' → wpAny M A (execs (l.drop n) env) Q E s') : wpAny M A (execs l env) Q E s := by
  refine execs_take n (wpAny_mono h (fun f s' z => ?_) fun _ _ z => z)
  obtain ⟨rfl, z⟩ := z
  exact hold_out (k s' z)
structure AtL (w : World) (p : Program) (loose : List Str) (mean : ExcName → Option Value) (mg mb : Str → Option Value) (dp un : Nat) (L : Addr) (outer : List Env) (A₀ : Around) (base g : Heap) (h : Heap) (m : Str → Option Value) (Λ : Ldg) : Prop where
  B : Below A₀ base outer g
  F : Fr g L h m
  X : (Mine.hd.heap_39 w.params).In g
  N : News g L h Λ
  T : Top p loose mean mg mb g
  hC : ∀ q ∈ (G2 w p loose mean mg mb).tabs, CodeHd base q.1 q.2
  tab : TabOk (G2 w p loose mean mg mb).sp Λ
  hd : dp + 100 < recursionLimit
  hu : un + 400 < cLine
def Fini (sp : List (Addr × Str)) (g : Heap) (L : Addr) (gs : Array GenState) (os : OsState) (fl : Flow) (s' : Shared) : Prop :=
  fl = .ret (.bool true) ∧ s'.gens = gs ∧ s'.os = os ∧ ∃ m' Λ', Fr g L s'.heap m' ∧ News g L s'.heap Λ' ∧ TabOk sp Λ'
/-- the piece cut out -/
def placeF (line : Str) (n : Int) : Int := (n.fdiv 3).fmod (if (line.length : Int) > 1 then (line.length : Int) else 1)
def cutF (line : Str) (n : Int) : Str := Txt.slice (line ++ line) (some (placeF line n)) (some (placeF line n + 1 + (n.fdiv 27).fmod 3))
def PieceIs (line : Str) (n : Int) (piece : Str) : Prop := (piece = cutF line n ∧ (piece.length : Int) ≠ 0) ∨ piece = Str.ofString "a"
def GivenIs (piece given : Str) : Prop := given = Str.ofString "" ∨ (∃ t, given = Txt.sliceBy piece none none (-1, t)) ∨ given = Str.ofString "c" ∨ given = Txt.mul (Txt.item piece (-1)) (piece.length : Int) ∨ (piece = Str.ofString "a" ∧ given = Str.ofString "a")
theorem four_at {a b c d : Str} {t1 t2 t3 t4 : Tok} (k : Int) (h0 : 0 ≤ k) (h4 : k < 4) : ∃ g t, [Value.str a t1, .str b t2, .str c t3, .str d t4][k.toNat]? = some (.str g t) ∧ (g = a ∨ g = b ∨ g = c ∨ g = d) := by
  obtain ⟨m, rfl⟩ := Int.eq_ofNat_of_zero_le h0
  rw [Int.toNat_natCast]
  match m, h4 with
  | 0, _ => exact ⟨a, t1, rfl, .inl rfl⟩
  | 1, _ => exact ⟨b, t2, rfl, .inr (.inl rfl)⟩
  | 2, _ => exact ⟨c, t3, rfl, .inr (.inr (.inl rfl))⟩
  | 3, _ => exact ⟨d, t4, rfl, .inr (.inr (.inr rfl))⟩
  | m + 4, h => exact absurd h (by omega)
theorem pairs0_of {h₀ h : Heap} {L t a : Addr} {tu : Obj} {m : Str → Option Value} {Λ : Ldg} (N : News h₀ L h ((t, tu) :: (a, listObj [] 0) :: Λ)) (_ : Fr h₀ L h m) (l : ∀ p ∈ Λ, p.1 < a) (e : m "pairs" = some (.ref a)) :
    ∃ P Λ1, m "pairs" = some (.ref P) ∧ News h₀ L h Λ1 ∧ (∀ p ∈ Λ, p ∈ Λ1 ∧ p.1 ≠ P) ∧ (P, listObj [] 0) ∈ Λ1 :=
  ⟨a, _, e, N, fun p hp => ⟨.tail _ (.tail _ hp), Nat.ne_of_lt (l p hp)⟩, .tail _ (.head _)⟩
end Mine
namespace Mine
open PySem PySem.Calls PySem.W PyProof.Rows PySem.Flt PySem.Builtin PySem.Builtin.ObjectAttr
section
variable {prog : Program} {w : World} {A : Around} {E : Value → Shared → Prop} {s : Shared} {h₀ : Heap} {sp : List (Addr × Str)} {L D : Addr} {m : Str → Option Value} {Λ : Ldg}
/-- xs += ys, two lists of the ledger -/
theorem iadd_led {l : Addr} {ys zs : List Value} {n k : Nat} {Q : Value → Shared → Prop} (F : Fr h₀ L s.heap m) (N : News h₀ L s.heap Λ) (T : TabOk sp Λ) (hD : (D, listObj ys n) ∈ Λ) (hl : (l, listObj zs k) ∈ Λ) (hsz : ys.length + zs.length ≤ 1000)
    (h : ∀ h' Λ' n', Fr h₀ L h' m → News h₀ L h' Λ' → TabOk sp Λ' → Keep [D] Λ Λ' → (D, listObj (ys ++ zs) n') ∈ Λ' → Q (.ref D) { s with heap := h' }) :
    wpAny (model prog w) A (inplaceOp .Add (.ref D) (.ref l)) Q E s := by
  obtain ⟨N1, U, kk⟩ := led_first N hD
  have z := N _ hD
  have zl := N _ hl
  have ha : s.TypeIs (.ref D) "list" := ⟨_, z.1, rfl⟩
  have hb : s.TypeIs (.ref l) "list" := ⟨_, zl.1, rfl⟩
  have hfi : fillsInplaceSlot (.type "list") "add" (Operator.Add == .Add) = pure false := by
    unfold fillsInplaceSlot
    show (typeLookup (.type "list") (dunderI "add") >>= fun fi => pure (fi.isSome && !isSeqSlot fi)) = pure false
    rw [PySem.F.slot_list_iadd.lookup]; rfl
  have hfill : fillsNumberSlot (.type "list") "add" = pure false := by
    first | exact fills_list_add | (unfold fillsNumberSlot; kernel_rfl)
  have hsi : seqSlot? (.type "list") (dunderI "add") = pure (some (.builtin "list.__iadd__")) := by
    unfold seqSlot?
    rw [PySem.F.slot_list_iadd.lookup]; rfl
  unfold inplaceOp
  refine wpAny_holding ?_
  refine wpAny_bind (wpAny_typeOf ha (wpAny_bind (wpAny_of_eq hfi ?_)))
  show wpAny _ A (if false = true then _ else _) Q E s
  rw [if_neg Bool.false_ne_true]
  refine wpAny_bind (wpAny_binaryOp1_none (nm := "add") ha hb hfill ?_)
  refine wpAny_bind (wpAny_of_eq hsi ?_)
  refine wpAny_bind (wpAny_rule ?_)
  refine wpAny_call_entry PySem.F.slot_list_iadd ha entry_list_iadd' ?_ (PySem.F.args_list_iadd_2 _ _)
  unfold Builtin.«list.__iadd__»
  show wpAny _ _ (Builtin.List.listExtendWith (.ref D) (.ref l) (.ref D)) _ _ s
  unfold Builtin.List.listExtendWith
  refine wpAny_bind (wpAny_typeOf hb ?_)
  have ht : (Value.type "list" == Value.type "list") = true := by rfl
  rw [if_pos (by rw [ht]; simp)]
  refine wpAny_bind (listItems_at zl.1 rfl ?_)
  refine wpAny_bind (listItems_at z.1 rfl ?_)
  rw [if_neg (by simp [Builtin.List.listTooLong]; intro _; rw [sizeLine_eq]; omega)]
  refine wpAny_bind (listUpdate_at z.1 rfl ?_ (by rw [sizeLine_eq]; simp; omega) (by rw [sizeLine_eq]; simp; omega))
  refine wpAny_pure ?_
  refine ⟨_, rfl, ?_⟩
  have sb := Heap.SameBut.update s.heap D (Obj.mapSeq (· ++ zs.toArray))
  obtain ⟨n', hz⟩ : ∃ n', (s.heap.update D (Obj.mapSeq (· ++ zs.toArray))).get? D = some (listObj (ys ++ zs) n') := by
    obtain ⟨c, hc⟩ : ∃ c, (s.heap.update D (Obj.mapSeq (· ++ zs.toArray))).get? D = some (seqObj "list" (ys.toArray ++ zs.toArray) c) := ⟨_, get?_update_seq z.1 (· ++ zs.toArray)⟩
    exact ⟨c, by rw [hc]; simp [seqObj]⟩
  refine h _ ((D, listObj (ys ++ zs) n') :: Λ.filter fun p => p.1 != D) n' (F.change sb z.2.1 z.2.2) (fun p hp => ?_) (T.off N hD (by nofun) (by nofun) (kk _)) (fun p hp _ hn => kk _ p hp (by simpa using hn)) (.head _)
  rcases List.mem_cons.mp hp with rfl | hp
  · exact ⟨hz, z.2⟩
  · have hp' := List.mem_filter.mp hp
    have q := N p hp'.1
    exact ⟨sb.extBut _ _ (by simpa using hp'.2) q.1, q.2⟩
end
end Mine
namespace Mine
open PySem PySem.Calls PySem.W PyProof.Rows PySem.Flt PySem.Builtin PySem.Builtin.ObjectAttr
theorem offPA2 : True := by w_top off; trivial
theorem fillPA : PySem.Challenge.rw_ph0008_02.prog = PySem.Challenge.rw_ph0008_02.prog ∧ Mine.hd.heap_39 = Mine.hd.heap_39 := by k_fill; exact ⟨rfl, rfl⟩
theorem flat_snoc {pvs : List Value} {qs : List (Str × Str)} {a b : Str} {t1 t2 : Tok} (h : FlatOf pvs qs) : FlatOf (pvs ++ [.str a t1, .str b t2]) (qs ++ [(a, b)]) := by
  induction h with
  | nil => exact .cons .nil
  | cons _ ih => exact .cons ih
theorem flat_len {pvs : List Value} {qs : List (Str × Str)} (h : FlatOf pvs qs) : pvs.length = 2 * qs.length := by
  induction h with
  | nil => rfl
  | cons _ ih => simp [ih]; omega
theorem turn_pairs (w p loose mean mg mb) {oc od osl name qual params body scope dV kV doc pm an cdv0 ct} (ho : (Mine.hd.heap_39 w.params).lookup 78 = some ⟨oc, od, .func (fnOf name qual params body scope dV kV doc pm an cdv0 ct), osl⟩)
    {tg it tb ps} (hb : body[5]? = some (.For tg it tb [] ps))
    (dp un : Nat) (gd : Option (List Code)) (L fa : Addr) (cd : Value) (cl : List (Str × Addr)) (outer : List Env) (A₀ : Around) (base g : Heap) (m : Str → Option Value) (Λ : Ldg) (s : Shared) (E : Value → Shared → Prop) (Q : Flow → Shared → Prop)
    (at0 : AtL w p loose mean mg mb dp un L outer A₀ base g s.heap m Λ)
    (whole piece given further : Str) (tw t1 t2 t3 : Tok) (P : Addr) (pvs : List Value) (pn : Nat) (qs : List (Str × Str))
    (h1 : m "whole" = some (.str whole tw)) (h2 : m "pairs" = some (.ref P)) (h3 : m "further" = some (.str further t3)) (h4 : m "piece" = some (.str piece t1)) (h5 : m "given" = some (.str given t2))
    (hP : (P, listObj pvs pn) ∈ Λ) (hF : FlatOf pvs qs) (hqs : qs.length ≤ 10)
    (hQ : ∀ m' Λ' h' tk t pn' pvs', Fr g L h' m' → News g L h' Λ' → TabOk (G2 w p loose mean mg mb).sp Λ' → Keep [P] Λ Λ' → m' "whole" = some (.str whole tw) → m' "pairs" = some (.ref P) → m' "line" = some (.str further t) → (P, listObj pvs' pn') ∈ Λ' → FlatOf pvs' (qs ++ [(piece, given)]) → Q .next { s with heap := h', toks := tk }) :
    Box (wpAny (model PySem.Challenge.rw_ph0008_02.prog w) (ktrTop dp un gd "law" scope L fa cd cl outer) (execs (tb.drop 6) (envX "law" scope L fa cd cl)) Q E s) := by
  refine ⟨?_⟩
  rw [show (Mine.hd.heap_39 w.params).lookup 78 = some ⟨_, _, .func (fnOf _ _ _ _ _ _ _ _ _ _ _ _), _⟩ from rfl] at ho
  cases ho
  cases hb
  obtain ⟨B, F, X, N, T, hC, tab, hd, hu⟩ := at0
  replace F := fr_says [("whole", .str whole tw), ("pairs", .ref P), ("further", .str further t3), ("piece", .str piece t1), ("given", .str given t2)] F (by simp [h1, h2, h3, h4, h5])
  dsimp only [List.drop]
  k_steps
  refine wpAny_loadName_local (v := .ref P) rfl rfl F.ns rfl ?_
  k_steps
  rename Fr _ _ _ _ => F1; rename News _ _ _ _ => N1
  have hlen := flat_len hF
  refine iadd_led (ys := pvs) (zs := [.str piece t1, .str given t2]) (k := 0) F1 N1 (tab.sub fun p h => .tail _ h) (.tail _ hP) (.head _) (by simp; omega) ?_
  intro h2 Λ2 n2 F2 N2 T2 K2 m2
  refine storeX_L F2 N2 (fun h6 F6 N6 => ?_)
  k_steps
  exact hQ _ Λ2 _ _ t3 n2 _ (by assumption) (by assumption) T2 (fun p hp hn hm => K2 p (.tail _ hp) hn hm) rfl rfl rfl m2 (flat_snoc hF)
end Mine
namespace Mine
open PySem PySem.Calls PySem.W PyProof.Rows PySem.Flt PySem.Builtin PySem.Builtin.ObjectAttr
theorem offLH2 : True := by w_top off; trivial
theorem fillLH : PySem.Challenge.rw_ph0008_02.prog = PySem.Challenge.rw_ph0008_02.prog ∧ Mine.hd.heap_39 = Mine.hd.heap_39 := by k_fill; exact ⟨rfl, rfl⟩
local macro_rules | `(tactic| walk_at "subscriptTail") => `(tactic| ((with_reducible show wpAny _ _ (subscriptTail _ _ (Value.ref _) (Value.int _ _)) _ _ _); refine hold_in ?_))
local macro_rules | `(tactic| walk_at "exec For") => `(tactic| refine hold_in ?_)
local macro_rules | `(tactic| walk_at "call ref") => `(tactic| refine hold_in ?_)
/-- what is to be known of a line, a piece and what is given for it -/
structure TurnOk (good : Str → Prop) (cur piece given : Str) : Prop where
  len : cur.length ≤ 9
  p0 : 0 < piece.length
  p9 : piece.length ≤ 9
  g9 : given.length ≤ 9
  rep : RepOk cur [(piece, given)]
  next : good (repl1 cur (piece, given))
  letters : ∀ c ∈ piece.cps.toList, c < 128 ∧ (⟨#[c]⟩ : Str) ∈ L4
  told : ∀ sa, IsSA cur sa → (lastOfSA cur sa).length = cur.length + 1 ∧ InvOk (lastOfSA cur sa) ∧ 0 ≤ lowGo (lastOfSA cur sa) 0 piece.cps.toList.reverse ∧ 0 ≤ lowGo (lastOfSA cur sa) (lastOfSA cur sa).length piece.cps.toList.reverse ∧
    (invGo (lastOfSA cur sa) (lastOfSA cur sa).length).1 = cur ∧ ∀ ns : List Int, ns.Perm (((invGo (lastOfSA cur sa) (lastOfSA cur sa).length).2.2.drop (lowGo (lastOfSA cur sa) 0 piece.cps.toList.reverse).toNat).take (min (lowGo (lastOfSA cur sa) (lastOfSA cur sa).length piece.cps.toList.reverse).toNat (invGo (lastOfSA cur sa) (lastOfSA cur sa).length).2.2.length - (lowGo (lastOfSA cur sa) 0 piece.cps.toList.reverse).toNat)) → ns.Pairwise (· ≤ ·) →
      ns.length ≤ 1000 ∧ Goes (fun j => nxM ns piece.length j) cur.length ∧ pcGo cur given (fun j => nxM ns piece.length j) (cur.length + 1) (Str.ofString "") cur.length cur.length = repl1 cur (piece, given)
theorem turn_tail (w p loose mean mg mb) {oc od osl name qual params body scope dV kV doc pm an cdv0 ct} (ho : (Mine.hd.heap_39 w.params).lookup 78 = some ⟨oc, od, .func (fnOf name qual params body scope dV kV doc pm an cdv0 ct), osl⟩)
    {tg it tb ps} (hb : body[5]? = some (.For tg it tb [] ps))
    (dp un : Nat) (gd : Option (List Code)) (L fa : Addr) (cd : Value) (cl : List (Str × Addr)) (outer : List Env) (A₀ : Around) (base g : Heap) (m : Str → Option Value) (Λ : Ldg) (s : Shared) (E : Value → Shared → Prop) (Q : Flow → Shared → Prop)
    (at0 : AtL w p loose mean mg mb dp un L outer A₀ base g s.heap m Λ)
    (good : Str → Prop) (whole cur piece given : Str) (tw tc t1 t2 : Tok) (P : Addr) (pvs : List Value) (pn : Nat) (qs : List (Str × Str))
    (h1 : m "whole" = some (.str whole tw)) (h2 : m "pairs" = some (.ref P)) (h3 : m "line" = some (.str cur tc)) (h4 : m "piece" = some (.str piece t1)) (h5 : m "given" = some (.str given t2))
    (hP : (P, listObj pvs pn) ∈ Λ) (hF : FlatOf pvs qs) (hqs : qs.length ≤ 10) (ok : TurnOk good cur piece given)
    (hQ : ∀ m' Λ' h' tk t pn' pvs', Fr g L h' m' → News g L h' Λ' → TabOk (G2 w p loose mean mg mb).sp Λ' → Keep [P] Λ Λ' → m' "whole" = some (.str whole tw) → m' "pairs" = some (.ref P) → m' "line" = some (.str (repl1 cur (piece, given)) t) → (P, listObj pvs' pn') ∈ Λ' → FlatOf pvs' (qs ++ [(piece, given)]) → Q .next { s with heap := h', toks := tk }) :
    Box (wpAny (model PySem.Challenge.rw_ph0008_02.prog w) (ktrTop dp un gd "law" scope L fa cd cl outer) (execs (tb.drop 3) (envX "law" scope L fa cd cl)) Q E s) := by
  refine ⟨?_⟩
  rw [show (Mine.hd.heap_39 w.params).lookup 78 = some ⟨_, _, .func (fnOf _ _ _ _ _ _ _ _ _ _ _ _), _⟩ from rfl] at ho
  cases ho
  cases hb
  obtain ⟨B, F, X, N, T, hC, tab, hd, hu⟩ := at0
  replace F := fr_says [("whole", .str whole tw), ("pairs", .ref P), ("line", .str cur tc), ("piece", .str piece t1), ("given", .str given t2)] F (by simp [h1, h2, h3, h4, h5])
  obtain ⟨k1, k2, k3, k4, k5, k6, k7, k8⟩ := ok
  dsimp only [List.drop]
  refine execs_take 3 ?_
  dsimp only [List.take, List.drop]
  k_steps
  rename Fr _ _ _ _ => F1; rename News _ _ _ _ => N1
  refine hold_out ?_
  refine law_last_letters w p loose mean mg mb cur _ (by omega) _ _ _ _ _ _ _ _ _ _ ⟨⟨gd, _, _, _, _, _, outer, A₀, base, rfl, B, rfl, hC⟩, F1, X, N1, T, tab⟩ trivial (by omega) (by omega) ?_
  rintro v2 Λ2 h2' tk2 c2 S2 ⟨sa, t, hsa, rfl⟩
  obtain ⟨e1, e2, e3, e4, e5, e6⟩ := k8 sa hsa
  have F2 := c2.F
  have N2 := c2.N
  have tab2 := c2.tab
  clear c2 F1 N1
  k_steps
  rename Fr _ _ _ _ => F3; rename News _ _ _ _ => N3
  refine hold_out ?_
  refine law_told w p loose mean mg mb (lastOfSA cur sa) piece _ _ ⟨by omega, by omega⟩ e2 ⟨by omega, k7⟩ e3 e4 _ _ _ _ _ _ _ _ _ _ ⟨⟨gd, _, _, _, _, _, outer, A₀, base, rfl, B, rfl, hC⟩, F3, X, N3, T, tab2⟩ trivial (by omega) (by omega) ?_
  rintro v4 Λ4 h4' tk4 c4 S4 ⟨Tt, tt, lm, ms, rfl, hTt, hms, hperm, hpw⟩
  obtain ⟨f1, f2, f3⟩ := e6 ms hperm hpw
  rw [e5] at hTt
  have F4 := c4.F
  have N4 := news_dup c4.N hTt
  have tab4 := c4.tab
  clear c4 F3 N3
  have hP4 := S4 _ (S2.keep _ hP (.of_cls (by nofun))) (.of_cls (by nofun))
  k_steps
  rename Fr _ _ _ _ => F5; rename News _ _ _ _ => N5
  refine hold_out ?_
  refine (law_replace w p loose mean mg mb cur tc).1 _ _ _ _ k5 _ _ _ _ _ _ _ _ _ _ ⟨⟨gd, _, _, _, _, _, outer, A₀, base, rfl, B, rfl, hC⟩, F5, X, N5, T, tab4.sub fun p h => .tail _ h⟩ trivial (by omega) (by omega) ?_
  rintro v6 Λ6 h6 tk6 c6 S6 ⟨t9, rfl⟩
  have F6 := c6.F
  have N6 := c6.N
  have tab6 := c6.tab
  clear c6 F5 N5
  have hP6 := S6.keep _ (.tail _ hP4) (.of_cls (by nofun))
  have hms6 := hms.mono fun q hq hn => S6.keep q (.tail _ hq) hn
  k_steps
  · rename (_ = true) => hb
    simp at hb
  rename Fr _ _ _ _ => F7; rename News _ _ _ _ => N7
  refine hold_out ?_
  refine law_pieces w p loose mean mg mb cur given _ _ lm ms (piece.length : Int) _ f1 f2 (by omega) (by omega) _ _ _ _ _ _ _ _ _ _ ⟨⟨gd, _, _, _, _, _, outer, A₀, base, rfl, B, rfl, hC⟩, F7, X, N7, T, tab6⟩ hms6 (by omega) (by omega) ?_
  rintro v8 Λ8 h8 tk8 c8 S8 ⟨t10, rfl⟩
  have F8 := c8.F
  have N8 := c8.N
  have tab8 := c8.tab
  clear c8 F7 N7
  rw [f3]
  have hP8 := S8.keep _ hP6 (.of_cls (by nofun))
  have Kp : Keep [P] Λ Λ8 := fun p hp hn hm => S8.keep p (S6.keep p (.tail _ (S4 _ (S2.keep p hp hn) hn)) hn) hn
  replace F8 := fr_says [("whole", .str whole tw), ("pairs", .ref P), ("piece", .str piece t1), ("given", .str given t2), ("further", .str (repl1 cur (piece, given)) t9)] F8 (by simp only [List.mem_cons, List.not_mem_nil, or_false, forall_eq_or_imp, forall_eq]; exact ⟨rfl, rfl, rfl, rfl, rfl⟩)
  k_steps
  · rename (_ = true) => hb
    simp at hb
  dsimp only
  refine hold_out ?_
  refine (turn_pairs w p loose mean mg mb rfl rfl dp un gd L fa cd cl outer A₀ base g _ Λ8 _ _ _ ⟨B, by assumption, X, by assumption, T, hC, tab8, hd, hu⟩ whole piece given _ tw t1 t2 t9 P pvs pn qs rfl rfl rfl rfl rfl hP8 hF hqs ?_).out
  intro m' Λ' h' tk t pn' pvs' F' N' T' K' m1 m2 m3 m4 f
  exact hQ m' Λ' h' tk t pn' pvs' F' N' T' (Kp.trans K') m1 m2 m3 m4 f
end Mine
namespace Mine
open PySem PySem.Calls PySem.W PyProof.Rows PySem.Flt PySem.Builtin PySem.Builtin.ObjectAttr
theorem offDN2 : True := by w_top off; trivial
theorem fillDN : PySem.Challenge.rw_ph0008_02.prog = PySem.Challenge.rw_ph0008_02.prog ∧ Mine.hd.heap_39 = Mine.hd.heap_39 := by k_fill; exact ⟨rfl, rfl⟩
local macro_rules | `(tactic| walk_at "call ref") => `(tactic| refine hold_in ?_)
theorem law_done (w p loose mean mg mb) {oc od osl name qual params body scope dV kV doc pm an cdv0 ct} (ho : (Mine.hd.heap_39 w.params).lookup 78 = some ⟨oc, od, .func (fnOf name qual params body scope dV kV doc pm an cdv0 ct), osl⟩)
    (dp un : Nat) (gd : Option (List Code)) (L fa : Addr) (cd : Value) (cl : List (Str × Addr)) (outer : List Env) (A₀ : Around) (base g : Heap) (m : Str → Option Value) (Λ : Ldg) (s : Shared) (E : Value → Shared → Prop)
    (at0 : AtL w p loose mean mg mb dp un L outer A₀ base g s.heap m Λ)
    (whole cur : Str) (tw tc : Tok) (P : Addr) (pvs : List Value) (pn : Nat) (qs : List (Str × Str))
    (h1 : m "whole" = some (.str whole tw)) (h2 : m "pairs" = some (.ref P)) (h3 : m "line" = some (.str cur tc))
    (hP : (P, listObj pvs pn) ∈ Λ) (hF : FlatOf pvs qs) (hqs : qs.length = 3) (hR : RepOk whole qs) (hE : qs.foldl repl1 whole = cur) :
    Box (wpAny (model PySem.Challenge.rw_ph0008_02.prog w) (ktrTop dp un gd "law" scope L fa cd cl outer) (execs (body.drop 6) (envX "law" scope L fa cd cl)) (Fini (G2 w p loose mean mg mb).sp g L s.gens s.os) E s) := by
  refine ⟨?_⟩
  rw [show (Mine.hd.heap_39 w.params).lookup 78 = some ⟨_, _, .func (fnOf _ _ _ _ _ _ _ _ _ _ _ _), _⟩ from rfl] at ho
  cases ho
  obtain ⟨B, F, X, N, T, hC, tab, hd, hu⟩ := at0
  obtain ⟨q1, q2, q3, rfl⟩ : ∃ q1 q2 q3, qs = [q1, q2, q3] := by
    match qs, hqs with
    | [q1, q2, q3], _ => exact ⟨q1, q2, q3, rfl⟩
  cases hF with
  | @cons y z ty tz vs1 _ hF =>
  cases hF with
  | @cons y₁ z₁ ty₁ tz₁ vs2 _ hF =>
  cases hF with
  | @cons y₂ z₂ ty₂ tz₂ vs3 _ hF =>
  cases hF
  replace F := fr_says [("whole", .str whole tw), ("pairs", .ref P), ("line", .str cur tc)] F (by simp [h1, h2, h3])
  have N1 := news_dup N hP
  clear N
  dsimp only [List.drop]
  k_steps
  rename Fr _ _ _ _ => F3; rename News _ _ _ _ => N3
  refine hold_out ?_
  refine (law_replace w p loose mean mg mb whole tw).2 _ _ _ _ _ _ _ _ _ _ _ _ hR _ _ _ _ _ _ _ _ _ _ ⟨⟨gd, _, _, _, _, _, outer, A₀, base, rfl, B, rfl, hC⟩, F3, X, N3, T, tab.sub fun p h => .tail _ h⟩ trivial (by omega) (by omega) ?_
  rintro v4 Λ4 h4 tk4 c4 S4 ⟨t9, rfl⟩
  have F4 := c4.F
  have N4 := c4.N
  have tab4 := c4.tab
  clear c4 F3 N3
  rw [hE]
  k_steps
  exact ⟨by simp, rfl, rfl, _, Λ4, F4, N4, tab4⟩
end Mine
namespace Mine
open PySem PySem.Calls PySem.W PyProof.Rows PySem.Flt PySem.Builtin PySem.Builtin.ObjectAttr
theorem offLA2 : True := by w_top off; trivial
theorem fillLA : PySem.Challenge.rw_ph0008_02.prog = PySem.Challenge.rw_ph0008_02.prog ∧ Mine.hd.heap_39 = Mine.hd.heap_39 := by k_fill; exact ⟨rfl, rfl⟩
local macro_rules | `(tactic| walk_at "subscriptTail") => `(tactic| ((with_reducible show wpAny _ _ (subscriptTail _ _ (Value.ref _) (Value.int _ _)) _ _ _); refine hold_in ?_))
local macro_rules | `(tactic| walk_at "exec For") => `(tactic| refine hold_in ?_)
local macro_rules | `(tactic| walk_at "call ref") => `(tactic| refine hold_in ?_)
/-- what is to be known of the lines, plainly -/
structure Facts2 (good : Str → Prop) : Prop where
  g9 : ∀ x, good x → x.length ≤ 9
  gw : ∀ ns : List Int, ns.length = 9 → good (Txt.join (Str.ofString "") (ns.map fun a => Txt.item (Str.ofString "abc") (a.fmod 3)))
  turn : ∀ cur n piece given, good cur → PieceIs cur n piece → GivenIs piece given → TurnOk good cur piece given
theorem rep_snoc : ∀ {qs : List (Str × Str)} {x : Str} {q : Str × Str}, RepOk x qs → RepOk (qs.foldl repl1 x) [q] → RepOk x (qs ++ [q])
  | [], _, _, _, h => h
  | _ :: _, _, _, ⟨a, b, c, d, e⟩, h => ⟨a, b, c, d, rep_snoc e h⟩
theorem ne_all2 {h₀ h : Heap} {L D : Addr} {Λ : Ldg} {x y q : Addr × Obj} (_ : News h₀ L h (x :: y :: Λ)) (l : D < x.1 ∧ AllLt x.1 Λ) (hq : q ∈ Λ) : x.1 ≠ q.1 := Nat.ne_of_gt (allLt_mem _ _ l.2 q hq)
theorem law_loop (w p loose mean mg mb) {oc od osl name qual params body scope dV kV doc pm an cdv0 ct} (ho : (Mine.hd.heap_39 w.params).lookup 78 = some ⟨oc, od, .func (fnOf name qual params body scope dV kV doc pm an cdv0 ct), osl⟩)
    (dp un : Nat) (gd : Option (List Code)) (L fa : Addr) (cd : Value) (cl : List (Str × Addr)) (outer : List Env) (A₀ : Around) (base g : Heap) (m : Str → Option Value) (Λ : Ldg) (s : Shared) (E : Value → Shared → Prop)
    (at0 : AtL w p loose mean mg mb dp un L outer A₀ base g s.heap m Λ)
    (D : Addr) (ys : List Value) (ns : List Int) (hD : (D, LCg.lst ys) ∈ Λ) (hm : m "numbers" = some (.ref D)) (hI : IntsAre ys ns) (hn : ns.length = 9)
    (whole : Str) (tw : Tok) (hmw : m "whole" = some (.str whole tw)) (good : Str → Prop) (FA : Facts2 good) (hgw : good whole) :
    Box (wpAny (model PySem.Challenge.rw_ph0008_02.prog w) (ktrTop dp un gd "law" scope L fa cd cl outer) (execs (body.drop 4) (envX "law" scope L fa cd cl)) (Fini (G2 w p loose mean mg mb).sp g L s.gens s.os) E s) := by
  refine ⟨?_⟩
  rw [show (Mine.hd.heap_39 w.params).lookup 78 = some ⟨_, _, .func (fnOf _ _ _ _ _ _ _ _ _ _ _ _), _⟩ from rfl] at ho
  cases ho
  have hg9 := FA.g9
  obtain ⟨B, F, X, N, T, hC, tab, hd, hu⟩ := at0
  replace F := fr_says [("numbers", .ref D), ("whole", .str whole tw)] F (by simp [hm, hmw])
  dsimp only [List.drop]
  refine execs_take 1 ?_
  dsimp only [List.take, List.drop]
  k_steps
  dsimp only
  refine hold_out ?_
  rename Fr _ _ _ _ => F1; rename News _ _ _ _ => N1
  obtain ⟨P, Λ1, eP, N2, in2, mP⟩ := pairs0_of N1 F1 (by assumption) rfl
  have tab2 := tab.sub fun p h => (in2 p h).1
  have N3 := news_dup N2 (in2 _ hD).1
  clear N1 N2
  replace F1 := fr_says [("numbers", .ref D), ("whole", .str whole tw), ("line", .str whole tw), ("pairs", .ref P)] F1 (by simp only [List.mem_cons, List.not_mem_nil, or_false, forall_eq_or_imp, forall_eq]; exact ⟨rfl, rfl, rfl, eP⟩)
  refine execs_take 1 ?_
  dsimp only [List.take, List.drop]
  refine wpAny_execs_cons ?_
  refine wpAny_For ?_
  k_steps
  rename Fr _ _ _ _ => F4; rename News _ _ _ _ => N4
  rename IntsAre _ (List.take _ _) => hI3
  have hl3 : (ns.take 3).length = 3 := by simp [hn]
  have nDP : D ≠ P := (in2 _ hD).2
  refine iter_listK (fun f s' h => h) rfl F4 N4 (tab2.sub fun p h => .tail _ (.tail _ h)) [P] ?_ ?_ (.head _) (fun s' I i v Q' E' hi hv hq => wpAny_of_eq go_name hq) (fun i m Λ' => m "whole" = some (.str whole tw) ∧ m "pairs" = some (.ref P) ∧ ∃ cur tc pvs pn qs, m "line" = some (.str cur tc) ∧ good cur ∧ (P, listObj pvs pn) ∈ Λ' ∧ FlatOf pvs qs ∧ qs.length = i ∧ qs.foldl repl1 whole = cur ∧ RepOk whole qs) ?_ ?_ ?_ ?_
  · intro a ha
    rw [List.mem_singleton.mp ha]
    exact Heap.lt_size (N4 _ (.tail _ (.tail _ mP))).1
  · simpa using ne_all2 N4 (by assumption) mP
  · rintro i m Λ Λ' hs ⟨a1, a2, cur, tc, pvs, pn, qs, a3, a4, a5, a6⟩
    exact ⟨a1, a2, cur, tc, pvs, pn, qs, a3, a4, hs _ a5 (.of_data (by nofun)), a6⟩
  · exact ⟨rfl, rfl, whole, tw, [], 0, [], rfl, hgw, .tail _ (.tail _ mP), .nil, rfl, rfl, trivial⟩
  · rintro i v m₁ Λ₁ s₁ E' ⟨h1, tk1, rfl⟩ hi hv ⟨a1, a2, cur, tc, pvs, pn, qs, a3, a4, a5, a6, a7, a8, a9⟩ hT hsub F5 N5
    replace F5 := fr_says [("whole", .str whole tw), ("pairs", .ref P), ("line", .str cur tc)] F5 (by simp [a1, a2, a3])
    obtain ⟨n, t, e, hnn⟩ := IntsAre.at hI3 i v hv
    subst e
    have hc9 := hg9 cur a4
    have hl3v := hI3.length
    rw [hl3] at hl3v
    refine wpAny_assign_Name ?_
    refine storeX_L F5 N5 (fun h6 F6 N6 => ?_)
    clear F5 N5
    have k0 : 0 ≤ (n.fdiv 81).fmod 4 := Int.fmod_nonneg_of_pos _ (by decide)
    have k4 : (n.fdiv 81).fmod 4 < 4 := Int.fmod_lt_of_pos _ (by decide)
    refine execs_cut 3 (fun s' => ∃ m' Λ' h' tk piece given t1 t2, s' = { s with heap := h', toks := tk } ∧ Fr g L h' m' ∧ News g L h' Λ' ∧ TabOk (G2 w p loose mean mg mb).sp Λ' ∧ (∀ q ∈ Λ₁, q ∈ Λ') ∧ m' "whole" = some (.str whole tw) ∧ m' "pairs" = some (.ref P) ∧ m' "line" = some (.str cur tc) ∧ m' "piece" = some (.str piece t1) ∧ m' "given" = some (.str given t2) ∧ PieceIs cur n piece ∧ GivenIs piece given) ?_ ?_
    · dsimp only [List.take]
      k_steps
      · rename Fr _ _ _ _ => F7; rename News _ _ _ _ => N7
        rename (_ ≠ 0) => hne
        refine hold_out ?_
        obtain ⟨gv, tg, hx, hgv⟩ := four_at (a := Str.ofString "") (b := Txt.sliceBy (cutF cur n) none none _) (c := Str.ofString "c") (d := Txt.mul (Txt.item (cutF cur n) (-1)) ((cutF cur n).length : Int)) _ k0 k4
        refine kba_turn (value' := PySem.Expr.Name (PySem.Str.ofString "_") ⟨0, 0, 0, 0⟩) (fun _ => rfl) ?_
        refine kim_list N7 (.head _) rfl rfl k0 (by omega) hx ?_
        k_steps
        refine ⟨rfl, _, _, _, _, cutF cur n, gv, _, _, rfl, by k_asm, by k_asm, hT.sub fun _ h => .tail _ h, fun _ h => .tail _ h, rfl, rfl, rfl, rfl, rfl, .inl ⟨rfl, hne⟩, ?_⟩
        rcases hgv with h | h | h | h
        · exact .inl h
        · exact .inr (.inl ⟨_, h⟩)
        · exact .inr (.inr (.inl h))
        · exact .inr (.inr (.inr (.inl h)))
      · rename Fr _ _ _ _ => F7; rename News _ _ _ _ => N7
        refine hold_out ?_
        obtain ⟨gv, tg, hx, hgv⟩ := four_at (a := Str.ofString "") (b := Txt.sliceBy (Str.ofString "a") none none _) (c := Str.ofString "c") (d := Str.ofString "a") _ k0 k4
        refine kba_turn (value' := PySem.Expr.Name (PySem.Str.ofString "_") ⟨0, 0, 0, 0⟩) (fun _ => rfl) ?_
        refine kim_list N7 (.head _) rfl rfl k0 (by omega) hx ?_
        k_steps
        refine ⟨rfl, _, _, _, _, Str.ofString "a", gv, _, _, rfl, by k_asm, by k_asm, hT.sub fun _ h => .tail _ h, fun _ h => .tail _ h, rfl, rfl, rfl, rfl, rfl, .inr rfl, ?_⟩
        rcases hgv with h | h | h | h
        · exact .inl h
        · exact .inr (.inl ⟨_, h⟩)
        · exact .inr (.inr (.inl h))
        · exact .inr (.inr (.inr (.inr ⟨rfl, h⟩)))
    · rintro s' ⟨m', Λ', h', tk, piece, given, t1, t2, rfl, F8, N8, T8, in8, b1, b2, b3, b4, b5, b6, b7⟩
      have ok := FA.turn cur n piece given a4 b6 b7
      obtain ⟨qs', e9⟩ : ∃ qs', qs' = qs ++ [(piece, given)] := ⟨_, rfl⟩
      refine (turn_tail w p loose mean mg mb rfl rfl dp un gd L fa cd cl outer A₀ base g m' Λ' _ _ _ ⟨B, F8, X, N8, T, hC, T8, hd, hu⟩ good whole cur piece given tw tc t1 t2 P pvs pn qs b1 b2 b3 b4 b5 (in8 _ a5) a6 (by omega) ok ?_).out
      intro m9 Λ9 h9 tk9 t9 pn9 pvs9 F9 N9 T9 K9 c1 c2 c3 c4 c5
      refine TurnEndK.next F9 N9 T9 (fun p hp hn hm => K9 p (in8 p hp) hn hm) ?_
      refine ⟨c1, c2, repl1 cur (piece, given), t9, pvs9, pn9, qs ++ [(piece, given)], c3, ok.next, c4, c5, by simp [a7], by rw [List.foldl_append, a8]; rfl, rep_snoc a9 (by rw [a8]; exact ok.rep)⟩
  · intro m' Λ' h' tk F2 N2 T2 S3 ⟨a1, a2, cur, tc, pvs, pn, qs, a3, a4, a5, a6, a7, a8, a9⟩
    refine wpAny_execs_nil ?_
    show Hold _
    refine hold_out ?_
    have hl3v := hI3.length
    rw [hl3] at hl3v
    refine Box.out ?_
    exact law_done w p loose mean mg mb rfl dp un gd L fa cd cl outer A₀ base g m' Λ' _ E ⟨B, F2, X, N2, T, hC, T2, hd, hu⟩ whole cur tw tc P pvs pn qs a1 a2 a3 a5 a6 (by omega) a9 a8
end Mine
namespace Mine
open PySem PySem.Calls PySem.W PyProof.Rows PySem.Flt PySem.Builtin PySem.Builtin.ObjectAttr
theorem offLR2 : True := by w_top off; trivial
theorem fillLR : PySem.Challenge.rw_ph0008_02.prog = PySem.Challenge.rw_ph0008_02.prog ∧ Mine.hd.heap_39 = Mine.hd.heap_39 := by k_fill; exact ⟨rfl, rfl⟩
local macro_rules | `(tactic| walk_at "eval ListComp") => `(tactic| refine hold_in ?_)
theorem law_rest (w p loose mean mg mb) {oc od osl name qual params body scope dV kV doc pm an cdv0 ct} (ho : (Mine.hd.heap_39 w.params).lookup 78 = some ⟨oc, od, .func (fnOf name qual params body scope dV kV doc pm an cdv0 ct), osl⟩)
    (dp un : Nat) (gd : Option (List Code)) (L fa : Addr) (cd : Value) (cl : List (Str × Addr)) (outer : List Env) (A₀ : Around) (base g : Heap) (m : Str → Option Value) (Λ : Ldg) (s : Shared) (E : Value → Shared → Prop)
    (at0 : AtL w p loose mean mg mb dp un L outer A₀ base g s.heap m Λ) (good : Str → Prop) (FA : Facts2 good)
    (D : Addr) (ys : List Value) (ns : List Int) (hD : (D, LCg.lst ys) ∈ Λ) (hm : m "numbers" = some (.ref D)) (hI : IntsAre ys ns) (hn : ns.length = 9) :
    Box (wpAny (model PySem.Challenge.rw_ph0008_02.prog w) (ktrTop dp un gd "law" scope L fa cd cl outer) (execs (body.drop 3) (envX "law" scope L fa cd cl)) (Fini (G2 w p loose mean mg mb).sp g L s.gens s.os) E s) := by
  refine ⟨?_⟩
  rw [show (Mine.hd.heap_39 w.params).lookup 78 = some ⟨_, _, .func (fnOf _ _ _ _ _ _ _ _ _ _ _ _), _⟩ from rfl] at ho
  cases ho
  obtain ⟨B, F, X, N, T, hC, tab, hd, hu⟩ := at0
  replace F := fr_says [("numbers", .ref D)] F (by simp [hm])
  dsimp only [List.drop]
  refine execs_take 1 ?_
  dsimp only [List.take, List.drop]
  k_steps
  refine hold_out ?_
  refine LCg.ListComp_U (F₀ := F) (by with_unfolding_all rfl) (by decide) (by rfl) (by decide) (by rfl) ?_
  k_steps
  refine LCg.CompSrc.ledger (by rfl) F N hD (by rw [sizeLine_eq, List.size_toArray, hI.length]; omega) ?_
  intro g'
  refine kct_list (fun k => Txt.item (Str.ofString "abc") (k.fmod 3)) hI (fun k' t' I' oI' C' oC' D' m' ys' h' tk' E' hk' hC' hx' F' N' off' ne' hm' => ?_) ?_
  · k_steps
    exact ⟨_, _, Λ, rfl, F', N', off', .inr ⟨_, hD, rfl, _, rfl⟩, rfl, _, rfl⟩
  · intro ys2 hc2 hl2
    k_steps
    (try dsimp only)
    refine hold_out ?_
    rename Fr _ _ _ _ => F2; rename News _ _ _ _ => N2
    refine Box.out ?_
    exact law_loop w p loose mean mg mb rfl dp un gd L fa cd cl outer A₀ base g _ _ _ E ⟨B, F2, X, N2, T, hC, tab.sub fun _ h => .tail _ h, hd, hu⟩ D ys ns (.tail _ hD) rfl hI hn _ _ rfl good FA (FA.gw ns hn)
end Mine
namespace Mine
open PySem PySem.Calls PySem.W PyProof.Rows PySem.Flt PySem.Builtin PySem.Builtin.ObjectAttr
theorem offL2 : True := by w_top off; trivial
theorem fillL2 : PySem.Challenge.rw_ph0008_02.prog = PySem.Challenge.rw_ph0008_02.prog ∧ Mine.hd.heap_39 = Mine.hd.heap_39 := by k_fill; exact ⟨rfl, rfl⟩
local macro_rules | `(tactic| walk_at "call builtin:sum") => `(tactic| (k_here; (with_reducible show wpAny _ _ (call (Value.builtin "sum") [Value.ref _]) _ _ _); (with_unfolding_all refine' sum_sliceN ?k1 ?k2 (List.Mem.head _) ?k3 rfl ?_; (case k1 => k_asm); (case k2 => k_asm); (case k3 => assumption); k_whole); intro h' tk' t' F' N'))
theorem tab_start {Λ : Ldg} {sp : List (Addr × Str)} (h : ∀ x ∈ sp, (x.1, tabObj #[]) ∈ Λ) : TabOk sp Λ :=
  fun x hx => ⟨#[], h x hx, trivial, fun pos v e => by simp [codeAmong] at e⟩
theorem fin (good : Str → Prop) (FA : Facts2 good) : PySem.Challenge.rw_ph0008_02.Holds := hd (by
  k_go0
  rename World => w9
  rename Shared => s1
  rename Below _ _ _ _ => B9
  rename Top _ _ _ _ _ _ => T9
  rename Frag.In _ _ => X9
  refine wpAny_mono (Q := Fini [(30, (("_law_find" : Str) ++ ".<locals>.") ++ "<lambda>"), (44, (("_law_program" : Str) ++ ".<locals>.") ++ "<lambda>"), (51, (("_law_last_letters" : Str) ++ ".<locals>.") ++ "<lambda>")] (ghostOf s1.heap [(34, 30), (48, 44), (53, 51)]) s1.heap.objs.size s1.gens s1.os) ?_ (fun f s' hf => ?_) (fun _ _ e => e)
  · refine execs_take 3 ?_
    dsimp only [List.take, List.drop]
    k_steps
    dsimp only
    refine hold_out ?_
    rename Fr _ _ _ _ => F9; rename News _ _ _ _ => N9
    refine Box.out ?_
    refine law_rest w9 _ _ _ _ _ rfl _ _ _ _ _ _ _ _ _ _ _ _ _ _ _ ⟨B9, F9, X9, N9, T9, ?a4, ?a5, ?a6, ?a7⟩ good FA _ _ _ (List.mem_cons.mpr (.inl rfl)) rfl (by assumption) rfl
    · intro q hq
      rcases List.mem_cons.mp hq with rfl | hq
      · assumption
      rcases List.mem_cons.mp hq with rfl | hq
      · assumption
      · rw [List.mem_singleton.mp hq]; assumption
    · refine tab_start fun x hx => ?_
      rcases List.mem_cons.mp hx with rfl | hx
      · k_mem
      rcases List.mem_cons.mp hx with rfl | hx
      · k_mem
      · rw [List.mem_singleton.mp hx]; k_mem
    · decide
    · decide
  · obtain ⟨rfl, e1, e2, m9, Λ9, F9, N9, T9⟩ := hf
    refine ⟨?_, ?_⟩
    · refine goodW_bool F9 (e1.trans (by assumption)) (raisesW_false ?_) ?_ e2
      · wrow_none_raised
      · wrow_post
    · obtain ⟨p1, m1, _⟩ := T9 _ (.head _)
      obtain ⟨p2, m2, _⟩ := T9 _ (.tail _ (.head _))
      obtain ⟨p3, m3, _⟩ := T9 _ (.tail _ (.tail _ (.head _)))
      exact ⟨.of N9 m1, .of N9 m2, .of N9 m3, trivial⟩)
end Mine
namespace Mine
open PySem PySem.Calls PySem.W PyProof.Rows PySem.Flt PySem.Builtin PySem.Builtin.ObjectAttr
theorem countP_add {α : Type} {a b c : α → Bool} : ∀ (l : List α), (∀ p ∈ l, (a p).toNat + (b p).toNat = (c p).toNat) → l.countP a + l.countP b = l.countP c
  | [], _ => rfl
  | p :: r, h => by
    have h1 := h p (.head _)
    have h2 := countP_add r fun q hq => h q (.tail _ hq)
    simp only [List.countP_cons]
    revert h1
    cases a p <;> cases b p <;> cases c p <;> simp <;> omega
theorem take_count {α : Type} {P : α → Bool} : ∀ (l : List α), l.Pairwise (fun p q => P q = true → P p = true) → l.take (l.countP P) = l.filter P ∧ l.drop (l.countP P) = l.filter fun p => !P p
  | [], _ => ⟨rfl, rfl⟩
  | p :: r, h => by
    obtain ⟨h1, h2⟩ := List.pairwise_cons.mp h
    obtain ⟨i1, i2⟩ := take_count r h2
    cases hp : P p with
    | true =>
      rw [List.countP_cons_of_pos hp, List.filter_cons_of_pos hp, List.filter_cons_of_neg (by simp [hp])]
      exact ⟨by rw [List.take_succ_cons, i1], by rw [List.drop_succ_cons, i2]⟩
    | false =>
      have hn : ∀ q ∈ r, P q = false := fun q hq => by
        cases hq' : P q with
        | false => rfl
        | true => rw [h1 q hq hq'] at hp; cases hp
      have e0 : r.countP P = 0 := List.countP_eq_zero.mpr fun q hq => by simp [hn q hq]
      have e1 : r.filter P = [] := List.filter_eq_nil_iff.mpr fun q hq => by simp [hn q hq]
      have e2 : r.filter (fun p => !P p) = r := List.filter_eq_self.mpr fun q hq => by simp [hn q hq]
      rw [List.countP_cons_of_neg (by simp [hp]), List.filter_cons_of_neg (by simp [hp]), List.filter_cons_of_pos (by simp [hp]), e0, e1, e2]
      exact ⟨rfl, rfl⟩
theorem count_at {α : Type} {P : α → Bool} (l : List α) (h : l.Pairwise (fun p q => P q = true → P p = true)) (i : Nat) (hi : i < l.length) : P l[i] = true ↔ i < l.countP P := by
  obtain ⟨h1, h2⟩ := take_count l h
  constructor
  · intro hp
    refine Nat.lt_of_not_le fun hc => ?_
    have : l[i] ∈ l.drop (l.countP P) := by
      rw [List.mem_iff_getElem]
      exact ⟨i - l.countP P, by rw [List.length_drop]; omega, by rw [List.getElem_drop]; congr 1; omega⟩
    rw [h2] at this
    have := (List.mem_filter.mp this).2
    simp [hp] at this
  · intro hc
    have : l[i] ∈ l.take (l.countP P) := by
      rw [List.mem_iff_getElem]
      exact ⟨i, by rw [List.length_take]; omega, by rw [List.getElem_take]⟩
    rw [h1] at this
    exact (List.mem_filter.mp this).2
/-- the ends of X ahead of T -/
def cnt (X T : List Nat) : Nat := (List.range (X.length + 1)).countP fun p => decide (X.drop p < T)
structure SA (X : List Nat) (sa : List Nat) : Prop where
  perm : sa.Perm (List.range (X.length + 1))
  sort : sa.Pairwise fun p q => X.drop p < X.drop q
section
variable {X sa : List Nat} (H : SA X sa)
include H
theorem SA.len : sa.length = X.length + 1 := by rw [H.perm.length_eq, List.length_range]
theorem SA.cnt_eq (T : List Nat) : cnt X T = sa.countP fun p => decide (X.drop p < T) := (H.perm.countP_eq _).symm
theorem SA.down (T : List Nat) : sa.Pairwise fun p q => decide (X.drop q < T) = true → decide (X.drop p < T) = true :=
  H.sort.imp fun h1 h2 => decide_eq_true (List.lt_trans h1 (of_decide_eq_true h2))
theorem SA.at (T : List Nat) (i : Nat) (hi : i < sa.length) : X.drop sa[i] < T ↔ i < cnt X T := by
  rw [H.cnt_eq, ← count_at sa (H.down T) i hi]; simp
theorem SA.idx {p : Nat} (hp : p ≤ X.length) : sa[cnt X (X.drop p)]? = some p := by
  have hm : p ∈ sa := H.perm.mem_iff.mpr (List.mem_range.mpr (by omega))
  obtain ⟨i, hi, e⟩ := List.mem_iff_getElem.mp hm
  have h1 := H.at (X.drop p) i hi
  rw [e] at h1
  have h2 : ¬ i < cnt X (X.drop p) := fun h => List.lt_irrefl _ (h1.mpr h)
  have h3 : ¬ cnt X (X.drop p) < i := fun h => by
    have h4 := List.pairwise_iff_getElem.mp H.sort _ _ (by omega) hi h
    rw [e] at h4
    exact Nat.lt_irrefl _ ((H.at (X.drop p) _ (by omega)).mp h4)
  rw [show cnt X (X.drop p) = i by omega, List.getElem?_eq_getElem hi, e]
theorem SA.cnt_lt {p : Nat} (hp : p ≤ X.length) : cnt X (X.drop p) < X.length + 1 := by
  have := (List.getElem?_eq_some_iff.mp (H.idx hp)).1
  rw [H.len] at this; exact this
end
theorem cnt_le (X T : List Nat) : cnt X T ≤ X.length + 1 := by
  have := List.countP_le_length (p := fun p => decide (X.drop p < T)) (l := List.range (X.length + 1))
  rw [List.length_range] at this
  exact this
theorem cnt_nil (X : List Nat) : cnt X [] = 0 := List.countP_eq_zero.mpr fun q _ => by simp
theorem lt_big {l : List Nat} (h : ∀ c ∈ l, c < 100) : l < [100] := by
  cases l with
  | nil => exact List.nil_lt_cons _ _
  | cons c r => exact List.cons_lt_cons_iff.mpr (.inl (h c (.head _)))
theorem cnt_big {X : List Nat} (h : ∀ c ∈ X, c < 100) : cnt X [100] = X.length + 1 := by
  have : (List.range (X.length + 1)).countP (fun p => decide (X.drop p < [100])) = (List.range (X.length + 1)).length := List.countP_eq_length.mpr fun q _ => by
    simp only [decide_eq_true_eq]; exact lt_big fun c hc => h c (List.mem_of_mem_drop hc)
  rw [List.length_range] at this; exact this
/-- the letter ahead of an end -/
abbrev ahead (X : List Nat) (p : Nat) : Nat := (36 :: X).getD p 0
theorem lt_ahead {X : List Nat} {c : Nat} {q : Nat} (hq : q < X.length) (T : List Nat) : (decide (ahead X (q + 1) < c) || (decide (X.drop (q + 1) < T) && (ahead X (q + 1) == c))) = true ↔ decide (X.drop q < c :: T) = true := by
  have e : X.drop q = X[q] :: X.drop (q + 1) := List.drop_eq_getElem_cons hq
  have h : ahead X (q + 1) = X[q] := by simp [ahead, hq]
  have k : X.drop q < c :: T ↔ X[q] < c ∨ X[q] = c ∧ X.drop (q + 1) < T := by rw [e]; exact List.cons_lt_cons_iff
  rw [h, decide_eq_true_eq, k, Bool.or_eq_true, Bool.and_eq_true, decide_eq_true_eq, decide_eq_true_eq, beq_iff_eq]
  exact or_congr Iff.rfl And.comm
/-- a row and a letter lead to a row -/
theorem cnt_cons {X : List Nat} {c : Nat} (hc : 36 < c) (T : List Nat) : (List.range (X.length + 1)).countP (fun p => decide (ahead X p < c)) + (List.range (X.length + 1)).countP (fun p => decide (X.drop p < T) && (ahead X p == c)) = cnt X (c :: T) := by
  have e1 := countP_add (a := fun p => decide (ahead X p < c)) (b := fun p => decide (X.drop p < T) && (ahead X p == c)) (c := fun p => decide (ahead X p < c) || (decide (X.drop p < T) && (ahead X p == c))) (List.range (X.length + 1)) (fun p _ => by
    generalize ahead X p = y
    by_cases h1 : y < c
    · have h2 : (y == c) = false := by simp; omega
      rw [decide_eq_true h1, h2, Bool.and_false]; rfl
    · rw [decide_eq_false h1]
      cases (decide (X.drop p < T) && (y == c)) <;> rfl)
  rw [e1]
  have e2 : (List.range (X.length + 1)).countP (fun p => decide (ahead X p < c) || (decide (X.drop p < T) && (ahead X p == c))) = 1 + (List.range X.length).countP (fun p => decide (X.drop p < c :: T)) := by
    rw [List.range_succ_eq_map, List.countP_cons_of_pos (by simp [ahead]; omega), List.countP_map, Nat.add_comm]
    congr 1
    refine List.countP_congr fun q hq => ?_
    exact lt_ahead (List.mem_range.mp hq) T
  rw [e2]
  unfold cnt
  rw [List.range_succ, List.countP_append, Nat.add_comm]
  congr 1
  rw [List.countP_singleton, List.drop_length]
  simp
end Mine
namespace Mine
open PySem PySem.Calls PySem.W PyProof.Rows PySem.Flt PySem.Builtin PySem.Builtin.ObjectAttr
abbrev mk (l : List Nat) : Str := ⟨l.toArray⟩
theorem mk_tl (x : Str) : mk (tl x) = x := str_ext rfl
theorem item_getD {x : Str} {i : Nat} (hi : i < x.length) : Txt.item x (i : Int) = mk [(tl x).getD i 0] := by
  have hl : i < (tl x).length := by rw [tl_len]; exact hi
  rw [PyProof.Rows.item_meets (i := (i : Int)) (n := (tl x).getD i 0) (by omega) (by rw [Int.toNat_natCast, List.getD_eq_getElem?_getD, List.getElem?_eq_getElem hl]; simp [tl])]
theorem one_eq (c d : Nat) : ((mk [c]) == mk [d]) = (c == d) := by
  by_cases h : c = d
  · subst h; simp
  · rw [beq_false_of_ne h]
    simp only [beq_eq_false_iff_ne, ne_eq]
    intro e
    have := congrArg tl e
    simp [tl] at this
    exact h this
theorem join_nil_tl : ∀ l : List Str, tl (Str.join (Str.ofString "") l) = (l.map tl).flatten
  | [] => rfl
  | [x] => by show tl x = _; simp
  | x :: y :: r => by
    show tl (x ++ Str.ofString "" ++ Str.join (Str.ofString "") (y :: r)) = _
    rw [tl_append, tl_append, join_nil_tl (y :: r), show tl (Str.ofString "") = [] from rfl]
    simp
theorem join_tl (l : List Str) : tl (Txt.join (Str.ofString "") l) = (l.map tl).flatten := by
  show tl (Str.glued _ _) = _
  rw [StrLaws.glued_eq_join, join_nil_tl]
theorem flat_ones {α : Type} (f : α → Nat) : ∀ (l : List α) (g : α → Str), (∀ a ∈ l, g a = mk [f a]) → ((l.map g).map tl).flatten = l.map f
  | [], _, _ => rfl
  | a :: r, g, h => by
    rw [List.map_cons, List.map_cons, List.flatten_cons, flat_ones f r g fun b hb => h b (.tail _ hb), h a (.head _)]
    rfl
theorem last_tl {x : Str} {sa : List Nat} (h : ∀ p ∈ sa, p ≤ x.length) : tl (lastOfSA x sa) = sa.map (ahead (tl x)) := by
  unfold lastOfSA
  rw [join_tl, show ((sa.map Int.ofNat).map fun p => Txt.item (Str.ofString "$" ++ x) p) = sa.map fun (p : Nat) => Txt.item (Str.ofString "$" ++ x) (p : Int) from List.map_map]
  refine flat_ones (ahead (tl x)) sa _ fun p hp => ?_
  have hp := h p hp
  show Txt.item (Str.ofString "$" ++ x) (p : Int) = _
  have e : tl (Str.ofString "$" ++ x) = 36 :: tl x := by rw [tl_append]; rfl
  rw [item_getD (by rw [← tl_len, e, List.length_cons, tl_len]; omega), e]
theorem sa_of {x : Str} {sa : List Nat} (h : IsSA x sa) : SA (tl x) sa := by
  obtain ⟨h1, h2⟩ := h
  have hn : sa.Nodup := h1.nodup_iff.mpr List.nodup_range
  have hm : ∀ p ∈ sa, p ≤ x.length := fun p hp => by have := List.mem_range.mp (h1.mem_iff.mp hp); omega
  refine ⟨by rw [tl_len]; exact h1, ?_⟩
  refine (h2.and hn).imp_of_mem fun {p q} hp hq => ?_
  rintro ⟨h3, h4⟩
  have hp := hm p hp
  have hq := hm q hq
  have e : ∀ k, k ≤ x.length → (Txt.slice x (some (k : Int)) none).cps.toList = (tl x).drop k := fun k hk => slice_from x hk
  rw [e p hp, e q hq] at h3
  refine Decidable.byContradiction fun h5 => ?_
  have h6 := List.le_antisymm (List.not_lt.mp h3) (List.not_lt.mp h5)
  have := congrArg List.length h6
  rw [List.length_drop, List.length_drop, tl_len] at this
  omega
/-- how many marks stand ahead -/
theorem nxMgo_skip {size s : Int} : ∀ (pre post : List Int) (i : Nat), (∀ m ∈ pre, m < s) → nxMgo size s (pre ++ post) i = nxMgo size s post (i + pre.length)
  | [], _, _, _ => rfl
  | m :: r, post, i, h => by
    have := h m (.head _)
    show nxMgo size s (m :: (r ++ post)) i = _
    rw [nxMgo, if_neg (by omega), nxMgo_skip r post (i + 1) fun m hm => h m (.tail _ hm), List.length_cons]
    congr 1; omega
def numOfFd : Option (Int × Int × Int) → Int
  | none => 0
  | some (_, _, k) => k
theorem rev_count (row : Int) : ∀ (post pre : List Int) (k : Nat) (s : Int) (fd : Option (Int × Int × Int)), (∀ m ∈ pre, m < s) → (∀ m ∈ post, s ≤ m) → post.Pairwise (· < ·) → numOfFd fd = pre.length → post.length ≤ k →
    numOfFd (revGo (fun j => nxM (pre ++ post) 1 j) row k s fd) = pre.length + (post.countP fun m => decide (m < row) : Nat)
  | [], pre, 0, s, fd, _, _, _, h4, _ => by rw [revGo, h4]; rfl
  | [], pre, k + 1, s, fd, h1, _, _, h4, _ => by
    have e : nxM (pre ++ []) 1 s = none := by show nxMgo 1 s (pre ++ []) 0 = none; rw [nxMgo_skip pre [] 0 h1, nxMgo]
    rw [revGo]
    rw [e]
    dsimp only
    rw [h4]; rfl
  | m :: r, pre, k + 1, s, fd, h1, h2, h3, h4, h5 => by
    obtain ⟨h6, h7⟩ := List.pairwise_cons.mp h3
    have hs := h2 m (.head _)
    have e : nxM (pre ++ m :: r) 1 s = some (m, m + 1, ((0 + pre.length : Nat) : Int) + 1) := by show nxMgo 1 s (pre ++ m :: r) 0 = _; rw [nxMgo_skip pre (m :: r) 0 h1, nxMgo, if_pos hs]
    rw [revGo]
    rw [e]
    dsimp only
    by_cases hr : m < row
    · rw [if_pos ⟨hr, by omega⟩]
      have ih := rev_count row r (pre ++ [m]) k (m + 1) (some (m, m + 1, ((0 + pre.length : Nat) : Int) + 1)) (fun q hq => by
        rcases List.mem_append.mp hq with hq | hq
        · have := h1 q hq; omega
        · rw [List.mem_singleton.mp hq]; omega) (fun q hq => by have := h6 q hq; omega) h7 (by simp [numOfFd]) (by rw [List.length_cons] at h5; omega)
      rw [List.append_assoc] at ih
      rw [show ([m] ++ r) = m :: r from rfl] at ih
      rw [ih, List.countP_cons_of_pos (by simpa using hr), List.length_append, List.length_singleton]
      omega
    · rw [if_neg (by omega), h4, List.countP_cons_of_neg (by simpa using hr)]
      have : r.countP (fun m => decide (m < row)) = 0 := List.countP_eq_zero.mpr fun q hq => by have := h6 q hq; simp; omega
      rw [this]; rfl
theorem rank_count {ns : List Int} {last : Str} (h0 : ∀ m ∈ ns, 0 ≤ m) (hs : ns.Pairwise (· < ·)) (hl : ns.length ≤ last.length + 1) (row : Int) : rankOf ns last row = (ns.countP fun m => decide (m < row) : Nat) := by
  have := rev_count row ns [] (last.length + 1) 0 none (fun _ h => nomatch h) h0 hs rfl hl
  rw [List.length_nil] at this
  unfold rankOf
  show (match revGo (fun j => nxM ([] ++ ns) 1 j) row (last.length + 1) 0 none with | none => 0 | some (_, _, k) => k) = _
  rw [show ((0 : Nat) : Int) + ((ns.countP fun m => decide (m < row) : Nat) : Int) = ((ns.countP fun m => decide (m < row) : Nat) : Int) by omega] at this
  rw [← this]
  unfold numOfFd
  rfl
theorem mk_sorted (x l : Str) : (mkL x l).Pairwise (· < ·) := by
  unfold mkL
  rw [List.pairwise_map]
  refine List.Pairwise.sublist List.filter_sublist (List.pairwise_lt_range.imp fun h => ?_)
  exact Int.ofNat_lt.mpr h
theorem mk_pos (x l : Str) : ∀ m ∈ mkL x l, 0 ≤ m := by
  intro m hm
  obtain ⟨i, _, rfl⟩ := List.mem_map.mp hm
  exact Int.natCast_nonneg i
theorem mk_len (x l : Str) : (mkL x l).length ≤ x.length := by
  unfold mkL
  rw [List.length_map]
  exact Nat.le_trans (List.length_filter_le _ _) (by rw [List.length_range]; exact Nat.le_refl _)
theorem rank_mk (x l : Str) (row : Nat) : rankOf (mkL x l) x row = ((List.range x.length).countP fun (i : Nat) => decide (i < row) && (Txt.item x (i : Int) == l) : Nat) := by
  rw [rank_count (mk_pos x l) (mk_sorted x l) (by have := mk_len x l; omega)]
  unfold mkL
  rw [List.countP_map, List.countP_filter]
  congr 1
  refine List.countP_congr fun i _ => ?_
  simp
theorem len_mk (x l : Str) : ((mkL x l).length : Int) = ((List.range x.length).countP fun (i : Nat) => Txt.item x (i : Int) == l : Nat) := by
  unfold mkL
  rw [List.length_map, List.countP_eq_length_filter]
theorem count_idx {α : Type} (d : α) (f : α → Bool) : ∀ (l : List α), (List.range l.length).countP (fun i => f (l.getD i d)) = l.countP f
  | [] => rfl
  | a :: r => by
    rw [List.length_cons, List.range_succ_eq_map, List.countP_cons, List.countP_map, List.countP_cons, ← count_idx d f r]
    simp [Function.comp_def]
end Mine
namespace Mine
open PySem PySem.Calls PySem.W PyProof.Rows PySem.Flt PySem.Builtin PySem.Builtin.ObjectAttr
def abc (l : List Nat) : Prop := ∀ c ∈ l, c = 97 ∨ c = 98 ∨ c = 99
theorem ahead_succ {X : List Nat} {q : Nat} (hq : q < X.length) : ahead X (q + 1) = X[q] := by simp [ahead, hq]
section
variable {x : Str} {sa : List Nat} (hX : abc (tl x)) (H : SA (tl x) sa)
include H
theorem sa_le : ∀ p ∈ sa, p ≤ x.length := fun p hp => by
  have := List.mem_range.mp (H.perm.mem_iff.mp hp)
  rw [tl_len] at this; omega
theorem sa_len : sa.length = x.length + 1 := by rw [H.len, tl_len]
theorem last_len : (lastOfSA x sa).length = x.length + 1 := by rw [← tl_len, last_tl (sa_le H), List.length_map, sa_len H]
theorem last_item {i : Nat} (hi : i < x.length + 1) : Txt.item (lastOfSA x sa) (i : Int) = mk [ahead (tl x) (sa.getD i 0)] := by
  have hs : i < sa.length := by rw [sa_len H]; exact hi
  rw [item_getD (by rw [last_len H]; exact hi), last_tl (sa_le H), List.getD_eq_getElem?_getD, List.getElem?_map, List.getElem?_eq_getElem hs, List.getD_eq_getElem?_getD, List.getElem?_eq_getElem hs]
  rfl
theorem count_last (g : Nat → Bool) (f : Nat → Bool) (h : ∀ i, (hi : i < sa.length) → f i = g sa[i]) : (List.range (lastOfSA x sa).length).countP f = (List.range (x.length + 1)).countP g := by
  rw [last_len H, ← sa_len H]
  rw [show (List.range sa.length).countP f = (List.range sa.length).countP (fun i => g (sa.getD i 0)) from List.countP_congr fun i hi => by
    have hi := List.mem_range.mp hi
    rw [h i hi, List.getD_eq_getElem?_getD, List.getElem?_eq_getElem hi]; rfl]
  rw [count_idx 0 g sa, H.perm.countP_eq, tl_len, sa_len H]
theorem mk_count (c : Nat) : ((mkL (lastOfSA x sa) (mk [c])).length : Int) = ((List.range (x.length + 1)).countP fun p => ahead (tl x) p == c : Nat) := by
  rw [len_mk, count_last H (fun p => ahead (tl x) p == c) _ fun i hi => by
    rw [last_item H (by rw [← sa_len H]; exact hi), one_eq, List.getD_eq_getElem?_getD, List.getElem?_eq_getElem hi]; rfl]
theorem rank_last (c : Nat) (T : List Nat) : rankOf (mkL (lastOfSA x sa) (mk [c])) (lastOfSA x sa) (cnt (tl x) T : Nat) = ((List.range (x.length + 1)).countP fun p => decide ((tl x).drop p < T) && (ahead (tl x) p == c) : Nat) := by
  rw [rank_mk, count_last H (fun p => decide ((tl x).drop p < T) && (ahead (tl x) p == c)) _ fun i hi => by
    rw [last_item H (by rw [← sa_len H]; exact hi), one_eq, List.getD_eq_getElem?_getD, List.getElem?_eq_getElem hi]
    show (decide (i < cnt (tl x) T) && (ahead (tl x) sa[i] == c)) = _
    rw [decide_eq_decide.mpr (H.at T i hi)]]
include hX
omit H in
theorem ahead_abc {p : Nat} (hp : p < x.length + 1) : ahead (tl x) p = 36 ∨ ahead (tl x) p = 97 ∨ ahead (tl x) p = 98 ∨ ahead (tl x) p = 99 := by
  cases p with
  | zero => exact .inl rfl
  | succ q =>
    have hq : q < (tl x).length := by rw [tl_len]; omega
    rw [ahead_succ hq]
    exact .inr (hX _ (List.getElem_mem hq))
theorem cs_last {c : Nat} (hc : c = 97 ∨ c = 98 ∨ c = 99) : csL (lastOfSA x sa) (mk [c]) = ((List.range (x.length + 1)).countP fun p => decide (ahead (tl x) p < c) : Nat) := by
  have m := mk_count H
  have hp : ∀ p ∈ List.range (x.length + 1), _ := fun p hp => ahead_abc hX (List.mem_range.mp hp)
  have e1 : (List.range (x.length + 1)).countP (fun p => ahead (tl x) p == 36) = (List.range (x.length + 1)).countP (fun p => decide (ahead (tl x) p < 97)) := List.countP_congr fun p h => by
    rcases hp p h with e | e | e | e <;> rw [e] <;> decide
  have e2 := countP_add (a := fun p => decide (ahead (tl x) p < 97)) (b := fun p => ahead (tl x) p == 97) (c := fun p => decide (ahead (tl x) p < 98)) (List.range (x.length + 1)) fun p h => by
    rcases hp p h with e | e | e | e <;> rw [e] <;> decide
  have e3 := countP_add (a := fun p => decide (ahead (tl x) p < 98)) (b := fun p => ahead (tl x) p == 98) (c := fun p => decide (ahead (tl x) p < 99)) (List.range (x.length + 1)) fun p h => by
    rcases hp p h with e | e | e | e <;> rw [e] <;> decide
  have m0 := m 36
  have m1 := m 97
  have m2 := m 98
  rcases hc with rfl | rfl | rfl
  · show ((mkL (lastOfSA x sa) (mk [36])).length : Int) + 0 = _
    omega
  · show ((mkL (lastOfSA x sa) (mk [36])).length : Int) + (((mkL (lastOfSA x sa) (mk [97])).length : Int) + 0) = _
    omega
  · show ((mkL (lastOfSA x sa) (mk [36])).length : Int) + (((mkL (lastOfSA x sa) (mk [97])).length : Int) + (((mkL (lastOfSA x sa) (mk [98])).length : Int) + 0)) = _
    omega
theorem step_cnt {c : Nat} (hc : c = 97 ∨ c = 98 ∨ c = 99) (T : List Nat) : stepOf (lastOfSA x sa) (mk [c]) (cnt (tl x) T : Nat) = (cnt (tl x) (c :: T) : Nat) := by
  unfold stepOf
  rw [cs_last hX H hc, rank_last H, ← cnt_cons (by omega), tl_len]
  omega
theorem low_cnt (T : List Nat) : ∀ (y : List Nat), abc y → lowGo (lastOfSA x sa) (cnt (tl x) T : Nat) y.reverse = (cnt (tl x) (y ++ T) : Nat)
  | [], _ => rfl
  | c :: r, h => by
    unfold lowGo
    rw [List.reverse_cons, List.foldl_append]
    have := low_cnt T r fun d hd => h d (.tail _ hd)
    unfold lowGo at this
    rw [this]
    exact step_cnt hX H (h c (.head _)) _
/-- row by row -/
theorem inv_at : ∀ i, i ≤ x.length → (invGo (lastOfSA x sa) i).1 = mk ((tl x).drop (x.length - i)) ∧ (invGo (lastOfSA x sa) i).2.1 = (cnt (tl x) ((tl x).drop (x.length - i)) : Nat) ∧ ∀ j < i, (invGo (lastOfSA x sa) i).2.2[cnt (tl x) ((tl x).drop (x.length - j))]? = some ((x.length - j : Nat) : Int)
  | 0, _ => by
    have e : (tl x).drop x.length = [] := List.drop_of_length_le (by rw [tl_len]; exact Nat.le_refl _)
    rw [Nat.sub_zero, e, cnt_nil]
    exact ⟨rfl, rfl, fun j h => absurd h (Nat.not_lt_zero _)⟩
  | i + 1, hi => by
    obtain ⟨h1, h2, h3⟩ := inv_at i (by omega)
    have hl := last_len H
    rw [invGo, if_pos (by omega)]
    dsimp only
    have hk : x.length - i ≤ (tl x).length := by rw [tl_len]; omega
    have hlt := H.cnt_lt hk
    have hix := H.idx hk
    rw [tl_len] at hlt
    obtain ⟨q, hq⟩ : ∃ q, x.length - i = q + 1 := ⟨x.length - i - 1, by omega⟩
    have hq2 : q < (tl x).length := by rw [tl_len]; omega
    have hit : Txt.item (lastOfSA x sa) (invGo (lastOfSA x sa) i).2.1 = mk [(tl x)[q]] := by
      rw [h2, last_item H (by omega), List.getD_eq_getElem?_getD, hix]
      show mk [ahead (tl x) (x.length - i)] = _
      rw [hq, ahead_succ hq2]
    have hdr : (tl x).drop (x.length - (i + 1)) = (tl x)[q] :: (tl x).drop (x.length - i) := by
      rw [show x.length - (i + 1) = q by omega, hq]
      exact List.drop_eq_getElem_cons hq2
    refine ⟨?_, ?_, fun j hj => ?_⟩
    · rw [hit, h1, hdr]
      exact str_ext (by rw [tl_append]; rfl)
    · rw [hit, h2, step_cnt hX H (hX _ (List.getElem_mem hq2)), hdr]
    · rw [h2, Int.toNat_natCast, hl, List.getElem?_set]
      by_cases e : cnt (tl x) ((tl x).drop (x.length - i)) = cnt (tl x) ((tl x).drop (x.length - j))
      · rw [if_pos e, if_pos (by rw [inv_len, hl]; exact hlt)]
        have hj2 := H.idx (p := x.length - j) (by rw [tl_len]; omega)
        rw [← e, hix] at hj2
        have := Option.some.inj hj2
        congr 1; omega
      · rw [if_neg e]
        rcases Nat.lt_succ_iff_lt_or_eq.mp hj with hj | rfl
        · exact h3 j hj
        · exact absurd rfl e
end
end Mine
namespace Mine
open PySem PySem.Calls PySem.W PyProof.Rows PySem.Flt PySem.Builtin PySem.Builtin.ObjectAttr
theorem lt_snoc : ∀ (y : List Nat) (c : Nat), y < y ++ [c]
  | [], c => List.nil_lt_cons _ _
  | d :: r, c => List.cons_lt_cons_iff.mpr (.inr ⟨rfl, lt_snoc r c⟩)
theorem pre_iff : ∀ (y s : List Nat), (∀ c ∈ s, c < 100) → ((¬ s < y ∧ s < y ++ [100]) ↔ y <+: s)
  | [], s, h => ⟨fun _ => List.nil_prefix, fun _ => ⟨List.not_lt_nil s, lt_big h⟩⟩
  | d :: y, [], _ => ⟨fun h => absurd (List.nil_lt_cons d y) h.1, fun h => by simp at h⟩
  | d :: y, c :: s, h => by
    have ih := pre_iff y s fun e he => h e (.tail _ he)
    rw [List.cons_prefix_cons, ← ih, List.cons_append, List.cons_lt_cons_iff, List.cons_lt_cons_iff]
    constructor
    · rintro ⟨h1, h2⟩
      rcases h2 with h2 | ⟨rfl, h2⟩
      · exact absurd (.inl h2) h1
      · exact ⟨rfl, fun h3 => h1 (.inr ⟨rfl, h3⟩), h2⟩
    · rintro ⟨rfl, h1, h2⟩
      refine ⟨fun h3 => ?_, .inr ⟨rfl, h2⟩⟩
      rcases h3 with h3 | ⟨_, h3⟩
      · exact Nat.lt_irrefl _ h3
      · exact h1 h3
theorem mid_eq {X sa : List Nat} (H : SA X sa) (y : List Nat) (c : Nat) : (sa.drop (cnt X y)).take (cnt X (y ++ [c]) - cnt X y) = (sa.filter fun p => !decide (X.drop p < y)).filter fun p => decide (X.drop p < y ++ [c]) := by
  rw [H.cnt_eq, H.cnt_eq, (take_count sa (H.down y)).2]
  have hs := (List.Pairwise.sublist (List.filter_sublist (p := fun p => !decide (X.drop p < y))) (H.down (y ++ [c])))
  rw [← (take_count _ hs).1]
  congr 1
  have e := countP_add (a := fun p => decide (X.drop p < y)) (b := fun p => decide (X.drop p < y ++ [c]) && !decide (X.drop p < y)) (c := fun p => decide (X.drop p < y ++ [c])) sa (fun p _ => by
    by_cases h1 : X.drop p < y
    · have h2 := List.lt_trans h1 (lt_snoc y c)
      rw [decide_eq_true h1, decide_eq_true h2]; rfl
    · rw [decide_eq_false h1]
      cases decide (X.drop p < y ++ [c]) <;> rfl)
  rw [List.countP_filter]
  omega
/-- the first mark from a place on, in a list in order -/
theorem nx_sorted {size j : Int} : ∀ (ns : List Int) (i : Nat), ns.Pairwise (· ≤ ·) → (nxMgo size j ns i = none ∧ ∀ m ∈ ns, ¬ j ≤ m) ∨ ∃ m g, nxMgo size j ns i = some (m, m + size, g) ∧ m ∈ ns ∧ j ≤ m ∧ ∀ k ∈ ns, j ≤ k → m ≤ k
  | [], _, _ => .inl ⟨rfl, fun _ h => nomatch h⟩
  | a :: r, i, h => by
    obtain ⟨h1, h2⟩ := List.pairwise_cons.mp h
    rw [nxMgo]
    by_cases ha : j ≤ a
    · rw [if_pos ha]
      refine .inr ⟨a, _, rfl, .head _, ha, fun k hk _ => ?_⟩
      rcases List.mem_cons.mp hk with rfl | hk
      · exact Int.le_refl _
      · exact h1 k hk
    · rw [if_neg ha]
      rcases nx_sorted r (i + 1) h2 with ⟨e, h3⟩ | ⟨m, g, e, h3, h4, h5⟩
      · refine .inl ⟨e, fun k hk => ?_⟩
        rcases List.mem_cons.mp hk with rfl | hk
        · exact ha
        · exact h3 k hk
      · refine .inr ⟨m, g, e, .tail _ h3, h4, fun k hk hj => ?_⟩
        rcases List.mem_cons.mp hk with rfl | hk
        · exact absurd hj ha
        · exact h5 k hk hj
section
variable {x : Str} {sa : List Nat} (hX : abc (tl x)) (H : SA (tl x) sa)
include hX H
theorem inv_end : (invGo (lastOfSA x sa) (lastOfSA x sa).length).1 = x ∧ (invGo (lastOfSA x sa) (lastOfSA x sa).length).2.2 = sa.map Int.ofNat := by
  have hl := last_len H
  obtain ⟨h1, h2, h3⟩ := inv_at hX H x.length (Nat.le_refl _)
  rw [hl, invGo, if_neg (by omega)]
  dsimp only
  rw [Nat.sub_self] at h1 h2
  refine ⟨by rw [h1, List.drop_zero], ?_⟩
  have hlt := H.cnt_lt (p := 0) (Nat.zero_le _)
  rw [tl_len] at hlt
  refine List.ext_getElem? fun k => ?_
  by_cases hk : k < sa.length
  · have hp := sa_le H _ (List.getElem_mem hk)
    have hidx : cnt (tl x) ((tl x).drop sa[k]) = k := by
      have h4 := H.idx (p := sa[k]) (by rw [tl_len]; exact hp)
      obtain ⟨h5, h6⟩ := List.getElem?_eq_some_iff.mp h4
      exact (List.getElem_inj (H.perm.nodup_iff.mpr List.nodup_range)).mp h6
    rw [List.getElem?_map, List.getElem?_eq_getElem hk, List.getElem?_set, h2, Int.toNat_natCast]
    by_cases e : cnt (tl x) ((tl x).drop 0) = k
    · rw [if_pos e, if_pos (by rw [inv_len, hl]; exact hlt)]
      have h4 := H.idx (p := 0) (Nat.zero_le _)
      rw [e, List.getElem?_eq_getElem hk] at h4
      rw [Option.some.inj h4]
      congr 1
      show ((lastOfSA x sa).length : Int) - 1 - x.length = 0
      omega
    · rw [if_neg e]
      have hj : x.length - sa[k] < x.length := by
        refine Nat.sub_lt_of_pos_le ?_ hp
        refine Nat.pos_of_ne_zero fun h0 => e ?_
        rw [h0] at hidx; exact hidx
      have h4 := h3 (x.length - sa[k]) hj
      rw [show x.length - (x.length - sa[k]) = sa[k] by omega, hidx] at h4
      rw [h4]; rfl
  · rw [List.getElem?_eq_none (by rw [List.length_set, inv_len, hl]; rw [sa_len H] at hk; omega), List.getElem?_eq_none (by rw [List.length_map]; omega)]
theorem inv_ok (h9 : x.length ≤ 9) : InvOk (lastOfSA x sa) := by
  intro i hi
  have hl := last_len H
  rw [hl] at hi ⊢
  obtain ⟨h1, h2, _⟩ := inv_at hX H i (by omega)
  have hk : x.length - i ≤ (tl x).length := by rw [tl_len]; omega
  have hlt := H.cnt_lt hk
  have hix := H.idx hk
  rw [tl_len] at hlt
  refine ⟨by rw [h2]; omega, by rw [h2]; omega, fun hi2 => ?_, ?_⟩
  · rw [h2, last_item H hlt, List.getD_eq_getElem?_getD, hix]
    show mk [ahead (tl x) (x.length - i)] ∈ L4
    rcases ahead_abc hX (p := x.length - i) (by omega) with e | e | e | e <;> rw [e]
    · exact .head _
    · exact .tail _ (.head _)
    · exact .tail _ (.tail _ (.head _))
    · exact .tail _ (.tail _ (.tail _ (.head _)))
  · rw [h1, ← tl_len, tl_mk, List.length_drop, tl_len]; omega
end
theorem abc_lt {l : List Nat} (h : abc l) : ∀ c ∈ l, c < 100 := fun c hc => by
  rcases h c hc with rfl | rfl | rfl <;> decide
/-- what the last letters tell -/
theorem told_ok {x y : Str} (h9 : x.length ≤ 9) (hX : abc (tl x)) (hY : abc (tl y)) (h0 : 0 < y.length) (z : Str) (sa : List Nat) (hsa : IsSA x sa) :
    (lastOfSA x sa).length = x.length + 1 ∧ InvOk (lastOfSA x sa) ∧ 0 ≤ lowGo (lastOfSA x sa) 0 y.cps.toList.reverse ∧ 0 ≤ lowGo (lastOfSA x sa) (lastOfSA x sa).length y.cps.toList.reverse ∧
    (invGo (lastOfSA x sa) (lastOfSA x sa).length).1 = x ∧ ∀ ns : List Int, ns.Perm (((invGo (lastOfSA x sa) (lastOfSA x sa).length).2.2.drop (lowGo (lastOfSA x sa) 0 y.cps.toList.reverse).toNat).take (min (lowGo (lastOfSA x sa) (lastOfSA x sa).length y.cps.toList.reverse).toNat (invGo (lastOfSA x sa) (lastOfSA x sa).length).2.2.length - (lowGo (lastOfSA x sa) 0 y.cps.toList.reverse).toNat)) → ns.Pairwise (· ≤ ·) →
      ns.length ≤ 1000 ∧ Goes (fun j => nxM ns y.length j) x.length ∧ pcGo x z (fun j => nxM ns y.length j) (x.length + 1) (Str.ofString "") x.length x.length = repl1 x (y, z) := by
  have H := sa_of hsa
  have hl := last_len H
  obtain ⟨i1, i2⟩ := inv_end hX H
  have l0 : lowGo (lastOfSA x sa) 0 y.cps.toList.reverse = (cnt (tl x) (tl y) : Nat) := by
    have := low_cnt hX H [] (tl y) hY
    rw [cnt_nil, List.append_nil] at this
    exact this
  have l1 : lowGo (lastOfSA x sa) (lastOfSA x sa).length y.cps.toList.reverse = (cnt (tl x) (tl y ++ [100]) : Nat) := by
    have := low_cnt hX H [100] (tl y) hY
    rw [cnt_big (abc_lt hX), tl_len, ← hl] at this
    exact this
  refine ⟨hl, inv_ok hX H h9, by rw [l0]; omega, by rw [l1]; omega, i1, ?_⟩
  rw [l0, l1, i2, Int.toNat_natCast, Int.toNat_natCast, List.length_map, sa_len H, Nat.min_eq_left (by rw [← tl_len]; exact cnt_le _ _), ← List.map_drop, ← List.map_take, mid_eq H]
  intro ns hp hs
  have hm : ∀ k : Int, k ∈ ns ↔ ∃ p : Nat, k = p ∧ Occ x y p := by
    intro k
    rw [hp.mem_iff, List.mem_map]
    constructor
    · rintro ⟨p, h1, rfl⟩
      obtain ⟨h1, h2⟩ := List.mem_filter.mp h1
      obtain ⟨h1, h3⟩ := List.mem_filter.mp h1
      refine ⟨p, rfl, ?_⟩
      rw [occ_iff h0, List.isPrefixOf_iff_prefix]
      refine (pre_iff (tl y) _ fun c hc => abc_lt hX c (List.mem_of_mem_drop hc)).mp ⟨?_, of_decide_eq_true h2⟩
      simpa using h3
    · rintro ⟨p, rfl, h1⟩
      have hb := h1.1
      rw [occ_iff h0, List.isPrefixOf_iff_prefix] at h1
      obtain ⟨h2, h3⟩ := (pre_iff (tl y) _ fun c hc => abc_lt hX c (List.mem_of_mem_drop hc)).mpr h1
      refine ⟨p, List.mem_filter.mpr ⟨List.mem_filter.mpr ⟨H.perm.mem_iff.mpr (List.mem_range.mpr (by rw [tl_len]; omega)), by simpa using h2⟩, decide_eq_true h3⟩, rfl⟩
  have hlen : ns.length ≤ 1000 := by
    rw [hp.length_eq, List.length_map]
    refine Nat.le_trans (List.length_filter_le _ _) (Nat.le_trans (List.length_filter_le _ _) ?_)
    rw [sa_len H]; omega
  refine ⟨hlen, ?_, ?_⟩
  · intro s i j g hs0 e
    obtain ⟨h1, h2, h3⟩ := nxM_some e
    obtain ⟨p, rfl, h4⟩ := (hm i).mp h1
    have := h4.1
    omega
  · refine pieces_eq z ?_ h0
    intro a ha
    rcases nx_sorted (size := y.length) (j := a) ns 0 hs with ⟨e, h1⟩ | ⟨m, g, e, h1, h2, h3⟩
    · exact .inl ⟨e, fun k hk ho => h1 k ((hm k).mpr ⟨k, rfl, ho⟩) (by omega)⟩
    · obtain ⟨p, rfl, h4⟩ := (hm m).mp h1
      refine .inr ⟨p, g, by omega, h4, fun k hk hkp ho => ?_, e⟩
      have := h3 k ((hm k).mpr ⟨k, rfl, ho⟩) (by omega)
      omega
end Mine
namespace Mine
open PySem PySem.Calls PySem.W PyProof.Rows PySem.Flt PySem.Builtin PySem.Builtin.ObjectAttr
theorem glue_mem {X Z : List Nat} {w : Nat} {c : Nat} : ∀ (cuts : List Nat) (a e : Nat), c ∈ glueTo X Z w a cuts e → c ∈ X ∨ c ∈ Z
  | [], a, e, h => .inl (List.mem_of_mem_drop (List.mem_of_mem_take h))
  | b :: r, a, e, h => by
    rcases List.mem_append.mp h with h | h
    · rcases List.mem_append.mp h with h | h
      · exact .inl (List.mem_of_mem_drop (List.mem_of_mem_take h))
      · exact .inr h
    · exact glue_mem r _ e h
theorem glue_len {x y : Str} (Z : List Nat) (hz : Z.length ≤ y.length) : ∀ (cuts : List Nat) (a f : Nat), ChainG x y x.length a cuts f → a ≤ x.length → (glueTo (tl x) Z y.length a cuts x.length).length ≤ x.length - a
  | [], a, f, h, ha => by
    show (((tl x).drop a).take (x.length - a)).length ≤ _
    rw [List.length_take]; omega
  | c :: r, a, f, h, ha => by
    obtain ⟨h1, h2, h3, h4⟩ := h
    have hb := h2.1
    have ih := glue_len Z hz r (c + y.length) f h4 hb
    show (((tl x).drop a).take (c - a) ++ Z ++ glueTo (tl x) Z y.length (c + y.length) r x.length).length ≤ _
    rw [List.length_append, List.length_append, List.length_take]
    omega
theorem rep_tl (x y z : Str) (hy : 1 ≤ y.length) : tl (repl1 x (y, z)) = glueTo (tl x) (tl z) y.length 0 (cutsOf x y) x.length := repl_tl x y z hy
theorem rep_len {x y z : Str} (h : z.length ≤ y.length) (hy : 1 ≤ y.length) : (repl1 x (y, z)).length ≤ x.length := by
  obtain ⟨f, h1, _⟩ := StrLaws.occ_tight x y hy
  have := glue_len (tl z) (by rw [tl_len]; exact h) _ 0 f h1 (Nat.zero_le _)
  rw [← tl_len, rep_tl x y z hy]; exact this
theorem rep_abc {x y z : Str} (hy : 1 ≤ y.length) (hx : abc (tl x)) (hz : abc (tl z)) : abc (tl (repl1 x (y, z))) := by
  intro c hc
  rw [rep_tl x y z hy] at hc
  rcases glue_mem _ _ _ hc with h | h
  · exact hx c h
  · exact hz c h
def good (x : Str) : Prop := x.length ≤ 9 ∧ abc (tl x)
theorem pick_mem {x : Str} {l : List Nat} {c : Nat} (h : c ∈ tl ⟨(l.filterMap (x.cps[·]?)).toArray⟩) : c ∈ tl x := by
  have h : c ∈ l.filterMap (x.cps[·]?) := h
  obtain ⟨i, _, e⟩ := List.mem_filterMap.mp h
  have := Array.mem_of_getElem? e
  exact Array.mem_toList_iff.mpr this
theorem slice_mem {x : Str} {l u : Option Int} {c : Nat} (h : c ∈ tl (Txt.slice x l u)) : c ∈ tl x := by
  unfold Txt.slice at h
  split at h
  · exact h
  · exact pick_mem h
theorem by_mem {x : Str} {l u : Option (Int × Tok)} {st : Int × Tok} {c : Nat} (h : c ∈ tl (Txt.sliceBy x l u st)) : c ∈ tl x := by
  unfold Txt.sliceBy at h
  split at h
  · exact h
  · exact pick_mem h
theorem idx_len {a b : Int} (h0 : 0 ≤ a) (hab : a ≤ b) (n : Nat) : ((PySem.Builtin.Str.strSliceIndices (some a) (some b) 1 n).length : Int) ≤ b - a := by
  unfold PySem.Builtin.Str.strSliceIndices sliceRange
  simp only [show (1 : Int) > 0 by decide, if_true, List.length_map, List.length_range, if_neg (show ¬ a < 0 by omega), if_neg (show ¬ b < 0 by omega), Int.ediv_one]
  split <;> omega
theorem slice_len {x : Str} {a b : Int} (h0 : 0 ≤ a) (hab : a ≤ b) : ((Txt.slice x (some a) (some b)).length : Int) ≤ b - a := by
  have hi := idx_len h0 hab x.length
  unfold Txt.slice
  split
  · rename_i h
    have : (PySem.Builtin.Str.strSliceIndices (some a) (some b) 1 x.length).length = x.length := by simpa using h
    omega
  · show (((PySem.Builtin.Str.strSliceIndices (some a) (some b) 1 x.length).filterMap (x.cps[·]?)).toArray.size : Int) ≤ _
    rw [List.size_toArray]
    have := List.length_filterMap_le (x.cps[·]?) (PySem.Builtin.Str.strSliceIndices (some a) (some b) 1 x.length)
    omega
theorem piece_ok {cur piece : Str} {n : Int} (h : good cur) (hp : PieceIs cur n piece) : 0 < piece.length ∧ piece.length ≤ 3 ∧ abc (tl piece) := by
  rcases hp with ⟨e, h0⟩ | e
  · have hn : (0 : Int) < (if (cur.length : Int) > 1 then (cur.length : Int) else 1) := by split <;> omega
    have p0 : 0 ≤ placeF cur n := Int.fmod_nonneg_of_pos _ hn
    have k0 : 0 ≤ (n.fdiv 27).fmod 3 := Int.fmod_nonneg_of_pos _ (by decide)
    have k3 : (n.fdiv 27).fmod 3 < 3 := Int.fmod_lt_of_pos _ (by decide)
    have hl := slice_len (x := cur ++ cur) (a := placeF cur n) (b := placeF cur n + 1 + (n.fdiv 27).fmod 3) p0 (by omega)
    have hl2 : (piece.length : Int) ≤ placeF cur n + 1 + (n.fdiv 27).fmod 3 - placeF cur n := by rw [e]; exact hl
    refine ⟨by omega, by omega, fun c hc => ?_⟩
    rw [e] at hc
    have hc := slice_mem hc
    rw [tl_append] at hc
    rcases List.mem_append.mp hc with hc | hc <;> exact h.2 c hc
  · rw [e]
    refine ⟨by decide +kernel, by decide +kernel, fun c hc => ?_⟩
    have hc : c ∈ [97] := hc
    exact .inl (List.mem_singleton.mp hc)
theorem fold_reps (a : Array Nat) : ∀ (n : Nat) (b : Array Nat), ((List.replicate n a).foldl (· ++ ·) b).toList = b.toList ++ (List.replicate n a.toList).flatten
  | 0, b => by simp
  | n + 1, b => by
    rw [List.replicate_succ, List.foldl_cons, fold_reps a n, Array.toList_append, List.replicate_succ, List.flatten_cons, List.append_assoc]
theorem mul_tl {x : Str} {n : Nat} (hn : 1 ≤ n) : tl (Txt.mul x (n : Int)) = (List.replicate n (tl x)).flatten := by
  unfold Txt.mul
  rw [if_neg (by omega)]
  split
  · rename_i h
    rw [Bool.or_eq_true, beq_iff_eq, beq_iff_eq] at h
    rcases h with h | h
    · have : n = 1 := by omega
      subst this
      simp
    · have : tl x = [] := List.length_eq_zero_iff.mp (by rw [tl_len]; exact h)
      rw [this]; simp
  · show ((List.replicate (n : Int).toNat x.cps).foldl (· ++ ·) #[]).toList = _
    rw [fold_reps, Int.toNat_natCast]; simp
theorem item_last {x : Str} (h : 0 < x.length) : ∃ c, Txt.item x (-1) = mk [c] ∧ c ∈ tl x := by
  have hl : x.length - 1 < x.cps.size := by unfold Str.length at *; omega
  have e : Txt.charAt x (-1) = some (x.cps[x.length - 1]) := by
    have hs : seqIndex? (-1) x.length = some (x.length - 1) := by
      unfold seqIndex?
      simp
      omega
    unfold Txt.charAt
    rw [hs]
    simp [hl]
  refine ⟨x.cps[x.length - 1], ?_, Array.mem_toList_iff.mpr (Array.getElem_mem hl)⟩
  unfold Txt.item
  rw [e]; rfl
theorem given_ok {piece given : Str} (h0 : 0 < piece.length) (hp : abc (tl piece)) (h : GivenIs piece given) : given.length ≤ piece.length ∧ abc (tl given) := by
  rcases h with e | ⟨t, e⟩ | e | e | ⟨_, e⟩
  · rw [e]
    exact ⟨Nat.zero_le _, fun c hc => by have hc : c ∈ [] := hc; cases hc⟩
  · rw [e]
    exact ⟨Txt.sliceBy_le _ _ _ _ (show (-1 : Int) ≠ 0 by decide), fun c hc => hp c (by_mem hc)⟩
  · rw [e]
    refine ⟨h0, fun c hc => ?_⟩
    have hc : c ∈ [99] := hc
    exact .inr (.inr (List.mem_singleton.mp hc))
  · obtain ⟨c, e1, e2⟩ := item_last h0
    rw [e1] at e
    have e3 : tl given = List.replicate piece.length c := by
      rw [e, mul_tl h0]
      show (List.replicate piece.length [c]).flatten = _
      simp
    refine ⟨by rw [← tl_len given, e3, List.length_replicate]; exact Nat.le_refl _, fun d hd => ?_⟩
    rw [e3] at hd
    rw [(List.mem_replicate.mp hd).2]
    exact hp c e2
  · rw [e]
    refine ⟨h0, fun c hc => ?_⟩
    have hc : c ∈ [97] := hc
    exact .inl (List.mem_singleton.mp hc)
theorem pick_abc (a : Int) : Txt.item (Str.ofString "abc") (a.fmod 3) = mk [if a.fmod 3 = 0 then 97 else if a.fmod 3 = 1 then 98 else 99] := by
  have h0 : 0 ≤ a.fmod 3 := Int.fmod_nonneg_of_pos _ (by decide)
  have h1 : a.fmod 3 < 3 := Int.fmod_lt_of_pos _ (by decide)
  rcases (by omega : a.fmod 3 = 0 ∨ a.fmod 3 = 1 ∨ a.fmod 3 = 2) with e | e | e
  · rw [e]; rfl
  · rw [e]; rfl
  · rw [e]; rfl
theorem facts : Facts2 good where
  g9 x h := h.1
  gw ns h := by
    have e : tl (Txt.join (Str.ofString "") (ns.map fun a => Txt.item (Str.ofString "abc") (a.fmod 3))) = ns.map fun a => if a.fmod 3 = 0 then 97 else if a.fmod 3 = 1 then 98 else 99 := by
      rw [join_tl]
      exact flat_ones _ ns _ fun a _ => pick_abc a
    refine ⟨by rw [← tl_len, e, List.length_map, h]; exact Nat.le_refl _, fun c hc => ?_⟩
    rw [e] at hc
    obtain ⟨a, _, rfl⟩ := List.mem_map.mp hc
    split
    · exact .inl rfl
    · split
      · exact .inr (.inl rfl)
      · exact .inr (.inr rfl)
  turn cur n piece given h hp hg := by
    obtain ⟨p1, p2, p3⟩ := piece_ok h hp
    obtain ⟨g1, g2⟩ := given_ok p1 p3 hg
    have h9 := h.1
    refine { len := h9, p0 := p1, p9 := by omega, g9 := by omega, rep := ⟨by omega, p1, show piece.length ≤ 100 by omega, show given.length ≤ 100 by omega, trivial⟩, next := ⟨Nat.le_trans (rep_len g1 p1) h9, rep_abc p1 h.2 g2⟩, letters := fun c hc => ?_, told := fun sa hsa => told_ok h9 h.2 p3 p1 given sa hsa }
    rcases p3 c hc with rfl | rfl | rfl
    · exact ⟨by decide, .tail _ (.head _)⟩
    · exact ⟨by decide, .tail _ (.tail _ (.head _))⟩
    · exact ⟨by decide, .tail _ (.tail _ (.tail _ (.head _)))⟩
end Mine
theorem PySem.Challenge.cw_ph0008_02_holds : PySem.Challenge.rw_ph0008_02.Holds :=
  Mine.fin _ Mine.facts
