import PyProof.Rows.All
import Wide.All
import OpenK.AllK
import Wide.FinOn
import KE.KPar
import KE.KUnrMore
import Lean
import PySem.Challenge.RW_ph0008_01
set_option Elab.async false
set_option maxRecDepth 100000
set_option maxHeartbeats 8000000
set_option linter.all false
open PySem PySem.W PyProof.Rows
namespace Mine
open_top hd for PySem.Challenge.rw_ph0008_01
end Mine
namespace Mine
open PySem PySem.Calls PySem.W PyProof.Rows PySem.Flt
theorem lk_function_getattr : typeLookup (.type "function") "__getattr__" = pure none := by rw [typeLookup_type, builtinLookup_eq_fast]; kernel_rfl
theorem slot_function_ga : Slot "function" "__getattribute__" "object.__getattribute__" :=
  .of (owner := "object") (n := "__getattribute__") (by rw [typeLookup_type, builtinLookup_eq_fast]; kernel_rfl) (by decide +kernel) (by decide +kernel) (by decide +kernel)
    (by first | exact .inl (by decide +kernel) | exact .inr (by decide +kernel)) (by rw [isSubtype_type]; kernel_rfl)
theorem args_object_ga (a b : Value) : argsOk "object.__getattribute__" ⟨[a, b], []⟩ := by unfold argsOk; kernel_rfl
theorem canon_object_ga : (Manifest.canonical "object.__getattribute__" != "object.__getattribute__") = false := by decide +kernel
theorem sub_function_static : isSubtype (.type "function") (.type "staticmethod") = pure false := by rw [isSubtype_type]; kernel_rfl
theorem sub_function_classm : isSubtype (.type "function") (.type "classmethod") = pure false := by rw [isSubtype_type]; kernel_rfl
theorem slot_function_sa : Slot "function" "__setattr__" "object.__setattr__" :=
  .of (owner := "object") (n := "__setattr__") (by rw [typeLookup_type, builtinLookup_eq_fast]; kernel_rfl) (by decide +kernel) (by decide +kernel) (by decide +kernel)
    (by first | exact .inl (by decide +kernel) | exact .inr (by decide +kernel)) (by rw [isSubtype_type]; kernel_rfl)

/-- a function object with a dict of its own -/
def FnD (h : Heap) (a D : Addr) (md : Str → Option Value) : Prop := (∃ fd sl, h.get? a = some ⟨.type "function", some D, .func fd, sl⟩) ∧ h.Ns D md

section
variable {prog : Program} {w : World} {A : Around} {E : Value → Shared → Prop} {h : Heap} {g : Array GenState} {d : Drawn} {t : Nat} {os : OsState} {a D : Addr} {md : Str → Option Value}
theorem fn_entry {name : Str} {tk : Tok} {v : Value} {Q : Fin → Shared → Prop} (hm : FnD h a D md) (hnm : typeLookup (.type "function") name = pure none) (hv : md name = some v)
    (hq : Q (.done (.ret v)) ⟨h, g, d, t, os⟩) : wpAny (model prog w) A (Builtin.«object.__getattribute__» ⟨[.ref a, .str name tk], []⟩) Q E ⟨h, g, d, t, os⟩ := by
  obtain ⟨⟨fd, sl, hM⟩, hD⟩ := hm
  have hT : (⟨h, g, d, t, os⟩ : Shared).TypeIs (.ref a) "function" := ⟨_, hM, rfl⟩
  have f1 := sub_function_static
  have f2 := sub_function_classm
  repeat (any_goals (first | assumption | with_reducible apply wpAny_nsGet_known | with_reducible apply wpAny_loadPart_known | wp_step))

theorem fn_getMethod {name : Str} {v : Value} {pl : Sem Bool} {Q : Value × List Value → Shared → Prop} (hm : FnD h a D md) (hnm : typeLookup (.type "function") name = pure none) (hv : md name = some v)
    (hh : handedOut v = pure v) (hq : Q (v, []) ⟨h, g, d, t + 1, os⟩) : wpAny (model prog w) A (getMethod (.ref a) name pl) Q E ⟨h, g, d, t, os⟩ := by
  have hm' := hm
  obtain ⟨⟨fd, sl, hM⟩, hD⟩ := hm
  have hT : (⟨h, g, d, t, os⟩ : Shared).TypeIs (.ref a) "function" := ⟨_, hM, rfl⟩
  have hT1 : (⟨h, g, d, t + 1, os⟩ : Shared).TypeIs (.ref a) "function" := ⟨_, hM, rfl⟩
  have f1 := slot_function_ga.lookup
  have f2 := lk_function_getattr
  have f4 := slot_function_ga.bind (.ref a)
  unfold getMethod
  refine wpAny_bind (wpAny_specialOf hT f1 ?_)
  show wpAny _ A (if (Manifest.canonical "object.__getattribute__" != "object.__getattribute__") = true then _ else _) Q E _
  rw [canon_object_ga, if_neg Bool.false_ne_true]
  refine wpAny_bind (wpAny_specialOf hT f2 ?_)
  dsimp only
  refine wpAny_bind (wpAny_specialOf hT hnm ?_)
  repeat (any_goals (first | assumption | wp_step))
  refine codeAny_call_builtin slot_function_ga.plain F.entry_object_getattribute (slot_function_ga.check _ _ _ _ _ _ _ _ hT1 (args_object_ga _ _) (fn_entry hm' hnm hv ?_))
  repeat (any_goals (first | assumption | wp_step))

theorem fn_getAttr {name : Str} {v : Value} {ex : Bool} {Q : Value → Shared → Prop} (hm : FnD h a D md) (hnm : typeLookup (.type "function") name = pure none) (hv : md name = some v)
    (hh : handedOut v = pure v) (hq : Q v ⟨h, g, d, t + 1, os⟩) : wpAny (model prog w) A (getAttr (.ref a) name ex) Q E ⟨h, g, d, t, os⟩ := by
  have hm' := hm
  obtain ⟨⟨fd, sl, hM⟩, hD⟩ := hm
  have hT : (⟨h, g, d, t, os⟩ : Shared).TypeIs (.ref a) "function" := ⟨_, hM, rfl⟩
  have hT1 : (⟨h, g, d, t + 1, os⟩ : Shared).TypeIs (.ref a) "function" := ⟨_, hM, rfl⟩
  have f1 := slot_function_ga.lookup
  have f2 := lk_function_getattr
  have f4 := slot_function_ga.bind (.ref a)
  cases ex
  all_goals (
    repeat (any_goals (first | assumption | (rw [if_neg (show ¬ (true && onTheHeap (Value.builtin "object.__getattribute__")) = true by decide)]) | wp_step))
    refine codeAny_call_builtin slot_function_ga.plain F.entry_object_getattribute (slot_function_ga.check _ _ _ _ _ _ _ _ hT1 (args_object_ga _ _) (fn_entry hm' hnm hv ?_))
    repeat (any_goals (first | assumption | wp_step)))
end
end Mine
namespace Mine
open PySem PySem.Calls PySem.W PyProof.Rows PySem.Flt PySem.Builtin PySem.Builtin.ObjectAttr
theorem mro_function : mroOf (.type "function") = pure [.type "function", .type "object"] := by kernel_rfl
theorem refuse_function (self : Value) : refuseLoop self "__setattr__" [.type "function", .type "object"] = pure () := by kernel_rfl
theorem args_object_sa (a b c : Value) : argsOk "object.__setattr__" ⟨[a, b, c], []⟩ := by unfold argsOk; kernel_rfl

section
variable {prog : Program} {w : World} {A : Around} {E : Value → Shared → Prop} {h : Heap} {g : Array GenState} {d : Drawn} {t : Nat} {os : OsState} {a D : Addr} {fd : FuncData} {sl : Array (Option Value)}
theorem fn_setOpen {name : Str} {v : Value} {Q : Unit → Shared → Prop} {dd : Option Addr} (ha : h.get? a = some ⟨.type "function", dd, .func fd, sl⟩) (hnm : typeLookup (.type "function") name = pure none)
    (hq : wpAny (model prog w) A.in1 (instanceDict a true) (fun r s' => match r with
       | some d => wpAny (model prog w) A.in1 (nsSet d name v) (fun _ s'' => wpAny (model prog w) A.in1 (lookBehind d (some (.str name 0))) (fun _ s3 => Q () s3) E s'') E s'
       | none => False) E ⟨h, g, d, t + 1, os⟩) : wpAny (model prog w) A (setAttr (.ref a) name v) Q E ⟨h, g, d, t, os⟩ := by
  have hT : (⟨h, g, d, t + 1, os⟩ : Shared).TypeIs (.ref a) "function" := ⟨_, ha, rfl⟩
  unfold setAttr
  refine wpAny_bind (m := mkText name) ?_
  unfold mkText
  refine wpAny_bind (wpAny_fresh' (wpAny_pure (wpAny_bind ?_)))
  refine wpAny_callSpecial?_slot hT slot_function_sa (wpAny_call (codeAny_call_builtin slot_function_sa.plain F.entry_object_setattr (slot_function_sa.check _ _ _ _ _ _ _ _ hT (args_object_sa _ _ _) ?_)))
  rw [osa_eq, refuse_eq]
  refine wpAny_bind (wpAny_bind (wpAny_typeOf hT (wpAny_bind (wpAny_of_eq mro_function ?_))))
  rw [refuse_function]
  refine wpAny_pure (wpAny_bind (wpAny_typeOf hT (wpAny_bind (wpAny_of_eq hnm ?_))))
  refine wpAny_bind (m := storeTaker? none) (wpAny_pure ?_)
  dsimp only
  unfold storeInOwnDict
  refine wpAny_bind (m := ownStreamTells (.ref a) (.type "function")) (wpAny_of_eq (a := ()) (by kernel_rfl) ?_)
  dsimp only
  rw [if_neg (by decide)]
  refine wpAny_bind (m := ownDictForStores (.ref a)) ?_
  unfold ownDictForStores
  refine wpAny_mono hq (fun r s' h' => ?_) fun _ _ x => x
  cases r with
  | none => exact h'.elim
  | some d =>
    dsimp only at h' ⊢
    unfold storeInDict newKeyGuard
    refine wpAny_bind (wpAny_pure (wpAny_bind (wpAny_mono h' (fun _ s'' h'' => wpAny_bind (wpAny_mono h'' (fun _ s3 h3 => wpAny_pure (wpAny_pure h3)) fun _ _ x => x)) fun _ _ x => x)))
end
end Mine
namespace Mine
open PySem PySem.Calls PySem.W PyProof.Rows PySem.Flt PySem.Builtin PySem.Builtin.ObjectAttr
abbrev fnObj (dd : Option Addr) (fd : FuncData) : Obj := ⟨.type "function", dd, .func fd, #[]⟩
theorem hasDict_function : typeHasDict (.type "function") = true := by decide +kernel
section
variable {prog : Program} {w : World} {A : Around} {E : Value → Shared → Prop} {s : Shared} {h₀ : Heap} {L a D : Addr} {m : Str → Option Value} {news : List (Addr × Obj)} {fd : FuncData} {name : Str} {v : Value} {Q : Unit → Shared → Prop}
theorem fn_set0 (F : Fr h₀ L s.heap m) (N : News h₀ L s.heap ((a, fnObj none fd) :: news)) (h2 : ∀ p ∈ news, p.1 ≠ a) (hnm : typeLookup (.type "function") name = pure none)
    (h : ∀ D h' t' tk, Fr h₀ L h' m → News h₀ L h' ((D, dictOf [⟨PyData.keyHash w.params name, .str name t', v⟩] 1) :: (a, fnObj (some D) fd) :: news) → s.heap.objs.size ≤ D → Q () { s with heap := h', toks := tk }) :
    wpAny (model prog w) A (setAttr (.ref a) name v) Q E s := by
  obtain ⟨hp, g, d, t, os⟩ := s
  refine fn_setOpen (N _ (.head _)).1 hnm ?_
  have F1 : Fr h₀ L (hp.push (dictOf [] 0)) m := F.push _
  have N1 := N.push F (dictOf [] 0)
  have ne : a ≠ hp.objs.size := Nat.ne_of_lt (Heap.lt_size (N _ (.head _)).1)
  obtain ⟨U1, U2⟩ := news_upd (pre := [(hp.objs.size, dictOf [] 0)]) (d := a) (post := news) (o := fnObj none fd) (o' := fnObj (some hp.objs.size) fd) (f := fun o => { o with dict := some hp.objs.size }) F1 N1 (by intro p hp'; rw [List.mem_singleton.mp hp']; exact Ne.symm ne) h2 rfl rfl
  unfold instanceDict
  refine wpAny_bind (wpAny_loadPart (N _ (.head _)).1 ?_)
  dsimp only
  rw [hasDict_function]
  refine wpAny_bind (wpAny_alloc' ?_)
  refine wpAny_bind (wpAny_update' (N1 _ (.tail _ (.head _))).1 ?_)
  unfold dictMade
  dsimp only
  rw [if_neg (by decide +kernel)]
  refine wpAny_pure ?_
  dsimp only
  refine kp_nsSet (es := []) (n := 0) (s := ⟨_, g, d, t + 1, os⟩) (d := hp.objs.size) (news := (a, fnObj (some hp.objs.size) fd) :: news) U1 U2 ?_ (fun e he => nomatch he) (fun e he => nomatch he) fun h' F' N' => ?_
  · intro p hp'
    rcases List.mem_cons.mp hp' with rfl | hp'
    · exact ne
    · exact Nat.ne_of_lt (Heap.lt_size (N _ (.tail _ hp')).1)
  · refine wpAny_lookBehind (N' _ (.head _)).1 (pastItsLine_dict (by simp [sizeLine_eq])) ?_
    exact h _ h' _ _ F' N' (Nat.le_refl _)
theorem fn_set1 {es : List DictEntry} {n : Nat} (F : Fr h₀ L s.heap m) (N : News h₀ L s.heap ((D, dictOf es n) :: (a, fnObj (some D) fd) :: news)) (h2 : ∀ p ∈ (a, fnObj (some D) fd) :: news, p.1 ≠ D) (hnm : typeLookup (.type "function") name = pure none)
    (hs : ∀ e ∈ es, e.key.isStr name = false) (hr : ∀ e ∈ es, e.refKey = false) (hz : es.length ≤ 1000)
    (h : ∀ h' t' tk, Fr h₀ L h' m → News h₀ L h' ((D, dictOf (es ++ [⟨PyData.keyHash w.params name, .str name t', v⟩]) (n + 1)) :: (a, fnObj (some D) fd) :: news) → Q () { s with heap := h', toks := tk }) :
    wpAny (model prog w) A (setAttr (.ref a) name v) Q E s := by
  obtain ⟨hp, g, d, t, os⟩ := s
  refine fn_setOpen (N _ (.tail _ (.head _))).1 hnm ?_
  unfold instanceDict
  refine wpAny_bind (wpAny_loadPart (N _ (.tail _ (.head _))).1 ?_)
  dsimp only
  refine wpAny_pure ?_
  dsimp only
  refine kp_nsSet (s := ⟨_, g, d, t + 1, os⟩) F N h2 hs hr fun h' F' N' => ?_
  refine wpAny_lookBehind (N' _ (.head _)).1 (pastItsLine_dict (by simp [sizeLine_eq]; omega)) ?_
  exact h h' _ _ F' N'
end
end Mine
namespace Mine
open PySem PySem.Calls PySem.W PyProof.Rows PySem.Flt PySem.Builtin PySem.Builtin.ObjectAttr
theorem lk_function_bool : typeLookup (.type "function") "__bool__" = pure none := by rw [typeLookup_type, builtinLookup_eq_fast]; kernel_rfl
theorem lk_function_len : typeLookup (.type "function") "__len__" = pure none := by rw [typeLookup_type, builtinLookup_eq_fast]; kernel_rfl
theorem lk_function_span : typeLookup (.type "function") "span" = pure none := by rw [typeLookup_type, builtinLookup_eq_fast]; kernel_rfl
theorem lk_function_search : typeLookup (.type "function") "search" = pure none := by rw [typeLookup_type, builtinLookup_eq_fast]; kernel_rfl
theorem lk_function_given : typeLookup (.type "function") "given" = pure none := by rw [typeLookup_type, builtinLookup_eq_fast]; kernel_rfl
theorem lk_function_number : typeLookup (.type "function") "number" = pure none := by rw [typeLookup_type, builtinLookup_eq_fast]; kernel_rfl
theorem fn_truthy {M : Model} {A : Around} {E : Value → Shared → Prop} {s : Shared} {a : Addr} {dd : Option Addr} {fd : FuncData} {sl : Array (Option Value)} {Q : Bool → Shared → Prop}
    (ha : s.heap.get? a = some ⟨.type "function", dd, .func fd, sl⟩) (h : Q true s) : wpAny M A (truthy (.ref a)) Q E s := by
  have hT : s.TypeIs (.ref a) "function" := ⟨_, ha, rfl⟩
  unfold truthy
  refine wpAny_bind (wpAny_callSpecial?_none hT lk_function_bool ?_)
  dsimp only
  refine wpAny_bind (wpAny_specialOf hT lk_function_len ?_)
  exact wpAny_pure h
end Mine
namespace Mine
open PySem PySem.Calls PySem.W PyProof.Rows PySem.Flt PySem.Builtin PySem.Builtin.ObjectAttr

abbrev Ldg := List (Addr × Obj)
def CodeLike (oc : Obj) (q : Str) : Prop := ∃ vs t, oc.data = .fields vs ∧ vs[1]? = some (.str q t)
def TabAt (Λ : Ldg) (P : Addr) (q : Str) : Prop :=
  ∃ ps, (P, tabObj ps) ∈ Λ ∧ TriplesOk ps.toList ∧ ∀ pos v, codeAmong pos ps.toList = some v → ∃ c oc, v = .ref c ∧ (c, oc) ∈ Λ ∧ CodeLike oc q
def TabOk (sp : List (Addr × Str)) (Λ : Ldg) : Prop := ∀ x ∈ sp, TabAt Λ x.1 x.2
def NT (o : Obj) : Prop := ∀ ps, o = tabObj ps → ¬ TriplesOk ps.toList
theorem NT.of_cls {o : Obj} (h : o.cls ≠ .none) : NT o := fun _ e _ => h (by rw [e])
structure Step (Λ Λ' : Ldg) : Prop where
  keep : ∀ p ∈ Λ, NT p.2 → p ∈ Λ'
  addr : ∀ p ∈ Λ, ∃ q ∈ Λ', q.1 = p.1
  fresh : ∀ p ∈ Λ', (∃ q ∈ Λ, q.1 = p.1) ∨ ∀ q ∈ Λ, q.1 < p.1

theorem news_inj {h₀ h : Heap} {L : Addr} {Λ : Ldg} (N : News h₀ L h Λ) {a : Addr} {o o' : Obj} (h1 : (a, o) ∈ Λ) (h2 : (a, o') ∈ Λ) : o = o' := by
  have e1 := (N _ h1).1
  have e2 := (N _ h2).1
  rw [e1] at e2
  exact Option.some.inj e2
theorem news_sub {h₀ h : Heap} {L : Addr} {Λ Λ' : Ldg} (N : News h₀ L h Λ) (hs : ∀ p ∈ Λ', p ∈ Λ) : News h₀ L h Λ' := fun p hp => N p (hs p hp)

theorem Step.refl {Λ : Ldg} : Step Λ Λ := ⟨fun _ hp _ => hp, fun p hp => ⟨p, hp, rfl⟩, fun p hp => .inl ⟨p, hp, rfl⟩⟩
theorem Step.app {Λ X : Ldg} (hx : ∀ p ∈ X, ∀ q ∈ Λ, q.1 < p.1) : Step Λ (X ++ Λ) :=
  ⟨fun _ hp _ => List.mem_append_right _ hp, fun p hp => ⟨p, List.mem_append_right _ hp, rfl⟩, fun p hp => (List.mem_append.mp hp).elim (fun q => .inr (hx p q)) fun q => .inl ⟨p, q, rfl⟩⟩
theorem Step.cons {Λ : Ldg} {x : Addr × Obj} (hx : ∀ q ∈ Λ, q.1 < x.1) : Step Λ (x :: Λ) :=
  Step.app (X := [x]) fun p hp q hq => by rw [List.mem_singleton.mp hp]; exact hx q hq
theorem Step.trans {Λ Λ' Λ'' : Ldg} (a : Step Λ Λ') (b : Step Λ' Λ'') : Step Λ Λ'' :=
  ⟨fun p hp hc => b.keep p (a.keep p hp hc) hc, fun p hp => let ⟨q, hq, e⟩ := a.addr p hp; let ⟨r, hr, e'⟩ := b.addr q hq; ⟨r, hr, e'.trans e⟩, fun p hp => by
    rcases b.fresh p hp with ⟨q, hq, e⟩ | e
    · rw [← e]; exact a.fresh q hq
    · exact .inr fun q hq => by obtain ⟨r, hr, e'⟩ := a.addr q hq; rw [← e']; exact e r hr⟩

theorem codeAmong_snoc_ne {pos pos' : Pos} {c v : Value} (l : List Value) (h : TriplesOk l) (e : codeAmong pos (l ++ [rawInt pos'.line, rawInt pos'.col, c]) = some v) : codeAmong pos l = some v ∨ v = c := by
  fun_induction TriplesOk l with
  | case1 =>
    simp only [List.nil_append, codeAmong, rawInt] at e
    split at e
    · exact .inr (Option.some.inj e).symm
    · cases e
  | case2 a t b u x rest ih =>
    simp only [List.cons_append, codeAmong] at e ⊢
    split at e
    · rename_i hc; rw [if_pos hc]; exact .inl e
    · rename_i hc; rw [if_neg hc]; exact ih h e
  | case3 l h1 h2 => exact h.elim

theorem tab_not_code {ps : Array Value} {q : Str} (h : TriplesOk ps.toList) : ¬ CodeLike (tabObj ps) q := by
  rintro ⟨vs, t, d, v⟩
  cases d
  obtain ⟨l⟩ := ps
  match l, h, v with
  | [], _, v => simp at v
  | .int _ _ :: .int _ _ :: _ :: _, _, v => simp at v

theorem NT.of_code {o : Obj} {q : Str} (h : CodeLike o q) : NT o := fun _ e t => tab_not_code t (e ▸ h)

section
variable {M : Model} {A : Around} {E : Value → Shared → Prop} {s : Shared} {h₀ : Heap} {L a c P : Addr} {m mg mb : Str → Option Value} {cn : Str} {cs : Scope} {ccd : Value} {cl : List (Str × Addr)}
  {p : Program} {loose : List Str} {mean : ExcName → Option Value} {name qual : Str} {params : Arguments} {body : FuncBody} {scope : Scope} {pos : Pos} {firstLine : Nat} {clos : List (Str × Addr)} {sp : List (Addr × Str)} {Λ : Ldg}

theorem lam_led {dV : Value} {Q : Value → Shared → Prop} (F : Fr h₀ L s.heap m) (N : News h₀ L s.heap Λ) (T : Top p loose mean mg mb h₀) (C : CodeHd h₀ c P) (hcd : ccd = .ref c) (hT : TabOk sp Λ) (hnd : ∀ x ∈ sp, ∀ y ∈ sp, x.1 = y.1 → x.2 = y.2) (hP : (P, qual) ∈ sp)
    (hcl : closureFor scope (envX cn cs L a ccd cl) = pure clos)
    (h : ∀ f c' oc doc ctv h' tk Λ', Fr h₀ L h' m → News h₀ L h' ((f, kdv_obj name qual params body scope clos dV doc ((mg "__name__").getD .none) c' ctv) :: Λ') → TabOk sp Λ' → Step Λ Λ' → (c', oc) ∈ Λ' → CodeLike oc qual →
      (∀ q ∈ Λ', q.1 < f) → Q (.ref f) { s with heap := h', toks := tk }) :
    wpAny M A (makeTail name qual params body scope (envX cn cs L a ccd cl) dV .none none pos firstLine) Q E s := by
  obtain ⟨ps, hmem, htr, hcode⟩ := hT _ hP
  cases hf : codeAmong pos ps.toList with
  | some v =>
    obtain ⟨c', oc, rfl, hc', hlike⟩ := hcode pos v hf
    exact kdv_hit F N T C hcd hmem htr hf hcl fun f ctv doc h' tk F' N' hlt => h f c' oc doc ctv h' tk Λ F' N' hT .refl hc' hlike hlt
  | none =>
    have N0 : News h₀ L s.heap ((P, tabObj ps) :: Λ.filter fun p => p.1 != P) := news_sub N fun q hq => by
      rcases List.mem_cons.mp hq with rfl | hq
      · exact hmem
      · exact (List.mem_filter.mp hq).1
    refine kdv_nest F N0 T C hcd (.head fun q hq => by simpa using (List.mem_filter.mp hq).2) htr hf hcl fun f c' oc vs t ctv doc h' tk F' N' hd hv hlt hcf => ?_
    refine h f c' oc doc ctv h' tk _ F' N' ?_ ?_ (.head _) ⟨vs, t, hd, hv⟩ ?_
    · intro x hx
      by_cases hxP : x.1 = P
      · have hq : x.2 = qual := hnd x hx (P, qual) hP hxP
        rw [hxP, hq]
        refine ⟨ps ++ #[rawInt pos.line, rawInt pos.col, .ref c'], .tail _ (.head _), by simpa using TriplesOk_snoc _ _ _ _ htr, fun pos' v e => ?_⟩
        rcases codeAmong_snoc_ne ps.toList htr (by simpa using e) with e | rfl
        · obtain ⟨c2, oc2, rfl, h2, l2⟩ := hcode pos' v e
          have hc2 : c2 ≠ P := by
            rintro rfl
            have := news_inj N h2 hmem
            subst this
            exact tab_not_code htr l2
          exact ⟨c2, oc2, rfl, .tail _ (.tail _ (List.mem_filter.mpr ⟨h2, by simpa using hc2⟩)), l2⟩
        · exact ⟨c', oc, rfl, .head _, vs, t, hd, hv⟩
      · obtain ⟨ps2, m2, t2, k2⟩ := hT x hx
        refine ⟨ps2, .tail _ (.tail _ (List.mem_filter.mpr ⟨m2, by simpa using hxP⟩)), t2, fun pos' v e => ?_⟩
        obtain ⟨c2, oc2, rfl, h2, l2⟩ := k2 pos' v e
        have hc2 : c2 ≠ P := by
          rintro rfl
          have := news_inj N h2 hmem
          subst this
          exact tab_not_code htr l2
        exact ⟨c2, oc2, rfl, .tail _ (.tail _ (List.mem_filter.mpr ⟨h2, by simpa using hc2⟩)), l2⟩
    · have hlt' : ∀ q ∈ Λ, q.1 < c' := fun q hq => by
        by_cases hqP : q.1 = P
        · rw [hqP]; exact hlt (P, tabObj ps) (.head _)
        · exact hlt q (.tail _ (List.mem_filter.mpr ⟨hq, by simpa using hqP⟩))
      refine ⟨fun q hq hc => ?_, fun q hq => ?_, fun q hq => ?_⟩
      · by_cases hqP : q.1 = P
        · obtain ⟨qa, qo⟩ := q
          cases hqP
          have := news_inj N hq hmem
          subst this
          exact absurd htr (hc ps rfl)
        · exact .tail _ (.tail _ (List.mem_filter.mpr ⟨hq, by simpa using hqP⟩))
      · by_cases hqP : q.1 = P
        · exact ⟨_, .tail _ (.head _), hqP.symm⟩
        · exact ⟨q, .tail _ (.tail _ (List.mem_filter.mpr ⟨hq, by simpa using hqP⟩)), rfl⟩
      · rcases List.mem_cons.mp hq with rfl | hq
        · exact .inr hlt'
        · rcases List.mem_cons.mp hq with rfl | hq
          · exact .inl ⟨_, hmem, rfl⟩
          · exact .inl ⟨q, (List.mem_filter.mp hq).1, rfl⟩
    · intro q hq
      rcases List.mem_cons.mp hq with rfl | hq
      · exact hcf
      · rcases List.mem_cons.mp hq with rfl | hq
        · exact Nat.lt_trans (hlt (P, tabObj ps) (.head _)) hcf
        · exact Nat.lt_trans (hlt q (.tail _ hq)) hcf
end
end Mine
namespace Mine
open PySem PySem.Calls PySem.W PyProof.Rows PySem.Flt PySem.Builtin PySem.Builtin.ObjectAttr

structure Gl where
  prog : Program
  w : World
  K : Frag
  p : Program
  loose : List Str
  mean : ExcName → Option Value
  mg : Str → Option Value
  mb : Str → Option Value
  sp : List (Addr × Str)
  tabs : List (Addr × Addr)

structure Cx (G : Gl) (dp un : Nat) (A : Around) (h₀ : Heap) (L : Addr) (m : Str → Option Value) (h : Heap) (Λ : Ldg) : Prop where
  A : ∃ gd cn cs a ccd cl outer A₀ base, A = ktrTop dp un gd cn cs L a ccd cl outer ∧ Below A₀ base outer h₀ ∧ cs.kind = .function ∧ ∀ q ∈ G.tabs, CodeHd base q.1 q.2
  F : Fr h₀ L h m
  X : G.K.In h₀
  N : News h₀ L h Λ
  T : Top G.p G.loose G.mean G.mg G.mb h₀
  tab : TabOk G.sp Λ

def Con (G : Gl) (d u : Nat) (f : Addr) (vs : List Value) (Pre : Ldg → Prop) (Post : Ldg → Value → Ldg → Prop) : Prop :=
  ∀ (dp un : Nat) (A : Around) (h₀ : Heap) (L : Addr) (m : Str → Option Value) (Λ : Ldg) (s : Shared) (Q E : Value → Shared → Prop),
    Cx G dp un A h₀ L m s.heap Λ → Pre Λ → dp + d < recursionLimit → un + u < cLine →
    (∀ v Λ' h' tk', Cx G dp un A h₀ L m h' Λ' → Step Λ Λ' → Post Λ v Λ' → Q v { s with heap := h', toks := tk' }) →
    wpAny (model G.prog G.w) A (call (.ref f) vs) Q E s

def Sub (Λ Λ' : Ldg) : Prop := ∀ p ∈ Λ, NT p.2 → p ∈ Λ'
theorem Sub.refl {Λ : Ldg} : Sub Λ Λ := fun _ h _ => h
theorem Sub.trans {a b c : Ldg} (x : Sub a b) (y : Sub b c) : Sub a c := fun p h k => y p (x p h k) k
theorem Step.sub {a b : Ldg} (x : Step a b) : Sub a b := x.keep

abbrev tupObj (vs : List Value) : Obj := { cls := .type "tuple", data := .seq vs.toArray }

def Spans (G : Gl) (sp : Addr) (Λ : Ldg) (i j : Int) : Prop :=
  Con G 2 16 sp [] (Sub Λ) fun _ v Λ' => ∃ T ti tj, v = .ref T ∧ (T, tupObj [.int i ti, .int j tj]) ∈ Λ'

def IsHit (G : Gl) (an : Str) (Λ : Ldg) (v : Value) (i j : Int) (ok : Value → Prop) : Prop :=
  ∃ a D fd es n sp gv fd', v = .ref a ∧ (a, fnObj (some D) fd) ∈ Λ ∧ (D, dictOf es n) ∈ Λ ∧ StrKeys es.toArray ∧ nsFind es.toArray "span" = some (.ref sp) ∧ nsFind es.toArray an = some gv ∧ ok gv ∧ handedOut gv = pure gv ∧ (sp, fnObj none fd') ∈ Λ ∧ Spans G sp Λ i j

theorem Spans.mono {G : Gl} {sp : Addr} {Λ Λ' : Ldg} {i j : Int} (x : Spans G sp Λ i j) (hs : Sub Λ Λ') : Spans G sp Λ' i j :=
  fun dp un A h₀ L m Λ₁ s Q E c hp hd hu hr => x dp un A h₀ L m Λ₁ s Q E c (hs.trans hp) hd hu hr
theorem IsHit.mono {G : Gl} {an : Str} {Λ Λ' : Ldg} {v : Value} {i j : Int} {ok : Value → Prop} (x : IsHit G an Λ v i j ok) (hs : Sub Λ Λ') : IsHit G an Λ' v i j ok := by
  obtain ⟨a, D, fd, es, n, sp, gv, fd', e, h1, h2, h3, h4, h5, h6, h7, h8, h9⟩ := x
  exact ⟨a, D, fd, es, n, sp, gv, fd', e, hs _ h1 (.of_cls (by nofun)), hs _ h2 (.of_cls (by nofun)), h3, h4, h5, h6, h7, hs _ h8 (.of_cls (by nofun)), h9.mono hs⟩

/-- what a search hands back -/
def Found {γ : Type} (G : Gl) (an : Str) (ok : γ → Value → Prop) (Λ : Ldg) (v : Value) : Option (Int × Int × γ) → Prop
  | none => v = .none
  | some (i, j, g) => IsHit G an Λ v i j (ok g)
theorem Found.mono {γ : Type} {G : Gl} {an : Str} {ok : γ → Value → Prop} {Λ Λ' : Ldg} {v : Value} {r : Option (Int × Int × γ)} (x : Found G an ok Λ v r) (hs : Sub Λ Λ') : Found G an ok Λ' v r := by
  cases r with
  | none => exact x
  | some r => exact IsHit.mono x hs

structure Searches {γ : Type} (G : Gl) (an : Str) (ok : γ → Value → Prop) (sr : Addr) (Λ : Ldg) (chars : Str) (nx : Int → Option (Int × Int × γ)) : Prop where
  one : ∀ t, Con G 20 100 sr [.str chars t] (Sub Λ) fun _ v Λ' => Found G an ok Λ' v (nx 0)
  two : ∀ t j tj, 0 ≤ j → Con G 20 100 sr [.str chars t, .int j tj] (Sub Λ) fun _ v Λ' => Found G an ok Λ' v (nx j)
theorem Searches.mono {γ : Type} {G : Gl} {an : Str} {ok : γ → Value → Prop} {sr : Addr} {Λ Λ' : Ldg} {chars : Str} {nx : Int → Option (Int × Int × γ)} (x : Searches G an ok sr Λ chars nx) (hs : Sub Λ Λ') : Searches G an ok sr Λ' chars nx :=
  ⟨fun t dp un A h₀ L m Λ₁ s Q E c hp hd hu hr => x.one t dp un A h₀ L m Λ₁ s Q E c (hs.trans hp) hd hu hr,
   fun t j tj hj dp un A h₀ L m Λ₁ s Q E c hp hd hu hr => x.two t j tj hj dp un A h₀ L m Λ₁ s Q E c (hs.trans hp) hd hu hr⟩

def IsProg {γ : Type} (G : Gl) (an : Str) (ok : γ → Value → Prop) (Λ : Ldg) (pg : Addr) (chars : Str) (nx : Int → Option (Int × Int × γ)) : Prop :=
  ∃ D fd es n sr fd', (pg, fnObj (some D) fd) ∈ Λ ∧ (D, dictOf es n) ∈ Λ ∧ StrKeys es.toArray ∧ nsFind es.toArray "search" = some (.ref sr) ∧ (sr, fnObj none fd') ∈ Λ ∧ Searches G an ok sr Λ chars nx
theorem IsProg.mono {γ : Type} {G : Gl} {an : Str} {ok : γ → Value → Prop} {Λ Λ' : Ldg} {pg : Addr} {chars : Str} {nx : Int → Option (Int × Int × γ)} (x : IsProg G an ok Λ pg chars nx) (hs : Sub Λ Λ') : IsProg G an ok Λ' pg chars nx := by
  obtain ⟨D, fd, es, n, sr, fd', h1, h2, h3, h4, h5, h6⟩ := x
  exact ⟨D, fd, es, n, sr, fd', hs _ h1 (.of_cls (by nofun)), hs _ h2 (.of_cls (by nofun)), h3, h4, hs _ h5 (.of_cls (by nofun)), h6.mono hs⟩

def retOf : Flow → Value
  | .ret v => v
  | _ => .none
/-- what a body must reach -/
def Lv (G : Gl) (g : Heap) (L : Addr) (Λ : Ldg) (Post : Ldg → Value → Ldg → Prop) (s : Shared) (v : Value) (s' : Shared) : Prop :=
  ∃ m' Λ' h' tk, s' = { s with heap := h', toks := tk } ∧ Fr g L h' m' ∧ News g L h' Λ' ∧ TabOk G.sp Λ' ∧ Step Λ Λ' ∧ Post Λ v Λ'
theorem Lv.intro {G : Gl} {g : Heap} {L : Addr} {Λ Λ' : Ldg} {Post : Ldg → Value → Ldg → Prop} {s : Shared} {v : Value} {m' : Str → Option Value} {h' : Heap} {tk : Nat} (F : Fr g L h' m') (N : News g L h' Λ') (T : TabOk G.sp Λ') (S : Step Λ Λ') (P : Post Λ v Λ') :
    Lv G g L Λ Post s v { s with heap := h', toks := tk } := ⟨m', Λ', h', tk, rfl, F, N, T, S, P⟩

def Body {α : Type} (ret : α → Value) (G : Gl) (d u : Nat) (qual : Str) (scope : Scope) (f : Addr) (cdv : Value) (cl : List (Str × Addr)) (m : Str → Option Value) (run : Env → Sem α) (Pre : Ldg → Prop) (Post : Ldg → Value → Ldg → Prop) : Prop :=
  ∀ (dp un : Nat) (gd : Option (List Code)) (L : Addr) (outer : List Env) (A₀ : Around) (base g : Heap) (Λ : Ldg) (s : Shared) (E : Value → Shared → Prop),
    Below A₀ base outer g → Fr g L s.heap m → G.K.In g → News g L s.heap Λ → Top G.p G.loose G.mean G.mg G.mb g → (∀ q ∈ G.tabs, CodeHd base q.1 q.2) → TabOk G.sp Λ → Pre Λ → dp + d < recursionLimit → un + u < cLine →
    wpAny (model G.prog G.w) (ktrTop dp un gd qual scope L f cdv cl outer) (run (envX qual scope L f cdv cl)) (fun fl s' => Lv G g L Λ Post s (ret fl) s') E s

theorem Con.ofDef {G : Gl} {d u : Nat} {f : Addr} {vs : List Value} {Pre : Ldg → Prop} {Post : Ldg → Value → Ldg → Prop} {name qual : Str} {params : Arguments} {body : List Stmt} {scope : Scope} {dV kV doc pm cdv ct oc : Value} {an od : Option Addr} {osl : Array (Option Value)} {binds : List (Str × Value)}
    (ho : G.K.lookup f = some ⟨oc, od, .func (fnOf name qual params body scope dV kV doc pm an cdv ct), osl⟩) (hcd : codeIn G.K cdv qual = true)
    (hbind : ∀ s, BindsTo s (fnOf name qual params body scope dV kV doc pm an cdv ct) ⟨vs, []⟩ binds) (hloc : ∀ y ∈ binds, scope.names.lookup y.1 = some .local)
    (hco : scope.isCoroutine = false) (hgen : scope.isGenerator = false) (hk : scope.kind = .function) (hcell : ∀ x ∈ scope.names, x.2 ≠ .cell)
    (h : Body retOf G d u qual scope f cdv [] (fun y => binds.reverse.lookup y) (execs body) Pre Post) : Con G (d + 1) (u + 3) f vs Pre Post := by
  intro dp un A h₀ L m Λ s Q E c hp hd hu hr
  obtain ⟨⟨gd, cn, cs, a, ccd, cl, outer, A₀, base, rfl, B, hcs, hC⟩, F, X, N, T, tab⟩ := c
  refine wpAny_call ?_
  refine code_def B F X N T rfl rfl hcs ho hcd (by show dp < _; omega) (hbind _) hloc (fun g L' h₁ FG F' N' B' X' T' => ?_) hco hgen hk hcell
  refine wpAny_mono (h (dp + 1) (un + 3) gd L' _ _ base g Λ _ _ B' F' X' N' T' hC tab hp (by omega) (by omega)) (fun fl s' hl => ?_) fun _ _ e => e
  obtain ⟨m', Λ', h', tk, rfl, F1, N1, t1, S1, P1⟩ := hl
  refine leaveK_ F1 N1 fun F2 N2 => ?_
  have z := hr _ Λ' h' tk ⟨⟨gd, cn, cs, a, ccd, cl, outer, A₀, base, rfl, B, hcs, hC⟩, F2, X, N2, T, t1⟩ S1 P1
  cases fl <;> exact z

theorem Con.ofLam {G : Gl} {d u : Nat} {f : Addr} {vs : List Value} {Λ₀ : Ldg} {Post : Ldg → Value → Ldg → Prop} {name qual : Str} {params : Arguments} {body : Expr} {scope : Scope} {dV doc pm ctv : Value} {cl : List (Str × Addr)} {c' : Addr} {oc : Obj} {binds : List (Str × Value)}
    (ho : (f, kdv_obj name qual params (.expr body) scope cl dV doc pm c' ctv) ∈ Λ₀) (hoc : (c', oc) ∈ Λ₀) (hlike : CodeLike oc qual)
    (hbind : ∀ h₀ L s Λ, News h₀ L s.heap Λ → Sub Λ₀ Λ → BindsTo s (kdv_fn name qual params (.expr body) scope cl dV doc pm (.ref c') ctv) ⟨vs, []⟩ binds) (hloc : ∀ y ∈ binds, scope.names.lookup y.1 = some .local)
    (hco : scope.isCoroutine = false) (hgen : scope.isGenerator = false) (hk : scope.kind = .function) (hcell : ∀ x ∈ scope.names, x.2 ≠ .cell)
    (h : Body id G d u qual scope f (.ref c') cl (fun y => binds.reverse.lookup y) (fun env => eval body env) (Sub Λ₀) Post) : Con G (d + 1) (u + 3) f vs (Sub Λ₀) Post := by
  intro dp un A h₀ L m Λ s Q E c hp hd hu hr
  obtain ⟨⟨gd, cn, cs, a, ccd, cl₁, outer, A₀, base, rfl, B, hcs, hC⟩, F, X, N, T, tab⟩ := c
  obtain ⟨vs₁, t₁, d₁, v₁⟩ := hlike
  refine wpAny_call ?_
  refine kdv_codeE B F X N T rfl rfl hcs (hp _ ho (.of_cls (by nofun))) (codeRec_news N (hp _ hoc (.of_code ⟨vs₁, t₁, d₁, v₁⟩)) d₁ v₁) (by show dp < _; omega) (hbind _ _ _ _ N hp) hloc (fun g L' h₁ FG F' N' B' X' T' => ?_) hco hgen hk hcell
  refine wpAny_mono (h (dp + 1) (un + 3) gd L' _ _ base g Λ { s with heap := h₁, toks := s.toks + binds.length } _ B' F' X' N' T' hC tab hp (by omega) (by omega)) (fun v s' hl => ?_) fun _ _ e => e
  obtain ⟨m', Λ', h', tk, rfl, F1, N1, t1, S1, P1⟩ := hl
  refine leaveK_ F1 N1 fun F2 N2 => ?_
  exact hr _ Λ' h' tk ⟨⟨gd, cn, cs, a, ccd, cl₁, outer, A₀, base, rfl, B, hcs, hC⟩, F2, X, N2, T, t1⟩ S1 P1
end Mine
namespace Mine
open PySem PySem.Calls PySem.W PyProof.Rows PySem.Flt PySem.Builtin PySem.Builtin.ObjectAttr

def BodyC (G : Gl) (d u : Nat) (qual : Str) (scope : Scope) (f : Addr) (cdv : Value) (binds : List (Str × Value)) (body : List Stmt) (Pre : Ldg → Prop) (Post : Ldg → Value → Ldg → Prop) : Prop :=
  ∀ (dp un : Nat) (gd : Option (List Code)) (L : Addr) (outer : List Env) (A₀ : Around) (base g : Heap) (Λ cells : Ldg) (s : Shared) (E : Value → Shared → Prop),
    Below A₀ base outer g → Fr g L s.heap (bindL (envOfC qual scope L f cdv).kindOf binds fun _ => none) → G.K.In g → News g L s.heap (cells ++ Λ) →
    CellsAre (bindC (envOfC qual scope L f cdv).kindOf binds fun _ => none) (cellsFrom (L + 1) scope.names []) cells → (∀ q ∈ Λ, q.1 < L) →
    Top G.p G.loose G.mean G.mg G.mb g → (∀ q ∈ G.tabs, CodeHd base q.1 q.2) → TabOk G.sp Λ → Pre Λ → dp + d < recursionLimit → un + u < cLine →
    wpAny (model G.prog G.w) (ktrTop dp un gd qual scope L f cdv (cellsFrom (L + 1) scope.names []) outer) (execs body (envOfC qual scope L f cdv)) (fun fl s' => Lv G g L Λ Post s (retOf fl) s') E s

theorem Con.ofDefC {G : Gl} {d u : Nat} {f : Addr} {vs : List Value} {Pre : Ldg → Prop} {Post : Ldg → Value → Ldg → Prop} {name qual : Str} {params : Arguments} {body : List Stmt} {scope : Scope} {dV kV doc pm cdv ct oc : Value} {an od : Option Addr} {osl : Array (Option Value)} {binds : List (Str × Value)}
    (ho : G.K.lookup f = some ⟨oc, od, .func (fnOf name qual params body scope dV kV doc pm an cdv ct), osl⟩) (hcd : codeIn G.K cdv qual = true)
    (hbind : ∀ s, BindsTo s (fnOf name qual params body scope dV kV doc pm an cdv ct) ⟨vs, []⟩ binds)
    (hkind : (binds.all fun y => scope.names.lookup y.1 == some .local || scope.names.lookup y.1 == some .cell) = true) (hnd : ((cellsFrom 0 scope.names []).map (·.1)).Nodup)
    (hco : scope.isCoroutine = false) (hgen : scope.isGenerator = false) (hk : scope.kind = .function)
    (h : BodyC G d u qual scope f cdv binds body Pre Post) : Con G (d + 1) (u + 3) f vs Pre Post := by
  intro dp un A h₀ L m Λ s Q E c hp hd hu hr
  obtain ⟨⟨gd, cn, cs, a, ccd, cl, outer, A₀, base, rfl, B, hcs, hC⟩, F, X, N, T, tab⟩ := c
  refine wpAny_call ?_
  refine code_defC B F X N T rfl rfl hcs ho hcd (by show dp < _; omega) (hbind _) hkind hnd (fun g L' h₁ tk cells FG F' N' Y B' X' T' hlt => ?_) hco hgen hk
  refine wpAny_mono (h (dp + 1) (un + 3) gd L' _ _ base g Λ cells _ _ B' F' X' N' Y hlt T' hC tab hp (by omega) (by omega)) (fun fl s' hl => ?_) fun _ _ e => e
  obtain ⟨m', Λ', h', tk, rfl, F1, N1, t1, S1, P1⟩ := hl
  refine leaveK_ F1 N1 fun F2 N2 => ?_
  have z := hr _ Λ' h' tk ⟨⟨gd, cn, cs, a, ccd, cl, outer, A₀, base, rfl, B, hcs, hC⟩, F2, X, N2, T, t1⟩ S1 P1
  cases fl <;> exact z
end Mine
namespace Mine
open PySem PySem.Calls PySem.W PyProof.Rows PySem.Flt PySem.Builtin PySem.Builtin.ObjectAttr
theorem TabOk.sub {sp : List (Addr × Str)} {Λ Λ' : Ldg} (x : TabOk sp Λ) (hs : ∀ p ∈ Λ, p ∈ Λ') : TabOk sp Λ' := fun q hq => by
  obtain ⟨ps, m, t, k⟩ := x q hq
  exact ⟨ps, hs _ m, t, fun pos v e => let ⟨c, oc, a, b, d⟩ := k pos v e; ⟨c, oc, a, hs _ b, d⟩⟩
/-- the tables stay well while an object that is no table and no code changes -/
theorem TabOk.off {sp : List (Addr × Str)} {Λ Λ' : Ldg} {a : Addr} {o : Obj} {h₀ h : Heap} {L : Addr} (N : News h₀ L h Λ) (x : TabOk sp Λ) (hm : (a, o) ∈ Λ) (ho : o.cls ≠ .none) (hd : ∀ vs, o.data ≠ .fields vs) (hs : ∀ p ∈ Λ, p.1 ≠ a → p ∈ Λ') : TabOk sp Λ' := fun q hq => by
  obtain ⟨ps, m, t, k⟩ := x q hq
  have n1 : q.1 ≠ a := by
    intro e
    rw [e] at m
    have := news_inj N m hm
    exact ho (by rw [← this])
  refine ⟨ps, hs _ m n1, t, fun pos v e => ?_⟩
  obtain ⟨c, oc, e1, b, l⟩ := k pos v e
  refine ⟨c, oc, e1, hs _ b ?_, l⟩
  rintro rfl
  have := news_inj N b hm
  obtain ⟨vs, t, d, _⟩ := l
  exact hd vs (by rw [← this]; exact d)

section
variable {prog : Program} {w : World} {A : Around} {E : Value → Shared → Prop} {s : Shared} {h₀ : Heap} {L a D : Addr} {m : Str → Option Value} {Λ : Ldg} {fd : FuncData} {name : Str} {v : Value} {Q : Unit → Shared → Prop} {sp : List (Addr × Str)}
theorem set_led0 (F : Fr h₀ L s.heap m) (N : News h₀ L s.heap Λ) (hm : (a, fnObj none fd) ∈ Λ) (hT : TabOk sp Λ) (hnm : typeLookup (.type "function") name = pure none)
    (h : ∀ D h' t' tk Λ', Fr h₀ L h' m → News h₀ L h' Λ' → TabOk sp Λ' → (a, fnObj (some D) fd) ∈ Λ' → (D, dictOf [⟨PyData.keyHash w.params name, .str name t', v⟩] 1) ∈ Λ' → (∀ p ∈ Λ, p.1 ≠ a → p ∈ Λ') → (∀ p ∈ Λ', p.1 = a ∨ p.1 = D ∨ p ∈ Λ) → (∀ q ∈ Λ, q.1 < D) → Q () { s with heap := h', toks := tk }) :
    wpAny (model prog w) A (setAttr (.ref a) name v) Q E s := by
  have N0 : News h₀ L s.heap ((a, fnObj none fd) :: Λ.filter fun p => p.1 != a) := news_sub N fun q hq => by
    rcases List.mem_cons.mp hq with rfl | hq
    · exact hm
    · exact (List.mem_filter.mp hq).1
  refine fn_set0 F N0 (fun q hq => by simpa using (List.mem_filter.mp hq).2) hnm fun D h' t' tk F' N' hD => ?_
  have keep : ∀ p ∈ Λ, p.1 ≠ a → p ∈ (D, dictOf [⟨PyData.keyHash w.params name, .str name t', v⟩] 1) :: (a, fnObj (some D) fd) :: Λ.filter fun p => p.1 != a := fun p hp hn => .tail _ (.tail _ (List.mem_filter.mpr ⟨hp, by simpa using hn⟩))
  refine h D h' t' tk _ F' N' (TabOk.off N hT hm (by nofun) (by nofun) keep) (.tail _ (.head _)) (.head _) keep (fun q hq => ?_) fun q hq => Nat.lt_of_lt_of_le (Heap.lt_size (N q hq).1) hD
  rcases List.mem_cons.mp hq with rfl | hq
  · exact .inr (.inl rfl)
  · rcases List.mem_cons.mp hq with rfl | hq
    · exact .inl rfl
    · exact .inr (.inr (List.mem_filter.mp hq).1)
theorem set_led1 {es : List DictEntry} {n : Nat} (F : Fr h₀ L s.heap m) (N : News h₀ L s.heap Λ) (hm : (a, fnObj (some D) fd) ∈ Λ) (hD : (D, dictOf es n) ∈ Λ) (hT : TabOk sp Λ) (hnm : typeLookup (.type "function") name = pure none)
    (hs : ∀ e ∈ es, e.key.isStr name = false) (hr : ∀ e ∈ es, e.refKey = false) (hz : es.length ≤ 1000)
    (h : ∀ h' t' tk Λ', Fr h₀ L h' m → News h₀ L h' Λ' → TabOk sp Λ' → (D, dictOf (es ++ [⟨PyData.keyHash w.params name, .str name t', v⟩]) (n + 1)) ∈ Λ' → (∀ p ∈ Λ, p.1 ≠ D → p ∈ Λ') → (∀ p ∈ Λ', p.1 = D ∨ p ∈ Λ) → Q () { s with heap := h', toks := tk }) :
    wpAny (model prog w) A (setAttr (.ref a) name v) Q E s := by
  have ne : a ≠ D := by
    rintro rfl
    exact absurd (show (Value.type "function") = .type "dict" from congrArg Obj.cls (news_inj N hm hD)) (by decide)
  have N0 : News h₀ L s.heap ((D, dictOf es n) :: (a, fnObj (some D) fd) :: Λ.filter fun p => p.1 != D) := news_sub N fun q hq => by
    rcases List.mem_cons.mp hq with rfl | hq
    · exact hD
    · rcases List.mem_cons.mp hq with rfl | hq
      · exact hm
      · exact (List.mem_filter.mp hq).1
  refine fn_set1 F N0 (fun q hq => ?_) hnm hs hr hz fun h' t' tk F' N' => ?_
  · rcases List.mem_cons.mp hq with rfl | hq
    · exact ne
    · simpa using (List.mem_filter.mp hq).2
  have keep : ∀ p ∈ Λ, p.1 ≠ D → p ∈ (D, dictOf (es ++ [⟨PyData.keyHash w.params name, .str name t', v⟩]) (n + 1)) :: (a, fnObj (some D) fd) :: Λ.filter fun p => p.1 != D := fun p hp hn => .tail _ (.tail _ (List.mem_filter.mpr ⟨hp, by simpa using hn⟩))
  refine h h' t' tk _ F' N' (TabOk.off N hT hD (by nofun) (by nofun) keep) (.head _) keep (fun q hq => ?_)
  rcases List.mem_cons.mp hq with rfl | hq
  · exact .inl rfl
  · rcases List.mem_cons.mp hq with rfl | hq
    · exact .inr hm
    · exact .inr (List.mem_filter.mp hq).1
end
end Mine
namespace Mine
open PySem PySem.Calls PySem.W PyProof.Rows PySem.Flt PySem.Builtin PySem.Builtin.ObjectAttr

def IterLike (o : Obj) : Prop := o.cls ≠ .none ∧ ∃ vs, o.data = .fields vs ∧ ∀ q t, vs[1]? ≠ some (.str q t)
def NI (o : Obj) : Prop := ¬ IterLike o
theorem NI.of_data {o : Obj} (h : ∀ vs, o.data ≠ .fields vs) : NI o := fun ⟨_, vs, e, _⟩ => h vs e
theorem NI.of_code {o : Obj} {q : Str} (h : CodeLike o q) : NI o := fun ⟨_, vs, e, k⟩ => by
  obtain ⟨vs', t, e', k'⟩ := h
  rw [e] at e'
  cases e'
  exact k _ _ k'
def NSub (Λ Λ' : Ldg) : Prop := ∀ p ∈ Λ, NI p.2 → p ∈ Λ'
theorem TabOk.nsub {sp : List (Addr × Str)} {Λ Λ' : Ldg} (x : TabOk sp Λ) (hs : NSub Λ Λ') : TabOk sp Λ' := fun q hq => by
  obtain ⟨ps, m, t, k⟩ := x q hq
  exact ⟨ps, hs _ m (fun ⟨h, _⟩ => h rfl), t, fun pos v e => let ⟨c, oc, a, b, d⟩ := k pos v e; ⟨c, oc, a, hs _ b (.of_code d), d⟩⟩

/-- the end of a loop's turn -/
def TurnEnd (sp : List (Addr × Str)) (h₀ : Heap) (L : Addr) (Λ₁ : Ldg) (R : (Str → Option Value) → Ldg → Prop) (s₁ : Shared) (Q : Flow → Shared → Prop) (f : Flow) (s₂ : Shared) : Prop :=
  match f with
  | .ret v => Q (.ret v) s₂
  | .brk => Q .next s₂
  | _ => ∃ m₂ Λ₂ h₂ tk₂, s₂ = { s₁ with heap := h₂, toks := tk₂ } ∧ Fr h₀ L h₂ m₂ ∧ News h₀ L h₂ Λ₂ ∧ TabOk sp Λ₂ ∧ Step Λ₁ Λ₂ ∧ R m₂ Λ₂
theorem TurnEnd.next {sp : List (Addr × Str)} {h₀ : Heap} {L : Addr} {Λ₁ Λ₂ : Ldg} {R : (Str → Option Value) → Ldg → Prop} {s₁ : Shared} {Q : Flow → Shared → Prop} {m₂ : Str → Option Value} {h₂ : Heap} {tk₂ : Nat}
    (F : Fr h₀ L h₂ m₂) (N : News h₀ L h₂ Λ₂) (T : TabOk sp Λ₂) (S : Step Λ₁ Λ₂) (r : R m₂ Λ₂) : TurnEnd sp h₀ L Λ₁ R s₁ Q .next { s₁ with heap := h₂, toks := tk₂ } := ⟨m₂, Λ₂, h₂, tk₂, rfl, F, N, T, S, r⟩

section
variable {prog : Program} {w : World} {A : Around} {s : Shared} {env : Env} {h₀ : Heap} {sp : List (Addr × Str)}
theorem for_led {RR : Result → Shared → Prop} {Q : Flow → Shared → Prop} {target : Expr} {body : List Stmt} {I : Addr} {fp wr : List Addr} {n : Nat} {P : Nat → Value → Prop} {St : Nat → Heap → Prop} {m : Str → Option Value} {Λ : Ldg}
    (hRR : ∀ f s', Q f s' → RR (.ok f) s')
    (W : Walks prog w A I fp wr n P St) (hLf : env.locals ∉ fp) (hwr : ∀ b ∈ wr, h₀.get? b = none) (hnw : ∀ p ∈ Λ, p.1 ∉ wr) (hwl : ∀ b ∈ wr, ∀ q ∈ Λ, q.1 < b)
    (hfp : ∀ b ∈ fp, b ∈ wr ∨ h₀.get? b ≠ none ∨ ∃ q ∈ Λ, q.1 = b)
    (hit : ∀ i h, St i h → ∀ b ∈ wr, ∃ o, h.get? b = some o ∧ IterLike o)
    (hnt : ∀ i h, St i h → ∀ b ∈ fp, ∀ o, h.get? b = some o → NT o)
    (hst : St 0 s.heap) (F : Fr h₀ env.locals s.heap m) (N : News h₀ env.locals s.heap Λ) (T : TabOk sp Λ)
    (hgo : ∀ i (s' : Shared) v (Q' : Unit → Shared → Prop) (E' : Value → Shared → Prop), P i v → St (i + 1) s'.heap → Q' () s' → wpAny (model prog w) A (letOwnedTupleGo target (.ref I) v) Q' E' s')
    (R : Nat → (Str → Option Value) → Ldg → Prop) (hmono : ∀ i m Λ Λ', NSub Λ Λ' → R i m Λ → R i m Λ') (h0 : R 0 m Λ)
    (turn : ∀ i v m₁ Λ₁ s₁ (E' : Value → Shared → Prop), (∃ h tk, s₁ = { s with heap := h, toks := tk }) → i < n → P i v → R i m₁ Λ₁ → TabOk sp Λ₁ → Step Λ Λ₁ → Fr h₀ env.locals s₁.heap m₁ → News h₀ env.locals s₁.heap Λ₁ →
      wpAny (model prog w) A (assign target env v) (fun _ s₂ => wpAny (model prog w) A (execs body env) (TurnEnd sp h₀ env.locals Λ₁ (R (i + 1)) s₁ Q) E' s₂) E' s₁)
    (done : ∀ m' Λ' h' tk, Fr h₀ env.locals h' m' → News h₀ env.locals h' Λ' → TabOk sp Λ' → Step Λ Λ' → R n m' Λ' → Q .next { s with heap := h', toks := tk }) :
    codeAny (model prog w) A (.forLoop target (.ref I) body [] env) RR s := by
  have hLw : env.locals ∉ wr := fun h => hLf (W.sub _ h)
  have old : ∀ b o, h₀.get? b = some o → b ∉ wr := fun b o e hb => by rw [hwr b hb] at e; cases e
  refine codeAny_forLoop_any
    (fun k s' => ∃ h' tk m' Λ' i, s' = { s with heap := h', toks := tk } ∧ St i h' ∧ Fr h₀ env.locals h' m' ∧ News h₀ env.locals h' Λ' ∧ (∀ p ∈ Λ', p.1 ∉ wr) ∧ TabOk sp Λ' ∧ Step Λ Λ' ∧ R i m' Λ' ∧ i ≤ n ∧ k = n + 1 - i) ?_ (n + 1)
    ⟨s.heap, s.toks, m, Λ, 0, rfl, hst, F, N, hnw, T, .refl, h0, Nat.zero_le _, rfl⟩
  rintro k s' ⟨h', tk, m', Λ', i, rfl, hst', F', N', hnw', T', S', hR, hi, rfl⟩
  have next : ∀ h₁ : Heap, (∀ b o, b ∉ wr → h'.get? b = some o → h₁.get? b = some o) → Fr h₀ env.locals h₁ m' ∧ News h₀ env.locals h₁ Λ' := fun h₁ hk₁ =>
    ⟨⟨F'.ns.at' fun o e => hk₁ _ o hLw e, fun b o e => hk₁ b o (old b o e) (F'.keep b o e), F'.above⟩, fun p hp => ⟨hk₁ _ _ (hnw' p hp) (N' p hp).1, (N' p hp).2⟩⟩
  by_cases hlt : i < n
  · refine W.item i _ _ _ hlt hst' fun v h₁ tk₁ hP hst₁ hk₁ => ?_
    obtain ⟨F₁, N₁⟩ := next h₁ hk₁
    have Nown : News h₀ env.locals h₁ (ownOf h₀ fp h₁) := news_ownOf hLf
    have N2 := Nown.append N₁
    refine hgo i _ v _ _ hP hst₁ ?_
    have sub1 : ∀ p ∈ Λ', p ∈ ownOf h₀ fp h₁ ++ Λ' := fun p hp => List.mem_append_right _ hp
    have SO : Step Λ (ownOf h₀ fp h₁ ++ Λ') := by
      refine ⟨fun p hp hn => sub1 p (S'.keep p hp hn), fun p hp => let ⟨q, hq, e⟩ := S'.addr p hp; ⟨q, sub1 q hq, e⟩, fun p hp => ?_⟩
      rcases List.mem_append.mp hp with hp | hp
      · rcases hfp _ (ownOf_sub _ hp) with h1 | h1 | ⟨r, hr, e1⟩
        · exact .inr fun q hq => hwl _ h1 q hq
        · exact absurd (Nown p hp).2.2 h1
        · exact .inl ⟨r, hr, e1⟩
      · exact S'.fresh p hp
    refine wpAny_mono (turn i v m' (ownOf h₀ fp h₁ ++ Λ') { s with heap := h₁, toks := tk₁ } _ ⟨_, _, rfl⟩ hlt hP (hmono _ _ _ _ (fun p hp _ => sub1 p hp) hR) (T'.sub sub1) SO F₁ N2) (fun _ s₂ h₂ => wpAny_mono h₂ (fun f s₃ h₃ => ?_) fun _ _ e => e) fun _ _ e => e
    have key : (∃ m₂ Λ₂ h₂ tk₂, s₃ = { s with heap := h₂, toks := tk₂ } ∧ Fr h₀ env.locals h₂ m₂ ∧ News h₀ env.locals h₂ Λ₂ ∧ TabOk sp Λ₂ ∧ Step (ownOf h₀ fp h₁ ++ Λ') Λ₂ ∧ R (i + 1) m₂ Λ₂) → ∃ mm, mm < n + 1 - i ∧ ∃ h' tk m' Λ' i, s₃ = { s with heap := h', toks := tk } ∧ St i h' ∧ Fr h₀ env.locals h' m' ∧ News h₀ env.locals h' Λ' ∧ (∀ p ∈ Λ', p.1 ∉ wr) ∧ TabOk sp Λ' ∧ Step Λ Λ' ∧ R i m' Λ' ∧ i ≤ n ∧ mm = n + 1 - i := by
      rintro ⟨m₂, Λ₂, h₂, tk₂, rfl, F₂, N₂, T₂, S₂, hR₂⟩
      have hst₂ : St (i + 1) h₂ := by
        refine W.frame _ _ _ hst₁ fun b hb o e => ?_
        cases hn : h₀.get? b with
        | some o₀ =>
          have : o₀ = o := by have := F₁.keep b o₀ hn; rw [e] at this; exact (Option.some.inj this).symm
          exact this ▸ F₂.keep b o₀ hn
        | none =>
          have hm := List.mem_append_left Λ' (mem_ownOf hb hn e)
          exact (N₂ _ (S₂.keep _ hm (hnt _ _ hst₁ b hb o e))).1
      have ne : ∀ p ∈ Λ₂, NI p.2 → p.1 ∉ wr := fun p hp hni hw => by
        obtain ⟨o, ho, hl⟩ := hit _ _ hst₂ _ hw
        rw [(N₂ p hp).1] at ho
        cases ho
        exact hni hl
      have hs : NSub Λ₂ (Λ₂.filter fun p => !wr.contains p.1) := fun p hp hni => List.mem_filter.mpr ⟨hp, by simpa using ne p hp hni⟩
      refine ⟨n + 1 - (i + 1), by omega, h₂, tk₂, m₂, _, i + 1, rfl, hst₂, F₂, news_sub N₂ fun p hp => (List.mem_filter.mp hp).1, fun p hp => by simpa using (List.mem_filter.mp hp).2, T₂.nsub hs, ?_, hmono _ _ _ _ hs hR₂, hlt, rfl⟩
      refine ⟨fun p hp hn => ?_, fun p hp => ?_, fun p hp => ?_⟩
      · exact List.mem_filter.mpr ⟨S₂.keep p (sub1 p (S'.keep p hp hn)) hn, by simpa using hnw p hp⟩
      · obtain ⟨q, hq, e⟩ := S'.addr p hp
        obtain ⟨r, hr, e'⟩ := S₂.addr q (sub1 q hq)
        exact ⟨r, List.mem_filter.mpr ⟨hr, by rw [e', e]; simpa using hnw p hp⟩, e'.trans e⟩
      · obtain ⟨hp, hpw⟩ := List.mem_filter.mp hp
        rcases S₂.fresh p hp with ⟨q, hq, e⟩ | e
        · rcases List.mem_append.mp hq with hq | hq
          · have hb := ownOf_sub _ hq
            rcases hfp _ hb with h1 | h1 | ⟨r, hr, e1⟩
            · rw [e] at h1; exact absurd h1 (by simpa using hpw)
            · exact absurd (Nown q hq).2.2 h1
            · exact .inl ⟨r, hr, e1.trans e⟩
          · rw [← e]; exact S'.fresh q hq
        · exact .inr fun r hr => by
            obtain ⟨q, hq, e1⟩ := S'.addr r hr
            rw [← e1]
            exact e q (sub1 q hq)
    cases f with
    | ret v => exact hRR _ _ h₃
    | brk => exact hRR _ _ h₃
    | cont => exact key h₃
    | next => exact key h₃
  · have hin : i = n := by omega
    subst hin
    refine W.done _ _ _ hst' fun h₁ tk₁ hk₁ => wpAny_execs_nil ?_
    obtain ⟨F₁, N₁⟩ := next h₁ hk₁
    exact hRR _ _ (done m' Λ' h₁ tk₁ F₁ N₁ T' S' hR)
end
end Mine
namespace Mine
open PySem PySem.Calls PySem.W PyProof.Rows PySem.Flt PySem.Builtin PySem.Builtin.ObjectAttr
abbrev listObj (vs : List Value) (ep : Nat) : Obj := { cls := .type "list", data := .seq vs.toArray ep }

section
variable {prog : Program} {w : World} {A : Around} {s : Shared} {env : Env} {h₀ : Heap} {sp : List (Addr × Str)} {E : Value → Shared → Prop} {RR : Result → Shared → Prop} {Q : Flow → Shared → Prop} {target : Expr} {body : List Stmt} {m : Str → Option Value} {Λ : Ldg}

theorem fresh_addr (F : Fr h₀ env.locals s.heap m) (N : News h₀ env.locals s.heap Λ) : (∀ p ∈ Λ, p.1 ∉ [s.heap.objs.size]) ∧ env.locals ≠ s.heap.objs.size ∧ h₀.get? s.heap.objs.size = none := by
  refine ⟨fun p hp h => ?_, Nat.ne_of_lt F.ns.lt, ?_⟩
  · rw [List.mem_singleton] at h
    exact Nat.lt_irrefl _ (h ▸ Heap.lt_size (N p hp).1)
  · exact Heap.get?_none_of_le (Nat.le_trans F.above (Nat.le_of_lt F.ns.lt))
theorem fresh_lt (N : News h₀ env.locals s.heap Λ) : ∀ b ∈ [s.heap.objs.size], ∀ q ∈ Λ, q.1 < b := fun b hb q hq => by rw [List.mem_singleton.mp hb]; exact Heap.lt_size (N q hq).1
theorem news_pushed (N : News h₀ env.locals s.heap Λ) (o : Obj) : News h₀ env.locals (s.heap.push o) Λ := fun p hp => ⟨Heap.get?_push_of_some _ (N p hp).1, (N p hp).2⟩

theorem iter_range (hRR : ∀ f s', Q f s' → RR (.ok f) s') (hh : A.handled = none) {r : Addr} {n : Nat} {t u v : Tok} (F : Fr h₀ env.locals s.heap m) (N : News h₀ env.locals s.heap Λ) (T : TabOk sp Λ)
    (hr : IsRange s.heap r 0 n 1 t u v) (hn : n < 2 ^ 60)
    (ht : ∀ it v, letOwnedTupleGo target it v = pure ())
    (R : Nat → (Str → Option Value) → Ldg → Prop) (hmono : ∀ i m Λ Λ', NSub Λ Λ' → R i m Λ → R i m Λ') (h0 : R 0 m Λ)
    (turn : ∀ i v m₁ Λ₁ s₁ (E' : Value → Shared → Prop), (∃ h tk, s₁ = { s with heap := h, toks := tk }) → i < n → (∃ t, v = .int i t) → R i m₁ Λ₁ → TabOk sp Λ₁ → Step Λ Λ₁ → Fr h₀ env.locals s₁.heap m₁ → News h₀ env.locals s₁.heap Λ₁ →
      wpAny (model prog w) A (assign target env v) (fun _ s₂ => wpAny (model prog w) A (execs body env) (TurnEnd sp h₀ env.locals Λ₁ (R (i + 1)) s₁ Q) E' s₂) E' s₁)
    (done : ∀ m' Λ' h' tk, Fr h₀ env.locals h' m' → News h₀ env.locals h' Λ' → TabOk sp Λ' → Step Λ Λ' → R n m' Λ' → Q .next { s with heap := h', toks := tk }) :
    wpAny (model prog w) A (pyIter (.ref r)) (fun it s₂ => codeAny (model prog w) A (.forLoop target it body [] env) RR s₂) E s := by
  obtain ⟨f1, f2, f3⟩ := fresh_addr F N
  have hs : Builtin.Range.rangeSize 0 n 1 = n := by rw [rangeSize_one]; split <;> omega
  refine wpAny_pyIter_range hr (small_one (by omega) (by omega) (by omega) (by omega)) ?_
  rw [hs]
  refine for_led (s := { s with heap := _ }) hRR (Walks.range hh s.heap.objs.size 0 1 n) (by simpa using f2) (fun b hb => by rw [List.mem_singleton.mp hb]; exact f3) f1 (fresh_lt N) (fun b hb => .inl hb) ?_ ?_ ?_ (F.push _) (news_pushed N _) T
    (fun i s' v Q' E' hP hst hq => wpAny_of_eq (ht _ v) hq) R hmono h0 ?_ done
  · intro i h hst b hb
    rw [List.mem_singleton.mp hb]
    exact ⟨_, hst, by nofun, _, rfl, fun q t => by simp [rawInt]⟩
  · intro i h hst b hb o e
    rw [List.mem_singleton.mp hb, hst] at e
    cases e
    exact .of_cls (by nofun)
  · show IsRangeIter _ _ _ _ _
    have : IsRangeIter (s.heap.push { cls := .type "range_iterator", data := .fields #[rawInt 0, rawInt n, rawInt 1] }) s.heap.objs.size 0 n 1 := Heap.get?_push_size _ rfl
    simpa using this
  · intro i v m₁ Λ₁ s₁ E' hs₁ hi hP hR hT hsub F₁ N₁
    obtain ⟨t', e⟩ := hP
    exact turn i v m₁ Λ₁ s₁ E' hs₁ hi ⟨t', by rw [e]; simp⟩ hR hT hsub F₁ N₁

theorem iter_str (hRR : ∀ f s', Q f s' → RR (.ok f) s') (hh : A.handled = none) {x : Str} {tx : Tok} (F : Fr h₀ env.locals s.heap m) (N : News h₀ env.locals s.heap Λ) (T : TabOk sp Λ) (ha : x.cps.all (· < 128) = true)
    (ht : ∀ it v, letOwnedTupleGo target it v = pure ())
    (R : Nat → (Str → Option Value) → Ldg → Prop) (hmono : ∀ i m Λ Λ', NSub Λ Λ' → R i m Λ → R i m Λ') (h0 : R 0 m Λ)
    (turn : ∀ i v m₁ Λ₁ s₁ (E' : Value → Shared → Prop), (∃ h tk, s₁ = { s with heap := h, toks := tk }) → i < x.cps.size → SignAt x i v → R i m₁ Λ₁ → TabOk sp Λ₁ → Step Λ Λ₁ → Fr h₀ env.locals s₁.heap m₁ → News h₀ env.locals s₁.heap Λ₁ →
      wpAny (model prog w) A (assign target env v) (fun _ s₂ => wpAny (model prog w) A (execs body env) (TurnEnd sp h₀ env.locals Λ₁ (R (i + 1)) s₁ Q) E' s₂) E' s₁)
    (done : ∀ m' Λ' h' tk, Fr h₀ env.locals h' m' → News h₀ env.locals h' Λ' → TabOk sp Λ' → Step Λ Λ' → R x.cps.size m' Λ' → Q .next { s with heap := h', toks := tk }) :
    wpAny (model prog w) A (pyIter (.str x tx)) (fun it s₂ => codeAny (model prog w) A (.forLoop target it body [] env) RR s₂) E s := by
  obtain ⟨f1, f2, f3⟩ := fresh_addr F N
  refine wpAny_pyIter_ascii ha ?_
  refine for_led (s := { s with heap := _ }) hRR (Walks.strAscii hh s.heap.objs.size x tx) (by simpa using f2) (fun b hb => by rw [List.mem_singleton.mp hb]; exact f3) f1 (fresh_lt N) (fun b hb => .inl hb) ?_ ?_ ?_ (F.push _) (news_pushed N _) T
    (fun i s' v Q' E' hP hst hq => wpAny_of_eq (ht _ v) hq) R hmono h0 turn done
  · rintro i h ⟨o, ho, hc, hd⟩ b hb
    rw [List.mem_singleton.mp hb]
    exact ⟨o, ho, by rw [hc]; nofun, _, hd, fun q t => by simp⟩
  · rintro i h ⟨o', ho, hc, hd⟩ b hb o e
    rw [List.mem_singleton.mp hb, ho] at e
    cases e
    exact .of_cls (by rw [hc]; nofun)
  · exact ⟨_, Heap.get?_push_size _ rfl, rfl, rfl⟩

theorem iter_list (hRR : ∀ f s', Q f s' → RR (.ok f) s') (hh : A.handled = none) {l : Addr} {vs : List Value} {ep : Nat} (F : Fr h₀ env.locals s.heap m) (N : News h₀ env.locals s.heap Λ) (T : TabOk sp Λ) (hl : (l, listObj vs ep) ∈ Λ)
    (hgo : ∀ (s' : Shared) I i v (Q' : Unit → Shared → Prop) (E' : Value → Shared → Prop), s'.heap.IsListIter I l i → v ∈ vs → Q' () s' → wpAny (model prog w) A (letOwnedTupleGo target (.ref I) v) Q' E' s')
    (R : Nat → (Str → Option Value) → Ldg → Prop) (hmono : ∀ i m Λ Λ', NSub Λ Λ' → R i m Λ → R i m Λ') (h0 : R 0 m Λ)
    (turn : ∀ i v m₁ Λ₁ s₁ (E' : Value → Shared → Prop), (∃ h tk, s₁ = { s with heap := h, toks := tk }) → i < vs.length → vs[i]? = some v → R i m₁ Λ₁ → TabOk sp Λ₁ → Step Λ Λ₁ → Fr h₀ env.locals s₁.heap m₁ → News h₀ env.locals s₁.heap Λ₁ →
      wpAny (model prog w) A (assign target env v) (fun _ s₂ => wpAny (model prog w) A (execs body env) (TurnEnd sp h₀ env.locals Λ₁ (R (i + 1)) s₁ Q) E' s₂) E' s₁)
    (done : ∀ m' Λ' h' tk, Fr h₀ env.locals h' m' → News h₀ env.locals h' Λ' → TabOk sp Λ' → Step Λ Λ' → R vs.length m' Λ' → Q .next { s with heap := h', toks := tk }) :
    wpAny (model prog w) A (pyIter (.ref l)) (fun it s₂ => codeAny (model prog w) A (.forLoop target it body [] env) RR s₂) E s := by
  obtain ⟨f1, f2, f3⟩ := fresh_addr F N
  have hls : s.heap.IsList l vs.toArray := ⟨_, (N _ hl).1, rfl, ep, rfl⟩
  have hne : l ≠ s.heap.objs.size := Nat.ne_of_lt (Heap.lt_size (N _ hl).1)
  refine wpAny_pyIter_list hls ?_
  have W := Walks.list (prog := prog) (w := w) hh s.heap.objs.size l hne vs.toArray
  rw [show vs.toArray.size = vs.length from List.size_toArray] at W
  refine for_led (s := { s with heap := _ }) hRR W ?_ (fun b hb => by rw [List.mem_singleton.mp hb]; exact f3) f1 (fresh_lt N) ?_ ?_ ?_ ?_ (F.push _) (news_pushed N _) T ?_ R hmono h0 ?_ done
  · intro hm
    rcases List.mem_cons.mp hm with e | hm
    · exact f2 e
    · exact (N _ hl).2.1 (List.mem_singleton.mp hm).symm
  · intro b hb
    rcases List.mem_cons.mp hb with e | hb
    · exact .inl (by rw [e]; exact .head _)
    · exact .inr (.inr ⟨_, hl, (List.mem_singleton.mp hb).symm⟩)
  · rintro i h ⟨⟨o, ho, hc, hd⟩, _⟩ b hb
    rw [List.mem_singleton.mp hb]
    exact ⟨o, ho, by rw [hc]; nofun, _, hd, fun q t => by simp⟩
  · rintro i h ⟨⟨o', ho, hc, hd⟩, ⟨ol, hol, hcl, _⟩⟩ b hb o e
    rcases List.mem_cons.mp hb with rfl | hb
    · rw [ho] at e; cases e; exact .of_cls (by rw [hc]; nofun)
    · rw [List.mem_singleton.mp hb, hol] at e; cases e; exact .of_cls (by rw [hcl]; nofun)
  · exact ⟨⟨_, Heap.get?_push_size _ rfl, rfl, rfl⟩, hls.at fun o e => Heap.get?_push_of_some _ e⟩
  · intro i s' v Q' E' hP hst hq
    exact hgo s' _ _ v Q' E' hst.1 (by have : vs[i]? = some v := by simpa using hP
                                       exact List.mem_of_getElem? this) hq
  · intro i v m₁ Λ₁ s₁ E' hs₁ hi hP hR hT hsub F₁ N₁
    exact turn i v m₁ Λ₁ s₁ E' hs₁ hi (by simpa using hP) hR hT hsub F₁ N₁
theorem go_name {I v : Value} {x : Str} {px : Pos} : letOwnedTupleGo (.Name x px) I v = pure () := rfl
end
end Mine
namespace Mine
open PySem PySem.Calls PySem.W PyProof.Rows
def Hold (P : Prop) : Prop := P
theorem hold_out {P : Prop} (h : P) : Hold P := h
theorem hold_in {P : Prop} (h : Hold P) : P := h
theorem news_lt {h₀ h : Heap} {L : Addr} {Λ : Ldg} (N : News h₀ L h Λ) : ∀ p ∈ Λ, p.1 < h.objs.size := fun p hp => Heap.lt_size (N p hp).1
theorem execs_app {env : Env} (b : List Stmt) : ∀ a : List Stmt, execs (a ++ b) env = (execs a env >>= fun f => match f with | .next => execs b env | f => pure f)
  | [] => by rw [List.nil_append, execs_nil, pure_bind]
  | st :: rest => by
    rw [List.cons_append, execs_cons, execs_cons, bind_assoc]
    congr 1
    funext f
    cases f with
    | next => exact execs_app b rest
    | brk => simp
    | cont => simp
    | ret v => simp
theorem execs_take {M : Model} {A : Around} {E : Value → Shared → Prop} {env : Env} {Q : Flow → Shared → Prop} (n : Nat) {l : List Stmt} {s : Shared}
    (h : wpAny M A (execs (l.take n) env) (fun f s' => match f with | .next => Hold (wpAny M A (execs (l.drop n) env) Q E s') | f => Q f s') E s) : wpAny M A (execs l env) Q E s := by
  rw [← List.take_append_drop n l, execs_app]
  refine wpAny_bind (wpAny_mono h (fun f s' z => ?_) fun _ _ z => z)
  cases f <;> first | exact z | exact wpAny_pure z
end Mine
namespace Mine
open PySem PySem.Calls PySem.W PyProof.Rows
theorem fr_says {h₀ h : Heap} {L : Addr} {m : Str → Option Value} (l : List (Str × Value)) (F : Fr h₀ L h m) (e : ∀ p ∈ l, m p.1 = some p.2) : Fr h₀ L h (fun y => (l.lookup y).or (m y)) := by
  have : (fun y => (l.lookup y).or (m y)) = m := by
    funext y
    induction l with
    | nil => rfl
    | cons p r ih =>
      obtain ⟨x, v⟩ := p
      rw [List.lookup_cons]
      cases hxy : y == x with
      | true => rw [eq_of_beq hxy]; exact (e _ (.head _)).symm
      | false => exact ih fun q hq => e q (.tail _ hq)
  rw [this]; exact F
end Mine
namespace Mine
open PySem PySem.Calls PySem.W PyProof.Rows PySem.Flt PySem.Builtin PySem.Builtin.ObjectAttr
def WEnd (sp : List (Addr × Str)) (h₀ : Heap) (L : Addr) (Λ : Ldg) (n : Nat) (I : Nat → (Str → Option Value) → Ldg → Prop) (s₁ : Shared) (Q : Flow → Shared → Prop) (f : Flow) (s₂ : Shared) : Prop :=
  match f with
  | .ret v => Q (.ret v) s₂
  | .brk => Q .next s₂
  | _ => ∃ n' m₂ Λ₂ h₂ tk₂, n' < n ∧ s₂ = { s₁ with heap := h₂, toks := tk₂ } ∧ Fr h₀ L h₂ m₂ ∧ News h₀ L h₂ Λ₂ ∧ TabOk sp Λ₂ ∧ Step Λ Λ₂ ∧ I n' m₂ Λ₂
theorem WEnd.next {sp : List (Addr × Str)} {h₀ : Heap} {L : Addr} {Λ Λ₂ : Ldg} {n n' : Nat} {I : Nat → (Str → Option Value) → Ldg → Prop} {s₁ : Shared} {Q : Flow → Shared → Prop} {m₂ : Str → Option Value} {h₂ : Heap} {tk₂ : Nat}
    (hn : n' < n) (F : Fr h₀ L h₂ m₂) (N : News h₀ L h₂ Λ₂) (T : TabOk sp Λ₂) (S : Step Λ Λ₂) (r : I n' m₂ Λ₂) : WEnd sp h₀ L Λ n I s₁ Q .next { s₁ with heap := h₂, toks := tk₂ } := ⟨n', m₂, Λ₂, h₂, tk₂, hn, rfl, F, N, T, S, r⟩
section
variable {prog : Program} {w : World} {A : Around} {s : Shared} {env : Env} {h₀ : Heap} {sp : List (Addr × Str)} {RR : Result → Shared → Prop} {Q : Flow → Shared → Prop} {test : Expr} {body : List Stmt} {m : Str → Option Value} {Λ : Ldg}
theorem while_led (hRR : ∀ f s', Q f s' → RR (.ok f) s') (F : Fr h₀ env.locals s.heap m) (N : News h₀ env.locals s.heap Λ) (T : TabOk sp Λ) (I : Nat → (Str → Option Value) → Ldg → Prop) (n : Nat) (h0 : I n m Λ)
    (turn : ∀ n m₁ Λ₁ s₁ (E' : Value → Shared → Prop), (∃ h tk, s₁ = { s with heap := h, toks := tk }) → I n m₁ Λ₁ → TabOk sp Λ₁ → Step Λ Λ₁ → Fr h₀ env.locals s₁.heap m₁ → News h₀ env.locals s₁.heap Λ₁ →
      wpAny (model prog w) A (isTrue test env (eval test env)) (fun b s₂ => if b then wpAny (model prog w) A (execs body env) (WEnd sp h₀ env.locals Λ n I s Q) E' s₂ else Q .next s₂) E' s₁) :
    codeAny (model prog w) A (.whileLoop test body [] env) RR s := by
  refine codeAny_whileLoop (fun n s' => ∃ m₁ Λ₁ h tk, s' = { s with heap := h, toks := tk } ∧ I n m₁ Λ₁ ∧ TabOk sp Λ₁ ∧ Step Λ Λ₁ ∧ Fr h₀ env.locals h m₁ ∧ News h₀ env.locals h Λ₁) ?_ n ⟨m, Λ, s.heap, s.toks, rfl, h0, T, .refl, F, N⟩
  rintro n s' ⟨m₁, Λ₁, h, tk, rfl, hI, hT, hS, F₁, N₁⟩
  refine wpAny_mono (turn n m₁ Λ₁ _ _ ⟨_, _, rfl⟩ hI hT hS F₁ N₁) (fun b s₂ hb => ?_) fun _ _ e => e
  cases b with
  | false => exact wpAny_execs_nil (hRR _ _ hb)
  | true =>
    refine wpAny_mono hb (fun f s₃ h₃ => ?_) fun _ _ e => e
    have key : (∃ n' m₂ Λ₂ h₂ tk₂, n' < n ∧ s₃ = { s with heap := h₂, toks := tk₂ } ∧ Fr h₀ env.locals h₂ m₂ ∧ News h₀ env.locals h₂ Λ₂ ∧ TabOk sp Λ₂ ∧ Step Λ Λ₂ ∧ I n' m₂ Λ₂) →
        ∃ m, m < n ∧ ∃ m₁ Λ₁ h tk, s₃ = { s with heap := h, toks := tk } ∧ I m m₁ Λ₁ ∧ TabOk sp Λ₁ ∧ Step Λ Λ₁ ∧ Fr h₀ env.locals h m₁ ∧ News h₀ env.locals h Λ₁ := by
      rintro ⟨n', m₂, Λ₂, h₂, tk₂, hn, rfl, a, b, c, d, e⟩
      exact ⟨n', hn, m₂, Λ₂, h₂, tk₂, rfl, e, c, d, a, b⟩
    cases f with
    | ret v => exact hRR _ _ h₃
    | brk => exact hRR _ _ h₃
    | cont => exact key h₃
    | next => exact key h₃
theorem getMethod_led {E : Value → Shared → Prop} {L a D : Addr} {fd : FuncData} {es : List DictEntry} {n : Nat} {name : Str} {v : Value} {pl : Sem Bool} {Q : Value × List Value → Shared → Prop} (N : News h₀ L s.heap Λ) (ha : (a, fnObj (some D) fd) ∈ Λ) (hD : (D, dictOf es n) ∈ Λ) (hk : StrKeys es.toArray) (hv : nsFind es.toArray name = some v)
    (hnm : typeLookup (.type "function") name = pure none) (hh : handedOut v = pure v) (h : Q (v, []) { s with toks := s.toks + 1 }) : wpAny (model prog w) A (getMethod (.ref a) name pl) Q E s := by
  obtain ⟨hp, g, d, t, os⟩ := s
  exact fn_getMethod (D := D) (md := fun x => nsFind es.toArray x) ⟨⟨fd, #[], (N _ ha).1⟩, _, es.toArray, n, (N _ hD).1, rfl, hk, fun _ => rfl⟩ hnm hv hh h
theorem getAttr_led {E : Value → Shared → Prop} {L a D : Addr} {fd : FuncData} {es : List DictEntry} {n : Nat} {name : Str} {v : Value} {ex : Bool} {Q : Value → Shared → Prop} (N : News h₀ L s.heap Λ) (ha : (a, fnObj (some D) fd) ∈ Λ) (hD : (D, dictOf es n) ∈ Λ) (hk : StrKeys es.toArray) (hv : nsFind es.toArray name = some v)
    (hnm : typeLookup (.type "function") name = pure none) (hh : handedOut v = pure v) (h : Q v { s with toks := s.toks + 1 }) : wpAny (model prog w) A (getAttr (.ref a) name ex) Q E s := by
  obtain ⟨hp, g, d, t, os⟩ := s
  exact fn_getAttr (D := D) (md := fun x => nsFind es.toArray x) ⟨⟨fd, #[], (N _ ha).1⟩, _, es.toArray, n, (N _ hD).1, rfl, hk, fun _ => rfl⟩ hnm hv hh h
end

section
variable {γ : Type}
/-- search_reverse, plainly -/
def revGo (nx : Int → Option (Int × Int × γ)) (col : Int) : Nat → Int → Option (Int × Int × γ) → Option (Int × Int × γ)
  | 0, _, found => found
  | k + 1, s, found => match nx s with
    | none => found
    | some (i, j, g) => if i < col ∧ j ≤ col then revGo nx col k j (some (i, j, g)) else found
/-- the finds go on -/
def Goes (nx : Int → Option (Int × Int × γ)) (N : Nat) : Prop := ∀ s i j g, 0 ≤ s → nx s = some (i, j, g) → s ≤ i ∧ i < j ∧ j ≤ N
theorem revGo_fuel {nx : Int → Option (Int × Int × γ)} {N : Nat} (hg : Goes nx N) (col : Int) : ∀ (k k' : Nat) (s : Int) (f : Option (Int × Int × γ)), 0 ≤ s → (N : Int) - s < k → (N : Int) - s < k' → revGo nx col k s f = revGo nx col k' s f
  | 0, 0, _, _, _, _, _ => rfl
  | 0, k' + 1, s, f, hs, h1, h2 => by
    unfold revGo
    cases h : nx s with
    | none => rfl
    | some r => obtain ⟨i, j, g⟩ := r; obtain ⟨a, b, c⟩ := hg s i j g hs h; omega
  | k + 1, 0, s, f, hs, h1, h2 => by
    unfold revGo
    cases h : nx s with
    | none => rfl
    | some r => obtain ⟨i, j, g⟩ := r; obtain ⟨a, b, c⟩ := hg s i j g hs h; omega
  | k + 1, k' + 1, s, f, hs, h1, h2 => by
    unfold revGo
    cases h : nx s with
    | none => rfl
    | some r =>
      obtain ⟨i, j, g⟩ := r
      obtain ⟨a, b, c⟩ := hg s i j g hs h
      dsimp only
      split
      · exact revGo_fuel hg col k k' j _ (by omega) (by omega) (by omega)
      · rfl
end
end Mine
namespace Mine
open PySem PySem.Calls PySem.W PyProof.Rows PySem.Flt PySem.Builtin PySem.Builtin.ObjectAttr
theorem Con.ofRest {G : Gl} {d u : Nat} {f : Addr} {vs rest : List Value} {Pre : Ldg → Prop} {Post : Value → Ldg → Prop} {name qual : Str} {params : Arguments} {body : List Stmt} {scope : Scope} {dV kV doc pm cdv ct oc : Value} {an od : Option Addr} {osl : Array (Option Value)} {binds : Addr → List (Str × Value)} {g₁ : Addr → Option (List (Str × Value))}
    (ho : G.K.lookup f = some ⟨oc, od, .func (fnOf name qual params body scope dV kV doc pm an cdv ct), osl⟩) (hcd : codeIn G.K cdv qual = true)
    (hv : vs.drop (params.posonlyargs.length + params.args.length) = rest)
    (hp : peek1 G.K ⟨G.prog, G.w.params⟩ (bindArgs (fnOf name qual params body scope dV kV doc pm an cdv ct) ⟨vs, []⟩) = some (tupObj rest, g₁))
    (hg : ∀ D, g₁ D = some (binds D)) (hloc : ∀ D, ∀ y ∈ binds D, scope.names.lookup y.1 = some .local)
    (hco : scope.isCoroutine = false) (hgen : scope.isGenerator = false) (hk : scope.kind = .function) (hcell : ∀ x ∈ scope.names, x.2 ≠ .cell) (hmono : ∀ Λ Λ', (∀ p ∈ Λ, p ∈ Λ') → Pre Λ → Pre Λ')
    (h : ∀ D, Body retOf G d u qual scope f cdv [] (fun y => (binds D).reverse.lookup y) (execs body) (fun Λ => Pre Λ ∧ (D, tupObj rest) ∈ Λ) (fun _ v Λ' => Post v Λ')) : Con G (d + 1) (u + 3) f vs Pre (fun _ v Λ' => Post v Λ') := by
  intro dp un A h₀ L m Λ s Q E c hpre hd hu hr
  obtain ⟨⟨gd, cn, cs, a, ccd, cl, outer, A₀, base, rfl, B, hcs, hC⟩, F, X, N, T, tab⟩ := c
  refine wpAny_call ?_
  refine kp_rest B F X N T rfl rfl hcs ho hcd (by show dp < _; omega) hv hp hg hloc (fun D g L' h₁ hlt FG F' N' B' X' T' => ?_) hco hgen hk hcell
  refine wpAny_mono (h D (dp + 1) (un + 3) gd L' _ _ base g _ _ _ B' F' X' N' T' hC (tab.sub fun _ h => List.mem_cons_of_mem _ h) ⟨hmono _ _ (fun _ h => List.mem_cons_of_mem _ h) hpre, .head _⟩ (by omega) (by omega)) (fun fl s' hl => ?_) fun _ _ e => e
  obtain ⟨m', Λ', h', tk, rfl, F1, N1, t1, S1, P1⟩ := hl
  refine leaveK_ F1 N1 fun F2 N2 => ?_
  have z := hr _ Λ' h' tk ⟨⟨gd, cn, cs, a, ccd, cl, outer, A₀, base, rfl, B, hcs, hC⟩, F2, X, N2, T, t1⟩ ((Step.cons hlt).trans S1) P1
  cases fl <;> exact z
end Mine
namespace Mine
open PySem PySem.Calls PySem.W PyProof.Rows PySem.Flt PySem.Builtin PySem.Builtin.ObjectAttr
theorem offH1 : True := by w_top off; trivial
theorem lam_make {M : Model} {A : Around} {E : Value → Shared → Prop} {s : Shared} {name qual : Str} {params : Arguments} {body : FuncBody} {scope : Scope} {env : Env} {pos : Pos} {firstLine : Nat} {Q : Value → Shared → Prop}
    (h : wpAny M A (makeTail name qual params body scope env .none .none none pos firstLine) Q E s) : wpAny M A (makeFunction name qual params body scope env [] [] [] pos firstLine) Q E s := by
  rw [makeFunction_eq]
  simp only [List.zip_nil_right, List.filterMap_nil, List.isEmpty_nil, if_true, pure_bind]
  exact h

theorem NT.of_cell {o : Obj} {v : Option Value} (h : o.data = .cell v) : NT o := fun _ e _ => by rw [e] at h; cases h
theorem news_ne {h₀ h : Heap} {L : Addr} {Λ : Ldg} (N : News h₀ L h Λ) {a b : Addr} {o o' : Obj} (h1 : (a, o) ∈ Λ) (h2 : (b, o') ∈ Λ) (hn : o.data ≠ o'.data) : a ≠ b := by
  rintro rfl
  exact hn (by rw [news_inj N h1 h2])
noncomputable def G1 (w : World) (p : Program) (loose : List Str) (mean : ExcName → Option Value) (mg mb : Str → Option Value) : Gl :=
  { prog := PySem.Challenge.rw_ph0008_01.prog, w, K := Mine.hd.heap_39 w.params, p, loose, mean, mg, mb,
    sp := [(30, (("_law_hit" : Str) ++ ".<locals>.") ++ "<lambda>"), (44, (("_law_program" : Str) ++ ".<locals>.") ++ "<lambda>")], tabs := [(34, 30), (48, 44)] }

theorem law_hit (w p loose mean mg mb) (i j : Int) (ti tj : Tok) (x : Str) (tx : Tok) :
    Con (G1 w p loose mean mg mb) 9 40 35 [.int i ti, .int j tj, .str x tx] (fun _ => True) (fun _ v Λ' => IsHit (G1 w p loose mean mg mb) "given" Λ' v i j (fun u => u = .str x tx)) := by
  refine Con.ofDefC (d := 8) (u := 37) (oc := _) (od := _) (osl := _) (binds := [("first", .int i ti), ("behind", .int j tj), ("given", .str x tx)]) (name := _) (qual := _) (params := _) (body := _) (scope := _) (dV := _) (kV := _) (doc := _) (pm := _) (an := _) (cdv := _) (ct := _) rfl (by kernel_rfl) (fun s => BindsTo.of_eq rfl) rfl (by decide +kernel) rfl rfl rfl ?_
  intro dp un gd L outer A₀ base g Λ cells s E B F X N Y hlt T hC tab _ hd hu
  obtain ⟨o1, o2, rfl, d1, d2⟩ := CellsAre.two Y
  clear Y
  replace d1 : o1.data = .cell (some (.int j tj)) := d1
  replace d2 : o2.data = .cell (some (.int i ti)) := d2
  replace X : (Mine.hd.heap_39 w.params).In g := X
  have hCo : CodeHd g 34 30 := (hC (34, 30) (.head _)).keeps B.stays
  have hnd : ∀ x ∈ (G1 w p loose mean mg mb).sp, ∀ y ∈ (G1 w p loose mean mg mb).sp, x.1 = y.1 → x.2 = y.2 := by
    intro x hx y hy e
    rcases List.mem_cons.mp hx with rfl | hx <;> rcases List.mem_cons.mp hy with rfl | hy
    · rfl
    · rw [List.mem_singleton.mp hy] at e; exact absurd e (by decide)
    · rw [List.mem_singleton.mp hx] at e; exact absurd e (by decide)
    · rw [List.mem_singleton.mp hx, List.mem_singleton.mp hy]
  have tab0 : TabOk (G1 w p loose mean mg mb).sp ([(L + 1 + 1, o1), (L + 1, o2)] ++ Λ) := tab.sub fun _ h => List.mem_append_right _ h
  k_steps
  refine kla_eval rfl ?_
  refine lam_make ?_
  refine lam_led F N T hCo rfl tab0 hnd (.head _) rfl ?_
  intro f c1 oc1 doc1 ctv1 h1 tk1 Λ1 F1 N1 T1 S1 hc1 hl1 hf1
  k_steps
  rename Fr _ _ _ _ => F2; rename News _ _ _ _ => N2
  refine kla_eval rfl ?_
  refine lam_make ?_
  refine lam_led F2 N2 T hCo rfl (T1.sub fun _ h => List.mem_cons_of_mem _ h) hnd (.head _) rfl ?_
  intro f2 c2 oc2 doc2 ctv2 h2 tk2 Λ2 F3 N3 T3 S3 hc2 hl2 hf2
  have hfm := S3.keep _ (.head _) (.of_cls (by nofun))
  have nc2 : c2 ≠ f := news_ne N3 (.tail _ hc2) (.tail _ hfm) (by obtain ⟨vs, t, e, _⟩ := hl2; rw [e]; nofun)
  k_steps
  rename Fr _ _ _ _ => F4; rename News _ _ _ _ => N4
  refine set_led0 F4 N4 (.tail _ hfm) (T3.sub fun _ h => List.mem_cons_of_mem _ h) lk_function_span ?_
  intro D h5 t5 tk5 Λ5 F5 N5 T5 ha5 hD5 k5 b5 l5
  k_steps
  rename Fr _ _ _ _ => F6; rename News _ _ _ _ => N6
  refine set_led1 F6 N6 ha5 hD5 T5 lk_function_given ?_ ?_ (by simp) ?_
  · intro e he; rw [List.mem_singleton.mp he]; show (Str.ofString "span" == Str.ofString "given") = false; decide +kernel
  · intro e he; rw [List.mem_singleton.mp he]; rfl
  intro h7 t7 tk7 Λ7 F7 N7 T7 hD7 k7 b7
  k_steps
  have a1 : ∀ q ∈ Λ1, q.1 < f := hf1
  have hLf : L < f := Nat.lt_trans (Nat.lt_succ_self L) (hf1 _ (S1.keep (L + 1, o2) (.tail _ (.head _)) (NT.of_cell d2)))
  have hfD : f < D := l5 _ (.tail _ hfm)
  have hff2 : f < f2 := hf2 _ hfm
  have hf2D : f2 < D := l5 _ (.head _)
  have in7 : ∀ q ∈ Λ2, q.1 ≠ f → q ∈ Λ7 := fun q hq hn => k7 q (k5 q (.tail _ hq) hn) (Nat.ne_of_lt (l5 q (.tail _ hq)))
  have S : Step Λ Λ7 := by
    refine ⟨fun q hq hn => ?_, fun q hq => ?_, fun q hq => ?_⟩
    · have q1 := S1.keep q (List.mem_append_right _ hq) hn
      exact in7 q (S3.keep q (.tail _ q1) hn) (Nat.ne_of_lt (hf1 q q1))
    · obtain ⟨r, hr, e⟩ := S1.addr q (List.mem_append_right _ hq)
      obtain ⟨r', hr', e'⟩ := S3.addr r (.tail _ hr)
      exact ⟨r', in7 r' hr' (by rw [e']; exact Nat.ne_of_lt (hf1 r hr)), e'.trans e⟩
    · have big : L ≤ q.1 → (∃ r ∈ Λ, r.1 = q.1) ∨ ∀ r ∈ Λ, r.1 < q.1 := fun h => .inr fun r hr => Nat.lt_of_lt_of_le (hlt r hr) h
      rcases b7 q hq with e | hq
      · exact big (by rw [e]; exact Nat.le_of_lt (Nat.lt_trans hLf hfD))
      · rcases b5 q hq with e | e | hq
        · exact big (by rw [e]; exact Nat.le_of_lt hLf)
        · exact big (by rw [e]; exact Nat.le_of_lt (Nat.lt_trans hLf hfD))
        · rcases List.mem_cons.mp hq with rfl | hq
          · exact big (Nat.le_of_lt (Nat.lt_trans hLf hff2))
          · rcases S3.fresh q hq with ⟨r, hr, e⟩ | e
            · rcases List.mem_cons.mp hr with rfl | hr
              · exact big (by rw [← e]; exact Nat.le_of_lt hLf)
              · rcases S1.fresh r hr with ⟨r', hr', e'⟩ | e'
                · rcases List.mem_append.mp hr' with hr' | hr'
                  · refine big (by rw [← e, ← e']; rcases List.mem_cons.mp hr' with rfl | hr'; exact Nat.le_trans (Nat.le_succ _) (Nat.le_succ _); rw [List.mem_singleton.mp hr']; exact Nat.le_succ _)
                  · exact .inl ⟨r', hr', e'.trans e⟩
                · exact big (by rw [← e]; exact Nat.le_of_lt (Nat.lt_trans (Nat.lt_succ_self L) (e' (L + 1, o2) (.tail _ (.head _)))))
            · exact big (Nat.le_of_lt (Nat.lt_trans hLf (e _ (.head _))))
  have i2 := k7 _ (k5 _ (.head _) (Nat.ne_of_gt hff2)) (Nat.ne_of_lt hf2D)
  have ic2 : (c2, oc2) ∈ Λ7 := in7 _ hc2 nc2
  have icB : (L + 1 + 1, o1) ∈ Λ7 := by
    have q1 := S1.keep _ (.head _) (NT.of_cell d1)
    exact in7 _ (S3.keep _ (.tail _ q1) (NT.of_cell d1)) (Nat.ne_of_lt (hf1 _ q1))
  have icF : (L + 1, o2) ∈ Λ7 := by
    have q1 := S1.keep _ (.tail _ (.head _)) (NT.of_cell d2)
    exact in7 _ (S3.keep _ (.tail _ q1) (NT.of_cell d2)) (Nat.ne_of_lt (hf1 _ q1))
  refine Lv.intro F7 N7 T7 S ?_
  have key : Spans (G1 w p loose mean mg mb) f2 Λ7 i j := by
    unfold Spans
    refine Con.ofLam (d := 1) (u := 13) i2 ic2 hl2 (binds := []) (fun _ _ _ _ _ _ => BindsTo.of_eq rfl) (fun _ h => nomatch h) rfl rfl rfl (by decide) ?_
    intro dp un gd L' outer A₀ base g Λ' s E B F X N T hC tab hsub hd hu
    replace X : (Mine.hd.heap_39 w.params).In g := X
    have mF := hsub _ icF (NT.of_cell d2)
    have mB := hsub _ icB (NT.of_cell d1)
    k_steps
    rename Fr _ _ _ _ => F9; rename News _ _ _ _ => N9
    exact Lv.intro F9 N9 (tab.sub fun _ h => List.mem_cons_of_mem _ h) (Step.cons (by assumption)) ⟨_, _, _, rfl, .head _⟩
  refine ⟨f, D, _, _, _, f2, .str x tx, _, rfl, k7 _ ha5 (Nat.ne_of_lt hfD), hD7, ?_, ?_, ?_, rfl, rfl, i2, key⟩
  · intro e he
    simp only [List.cons_append, List.nil_append, List.mem_toArray, List.mem_cons, List.not_mem_nil, or_false] at he
    rcases he with rfl | rfl <;> exact ⟨_, _, rfl⟩
  · rfl
  · rfl
end Mine
namespace Mine
open PySem PySem.Calls PySem.W PyProof.Rows PySem.Flt PySem.Builtin PySem.Builtin.ObjectAttr
theorem offN1 : True := by w_top off; trivial
theorem fill1 : PySem.Challenge.rw_ph0008_01.prog = PySem.Challenge.rw_ph0008_01.prog ∧ Mine.hd.heap_39 = Mine.hd.heap_39 := by k_fill; exact ⟨rfl, rfl⟩
def IsPairs (Λ : Ldg) (l : Addr) (ps : List (Str × Str)) : Prop :=
  ∃ (vs : List Value) (ep : Nat), (l, listObj vs ep) ∈ Λ ∧ vs.length = ps.length ∧ ∀ (k : Nat) (q : Str × Str), ps[k]? = some q → ∃ T t t', vs[k]? = some (.ref T) ∧ (T, tupObj [.str q.1 t, .str q.2 t']) ∈ Λ
theorem IsPairs.mono {Λ Λ' : Ldg} {l : Addr} {ps : List (Str × Str)} (x : IsPairs Λ l ps) (hs : Sub Λ Λ') : IsPairs Λ' l ps := by
  obtain ⟨vs, ep, a, b, c⟩ := x
  exact ⟨vs, ep, hs _ a (.of_cls (by nofun)), b, fun k q e => let ⟨T, t, t', e1, e2⟩ := c k q e; ⟨T, t, t', e1, hs _ e2 (.of_cls (by nofun))⟩⟩

def Bst (Λ : Ldg) (v : Option Value) : Option (Int × Int × Str) → Prop
  | none => v = some .none
  | some (a, b, g) => ∃ T ta tb tg, v = some (.ref T) ∧ (T, tupObj [.int a ta, .int b tb, .str g tg]) ∈ Λ
theorem Bst.mono {Λ Λ' : Ldg} {v : Option Value} {r : Option (Int × Int × Str)} (hs : ∀ T vs, (T, tupObj vs) ∈ Λ → (T, tupObj vs) ∈ Λ') (x : Bst Λ v r) : Bst Λ' v r := by
  cases r with
  | none => exact x
  | some r => obtain ⟨T, ta, tb, tg, e, hm⟩ := x; exact ⟨T, ta, tb, tg, e, hs _ _ hm⟩
def nextStep (x : Str) (j : Int) (b : Option (Int × Int × Str)) (q : Str × Str) : Option (Int × Int × Str) :=
  if 0 ≤ Txt.find3 x q.1 j ∧ ((b.all fun r => decide (Txt.find3 x q.1 j < r.1)) = true) then some (Txt.find3 x q.1 j, Txt.find3 x q.1 j + q.1.length, q.2) else b
def nextOf (x : Str) (j : Int) (ps : List (Str × Str)) : Option (Int × Int × Str) := ps.foldl (nextStep x j) none
theorem nextStep_pos {x : Str} {j : Int} {b : Option (Int × Int × Str)} {q : Str × Str} (h1 : 0 ≤ Txt.find3 x q.1 j) (h2 : ∀ r, b = some r → Txt.find3 x q.1 j < r.1) :
    nextStep x j b q = some (Txt.find3 x q.1 j, Txt.find3 x q.1 j + q.1.length, q.2) := by
  unfold nextStep
  refine if_pos ⟨h1, ?_⟩
  cases b with
  | none => rfl
  | some r => simpa using h2 r rfl
theorem nextStep_neg {x : Str} {j : Int} {b : Option (Int × Int × Str)} {q : Str × Str} (h : ¬ 0 ≤ Txt.find3 x q.1 j ∨ ∃ r, b = some r ∧ ¬ Txt.find3 x q.1 j < r.1) : nextStep x j b q = b := by
  unfold nextStep
  refine if_neg fun ⟨h1, h2⟩ => ?_
  rcases h with h | ⟨r, rfl, h⟩
  · exact h h1
  · exact h (by simpa using h2)
theorem IsHit.imp {G : Gl} {an : Str} {Λ : Ldg} {v : Value} {i j : Int} {ok ok' : Value → Prop} (x : IsHit G an Λ v i j ok) (h : ∀ u, ok u → ok' u) : IsHit G an Λ v i j ok' := by
  obtain ⟨a, D, fd, es, n, sp, gv, fd', e, h1, h2, h3, h4, h5, h6, r⟩ := x
  exact ⟨a, D, fd, es, n, sp, gv, fd', e, h1, h2, h3, h4, h5, h _ h6, r⟩
theorem law_next (w p loose mean mg mb) (l : Addr) (ps : List (Str × Str)) (x : Str) (tx : Tok) (j : Int) (tj : Tok) (hpl : ∀ q ∈ ps, q.1.length ≤ 100) :
    Con (G1 w p loose mean mg mb) 13 60 42 [.ref l, .str x tx, .int j tj] (fun Λ => IsPairs Λ l ps) (fun _ v Λ' => Found (G1 w p loose mean mg mb) "given" (fun g u => ∃ t, u = .str g t) Λ' v (nextOf x j ps)) := by
  refine Con.ofDef (d := 12) (u := 57) (oc := _) (od := _) (osl := _) (binds := [("pairs", .ref l), ("chars", .str x tx), ("start", .int j tj)]) (name := _) (qual := _) (params := _) (body := _) (scope := _) (dV := _) (kV := _) (doc := _) (pm := _) (an := _) (cdv := _) (ct := _) rfl (by kernel_rfl) (fun s => BindsTo.of_eq rfl) (locs rfl) rfl rfl rfl (by decide) ?_
  intro dp un gd L outer A₀ base g Λ s E B F X N T hC tab hpre hd hu
  replace X : (Mine.hd.heap_39 w.params).In g := X
  replace T : Top p loose mean mg mb g := T
  refine execs_take 1 ?_
  dsimp only [List.take, List.drop]
  k_steps
  rename Fr _ _ _ _ => F1; rename News _ _ _ _ => N1
  unfold Hold
  refine execs_take 1 ?_
  dsimp only [List.take, List.drop]
  refine wpAny_execs_cons ?_
  refine wpAny_For ?_
  k_steps
  obtain ⟨vs, ep, hl, hlen, hps⟩ := hpre
  refine iter_list (fun f s' h => h) rfl F1 N1 tab hl ?_ (fun i m Λ' => m "pairs" = some (.ref l) ∧ m "chars" = some (.str x tx) ∧ m "start" = some (.int j tj) ∧ Bst Λ' (m "best") (nextOf x j (ps.take i))) ?_ ?_ ?_ ?_
  · intro s' I i v Q' E' hi hv hq
    obtain ⟨k, hk⟩ := List.mem_iff_getElem?.mp hv
    have hkl : k < ps.length := by rw [← hlen]; exact (List.getElem?_eq_some_iff.mp hk).1
    obtain ⟨T', t', t'', e, _⟩ := hps k ps[k] (List.getElem?_eq_getElem hkl)
    rw [hk] at e
    cases e
    exact wpAny_letOwnedTupleGo_listiter hi hq
  · rintro i m Λ Λ' hs ⟨a, b, c, d⟩
    exact ⟨a, b, c, d.mono fun T vs h => hs _ h (.of_data (by nofun))⟩
  · exact ⟨rfl, rfl, rfl, rfl⟩
  · rintro i v m₁ Λ₁ s₁ E' ⟨h1, tk1, rfl⟩ hi hv ⟨e1, e2, e3, e4⟩ hT hsub F2 N2
    obtain ⟨q, hq⟩ : ∃ q, ps[i]? = some q := ⟨ps[i]'(by omega), by simp [hlen ▸ hi]⟩
    obtain ⟨T', t', t'', hv', hT'⟩ := hps i q hq
    rw [hv] at hv'
    cases hv'
    have hT2 := hsub.sub _ hT' (.of_cls (by nofun))
    have hql : q.1.length ≤ 100 := hpl q (List.mem_of_getElem? hq)
    have hnx : nextOf x j (ps.take (i + 1)) = nextStep x j (nextOf x j (ps.take i)) q := by
      rw [List.take_add_one, hq]; simp [nextOf]
    rw [hnx]
    cases hb : nextOf x j (ps.take i) with
    | none =>
      rw [hb] at e4
      replace F2 := fr_says [("pairs", .ref l), ("chars", .str x tx), ("start", .int j tj), ("best", .none)] F2 (by simp [e1, e2, e3]; exact e4)
      clear e4
      k_steps
      · rename (0 ≤ _) => ha
        refine TurnEnd.next (by k_asm) (by k_asm) (hT.sub fun _ h => List.mem_cons_of_mem _ h) (Step.cons (by assumption)) ⟨rfl, rfl, rfl, ?_⟩
        rw [nextStep_pos ha (by intro r h; cases h)]
        exact ⟨_, _, _, _, rfl, .head _⟩
      · rename (¬ 0 ≤ _) => ha
        refine TurnEnd.next (by k_asm) (by k_asm) hT .refl ⟨rfl, rfl, rfl, ?_⟩
        rw [nextStep_neg (.inl ha)]
        exact rfl
    | some r =>
      obtain ⟨a, b, g⟩ := r
      rw [hb] at e4
      obtain ⟨T2, ta, tb, tg, e4, hm4⟩ := e4
      replace F2 := fr_says [("pairs", .ref l), ("chars", .str x tx), ("start", .int j tj), ("best", .ref T2)] F2 (by simp [e1, e2, e3, e4])
      clear e4
      k_steps
      · rename (0 ≤ _) => ha
        rename (_ < _) => hlt
        refine TurnEnd.next (by k_asm) (by k_asm) (hT.sub fun _ h => List.mem_cons_of_mem _ h) (Step.cons (by assumption)) ⟨rfl, rfl, rfl, ?_⟩
        rw [nextStep_pos ha (fun r h => by cases h; assumption)]
        exact ⟨_, _, _, _, rfl, .head _⟩
      · refine TurnEnd.next (by k_asm) (by k_asm) hT .refl ⟨rfl, rfl, rfl, ?_⟩
        rw [nextStep_neg (.inr ⟨_, rfl, by assumption⟩)]
        exact ⟨_, _, _, _, rfl, hm4⟩
      · refine TurnEnd.next (by k_asm) (by k_asm) hT .refl ⟨rfl, rfl, rfl, ?_⟩
        rw [nextStep_neg (.inl (by assumption))]
        exact ⟨_, _, _, _, rfl, hm4⟩
  · intro m' Λ' h' tk F2 N2 T2 S2 ⟨e1, e2, e3, e4⟩
    rw [hlen, List.take_length] at e4
    refine wpAny_execs_nil ?_
    dsimp only
    unfold Hold
    cases hb : nextOf x j ps with
    | none =>
      rw [hb] at e4
      replace F2 := fr_says [("best", .none)] F2 (by simp; exact e4)
      k_steps
      exact Lv.intro F2 N2 T2 S2 rfl
    | some r =>
      obtain ⟨a, b, g⟩ := r
      rw [hb] at e4
      obtain ⟨Tb, ta, tb, tg, e4, hm4⟩ := e4
      replace F2 := fr_says [("best", .ref Tb)] F2 (by simp; exact e4)
      k_steps
      refine law_hit w p loose mean mg mb a b ta tb g tg _ _ _ _ _ _ _ _ _ _ ⟨⟨gd, _, _, _, _, _, outer, A₀, base, rfl, B, rfl, hC⟩, F2, X, N2, T, T2⟩ trivial (by omega) (by omega) ?_
      intro v Λ3 h3 tk3 c3 S3 P3
      exact Lv.intro c3.F c3.N c3.tab (S2.trans S3) (IsHit.imp P3 fun u e => ⟨_, e⟩)
end Mine
namespace Mine
open PySem PySem.Calls PySem.W PyProof.Rows PySem.Flt PySem.Builtin PySem.Builtin.ObjectAttr
theorem offP1a : True := by w_top off; trivial
theorem fill2 : PySem.Challenge.rw_ph0008_01.prog = PySem.Challenge.rw_ph0008_01.prog ∧ Mine.hd.heap_39 = Mine.hd.heap_39 := by k_fill; exact ⟨rfl, rfl⟩
theorem sp_nd (w p loose mean mg mb) : ∀ x ∈ (G1 w p loose mean mg mb).sp, ∀ y ∈ (G1 w p loose mean mg mb).sp, x.1 = y.1 → x.2 = y.2 := by
  intro x hx y hy e
  rcases List.mem_cons.mp hx with rfl | hx <;> rcases List.mem_cons.mp hy with rfl | hy
  · rfl
  · rw [List.mem_singleton.mp hy] at e; exact absurd e (by decide)
  · rw [List.mem_singleton.mp hx] at e; exact absurd e (by decide)
  · rw [List.mem_singleton.mp hx, List.mem_singleton.mp hy]

theorem law_program (w p loose mean mg mb) (l : Addr) (ps : List (Str × Str)) (hpl : ∀ q ∈ ps, q.1.length ≤ 100) :
    Con (G1 w p loose mean mg mb) 9 40 49 [.ref l] (fun Λ => IsPairs Λ l ps) (fun _ v Λ' => ∃ pg, v = .ref pg ∧ ∀ chars, IsProg (G1 w p loose mean mg mb) "given" (fun (g : Str) u => ∃ t, u = .str g t) Λ' pg chars (fun j => nextOf chars j ps)) := by
  refine Con.ofDefC (d := 8) (u := 37) (oc := _) (od := _) (osl := _) (binds := [("pairs", .ref l)]) (name := _) (qual := _) (params := _) (body := _) (scope := _) (dV := _) (kV := _) (doc := _) (pm := _) (an := _) (cdv := _) (ct := _) rfl (by kernel_rfl) (fun s => BindsTo.of_eq rfl) rfl (by decide +kernel) rfl rfl rfl ?_
  intro dp un gd L outer A₀ base g Λ cells s E B F X N Y hlt T hC tab hpre hd hu
  obtain ⟨o1, rfl, d1⟩ := CellsAre.one Y
  clear Y
  replace d1 : o1.data = .cell (some (.ref l)) := d1
  replace X : (Mine.hd.heap_39 w.params).In g := X
  replace T : Top p loose mean mg mb g := T
  have hCo : CodeHd g 48 44 := (hC (48, 44) (.tail _ (.head _))).keeps B.stays
  have hnd := sp_nd w p loose mean mg mb
  have tab0 : TabOk (G1 w p loose mean mg mb).sp ([(L + 1, o1)] ++ Λ) := tab.sub fun _ h => List.mem_append_right _ h
  k_steps
  refine kla_eval rfl ?_
  refine lam_make ?_
  refine lam_led F N T hCo rfl tab0 hnd (.tail _ (.head _)) rfl ?_
  intro f c1 oc1 doc1 ctv1 h1 tk1 Λ1 F1 N1 T1 S1 hc1 hl1 hf1
  k_steps
  rename Fr _ _ _ _ => F2; rename News _ _ _ _ => N2
  rename_i t0 h9 l1
  have hLf : L < f := Nat.lt_trans (Nat.lt_succ_self L) (hf1 _ (S1.keep (L + 1, o1) (.head _) (NT.of_cell d1)))
  have hft : f < t0 := l1.1
  refine lam_led F2 N2 T hCo rfl (T1.sub fun _ h => List.mem_cons_of_mem _ (List.mem_cons_of_mem _ h)) hnd (.tail _ (.head _)) rfl ?_
  intro f2 c2 oc2 doc2 ctv2 h2 tk2 Λ2 F3 N3 T3 S3 hc2 hl2 hf2
  have htm := S3.keep _ (.head _) (.of_cls (by nofun))
  have hfm := S3.keep _ (.tail _ (.head _)) (.of_cls (by nofun))
  have nc2 : c2 ≠ f := news_ne N3 (.tail _ hc2) (.tail _ hfm) (by obtain ⟨vs, t, e, _⟩ := hl2; rw [e]; nofun)
  k_steps
  rename Fr _ _ _ _ => F4; rename News _ _ _ _ => N4
  refine set_led0 F4 N4 (.tail _ hfm) (T3.sub fun _ h => List.mem_cons_of_mem _ h) lk_function_search ?_
  intro D h5 t5 tk5 Λ5 F5 N5 T5 ha5 hD5 k5 b5 l5
  k_steps
  have hfD : f < D := l5 _ (.tail _ hfm)
  have hff2 : f < f2 := hf2 _ hfm
  have hf2D : f2 < D := l5 _ (.head _)
  have in5 : ∀ q ∈ Λ2, q.1 ≠ f → q ∈ Λ5 := fun q hq hn => k5 q (.tail _ hq) hn
  have S : Step Λ Λ5 := by
    refine ⟨fun q hq hn => ?_, fun q hq => ?_, fun q hq => ?_⟩
    · have q1 := S1.keep q (List.mem_append_right _ hq) hn
      exact in5 q (S3.keep q (.tail _ (.tail _ q1)) hn) (Nat.ne_of_lt (hf1 q q1))
    · obtain ⟨r, hr, e⟩ := S1.addr q (List.mem_append_right _ hq)
      obtain ⟨r', hr', e'⟩ := S3.addr r (.tail _ (.tail _ hr))
      exact ⟨r', in5 r' hr' (by rw [e']; exact Nat.ne_of_lt (hf1 r hr)), e'.trans e⟩
    · have big : L ≤ q.1 → (∃ r ∈ Λ, r.1 = q.1) ∨ ∀ r ∈ Λ, r.1 < q.1 := fun h => .inr fun r hr => Nat.lt_of_lt_of_le (hlt r hr) h
      rcases b5 q hq with e | e | hq
      · exact big (by rw [e]; exact Nat.le_of_lt hLf)
      · exact big (by rw [e]; exact Nat.le_of_lt (Nat.lt_trans hLf hfD))
      · rcases List.mem_cons.mp hq with rfl | hq
        · exact big (Nat.le_of_lt (Nat.lt_trans hLf hff2))
        · rcases S3.fresh q hq with ⟨r, hr, e⟩ | e
          · rcases List.mem_cons.mp hr with rfl | hr
            · exact big (by rw [← e]; exact Nat.le_of_lt (Nat.lt_trans hLf hft))
            · rcases List.mem_cons.mp hr with rfl | hr
              · exact big (by rw [← e]; exact Nat.le_of_lt hLf)
              · rcases S1.fresh r hr with ⟨r', hr', e'⟩ | e'
                · rcases List.mem_append.mp hr' with hr' | hr'
                  · exact big (by rw [← e, ← e', List.mem_singleton.mp hr']; exact Nat.le_succ _)
                  · exact .inl ⟨r', hr', e'.trans e⟩
                · exact big (by rw [← e]; exact Nat.le_of_lt (Nat.lt_trans (Nat.lt_succ_self L) (e' (L + 1, o1) (.head _))))
          · exact big (Nat.le_of_lt (Nat.lt_trans hLf (e _ (.tail _ (.head _)))))
  have i2 := k5 _ (.head _) (Nat.ne_of_gt hff2)
  have ic2 : (c2, oc2) ∈ Λ5 := in5 _ hc2 nc2
  have it0 : (t0, kdv_tup [.int 0 _]) ∈ Λ5 := in5 _ htm (Nat.ne_of_gt hft)
  have icP : (L + 1, o1) ∈ Λ5 := by
    have q1 := S1.keep _ (.head _) (NT.of_cell d1)
    exact in5 _ (S3.keep _ (.tail _ (.tail _ q1)) (NT.of_cell d1)) (Nat.ne_of_lt (hf1 _ q1))
  have hpre5 := hpre.mono S.sub
  refine Lv.intro (by k_asm) (by k_asm) T5 S ⟨f, rfl, fun chars => ⟨D, _, _, _, f2, _, ha5, hD5, ?_, rfl, i2, ?_, ?_⟩⟩
  · intro e he
    simp only [List.mem_toArray, List.mem_cons, List.not_mem_nil, or_false] at he
    rcases he with rfl
    exact ⟨_, _, rfl⟩
  · intro t
    refine Con.ofLam (d := 19) (u := 97) i2 ic2 hl2 (binds := [("chars", .str chars t), ("start", .int 0 _)]) (fun _ _ _ _ N hs => kdv_binds N (hs _ it0 (.of_cls (by nofun))) rfl rfl rfl) (locs rfl) rfl rfl rfl (by decide) ?_
    intro dp un gd L' outer A₀ base g Λ' s E B F X N T hC tab hsub hd hu
    replace X : (Mine.hd.heap_39 w.params).In g := X
    replace T : Top p loose mean mg mb g := T
    have mP := hsub _ icP (NT.of_cell d1)
    k_steps
    refine law_next w p loose mean mg mb l ps chars t _ _ hpl _ _ _ _ _ _ _ _ _ _ ⟨⟨gd, _, _, _, _, _, outer, A₀, base, rfl, B, rfl, hC⟩, by k_asm, X, by k_asm, T, tab⟩ (hpre5.mono hsub) (by omega) (by omega) ?_
    intro v Λ3 h3 tk3 c3 S3 P3
    exact Lv.intro c3.F c3.N c3.tab S3 P3
  · intro t j tj hj
    refine Con.ofLam (d := 19) (u := 97) i2 ic2 hl2 (binds := [("chars", .str chars t), ("start", .int j tj)]) (fun _ _ _ _ N hs => kdv_binds N (hs _ it0 (.of_cls (by nofun))) rfl rfl rfl) (locs rfl) rfl rfl rfl (by decide) ?_
    intro dp un gd L' outer A₀ base g Λ' s E B F X N T hC tab hsub hd hu
    replace X : (Mine.hd.heap_39 w.params).In g := X
    replace T : Top p loose mean mg mb g := T
    have mP := hsub _ icP (NT.of_cell d1)
    k_steps
    refine law_next w p loose mean mg mb l ps chars t _ _ hpl _ _ _ _ _ _ _ _ _ _ ⟨⟨gd, _, _, _, _, _, outer, A₀, base, rfl, B, rfl, hC⟩, by k_asm, X, by k_asm, T, tab⟩ (hpre5.mono hsub) (by omega) (by omega) ?_
    intro v Λ3 h3 tk3 c3 S3 P3
    exact Lv.intro c3.F c3.N c3.tab S3 P3
end Mine
namespace Mine
open PySem PySem.Calls PySem.W PyProof.Rows PySem.Flt PySem.Builtin PySem.Builtin.ObjectAttr
theorem offSR1 : True := by w_top off; trivial
theorem fill3 : PySem.Challenge.rw_ph0008_01.prog = PySem.Challenge.rw_ph0008_01.prog ∧ Mine.hd.heap_39 = Mine.hd.heap_39 := by k_fill; exact ⟨rfl, rfl⟩

local macro_rules | `(tactic| walk_at "getMethod ref") => `(tactic| refine hold_in ?_)
local macro_rules | `(tactic| walk_at "call ref") => `(tactic| refine hold_in ?_)
local macro_rules | `(tactic| walk_at "truthy ref") => `(tactic| refine hold_in ?_)

theorem search_reverse1 (w p loose mean mg mb) {γ : Type} (an : Str) (ok : γ → Value → Prop) (nx : Int → Option (Int × Int × γ)) (NN : Nat) (hg : Goes nx NN) (hN : NN < 2 ^ 20) (pg : Addr) (x : Str) (tx : Tok) (col : Int) (tc : Tok) :
    Con (G1 w p loose mean mg mb) 30 140 21 [.ref pg, .str x tx, .int col tc] (fun Λ => IsProg (G1 w p loose mean mg mb) an ok Λ pg x nx) (fun _ v Λ' => Found (G1 w p loose mean mg mb) an ok Λ' v (revGo nx col (NN + 1) 0 none)) := by
  refine Con.ofDef (d := 29) (u := 137) (oc := _) (od := _) (osl := _) (binds := [("prog", .ref pg), ("chars", .str x tx), ("col", .int col tc)]) (name := _) (qual := _) (params := _) (body := _) (scope := _) (dV := _) (kV := _) (doc := _) (pm := _) (an := _) (cdv := _) (ct := _) rfl (by kernel_rfl) (fun s => BindsTo.of_eq rfl) (locs rfl) rfl rfl rfl (by decide) ?_
  intro dp un gd L outer A₀ base g Λ s E B F X N T hC tab hpre hd hu
  replace X : (Mine.hd.heap_39 w.params).In g := X
  replace T : Top p loose mean mg mb g := T
  have hpre' := hpre
  obtain ⟨D, fd, es, n, sr, fd', p1, p2, p3, p4, p5, p6⟩ := hpre'
  refine execs_take 4 ?_
  dsimp only [List.take, List.drop]
  k_steps
  refine hold_out ?_
  refine getMethod_led N p1 p2 p3 p4 lk_function_search rfl ?_
  dsimp only
  refine callWith_F ⟨_, _, _, _, (N _ p5).1⟩ ?_
  k_steps
  refine hold_out ?_
  refine p6.one _ _ _ _ _ _ _ _ _ _ _ ⟨⟨gd, _, _, _, _, _, outer, A₀, base, rfl, B, rfl, hC⟩, F, X, N, T, tab⟩ .refl (by omega) (by omega) ?_
  intro v1 Λ1 h1 tk1 c1 S1 P1
  have F1 := c1.F
  have N1 := c1.N
  have tab1 := c1.tab
  clear c1 F N
  cases h0 : nx 0 with
  | none =>
    rw [h0] at P1
    cases P1
    k_steps
    refine Lv.intro (by k_asm) (by k_asm) tab1 S1 ?_
    show Found _ _ _ _ _ (revGo nx col (NN + 1) 0 none)
    rw [revGo, h0]
    exact rfl
  | some r =>
    obtain ⟨i, j, gg⟩ := r
    rw [h0] at P1
    obtain ⟨b1, b2, b3⟩ := hg 0 i j gg (Int.le_refl 0) h0
    obtain ⟨a, Da, fda, esa, na, sp, gv, fds, rfl, q1, q2, q3, q4, q5, q6, q7, q8, q9⟩ := id P1
    k_steps
    rename Fr _ _ _ _ => F2; rename News _ _ _ _ => N2
    refine hold_out ?_
    refine fn_truthy (N2 _ q1).1 ?_
    k_steps
    rename Fr _ _ _ _ => F3; rename News _ _ _ _ => N3
    refine hold_out ?_
    refine getMethod_led N3 q1 q2 q3 q4 lk_function_span rfl ?_
    dsimp only
    refine callWith_F0 ⟨_, _, _, _, (N3 _ q8).1⟩ ?_
    dsimp only [List.nil_append]
    refine q9 _ _ _ _ _ _ _ _ _ _ ⟨⟨gd, _, _, _, _, _, outer, A₀, base, rfl, B, rfl, hC⟩, F3, X, N3, T, tab1⟩ .refl (by omega) (by omega) ?_
    rintro v4 Λ4 h4 tk4 c4 S4 ⟨T4, ti, tj, rfl, hT4⟩
    have F4 := c4.F
    have N4 := c4.N
    have tab4 := c4.tab
    clear c4 F3 N3
    have P4 := Found.mono P1 S4.sub
    have pr4 := hpre.mono (S1.trans S4).sub
    clear q1 q2 q3 q4 q5 q6 q7 q8 q9 p1 p2 p3 p4 p5 p6
    k_steps
    refine hold_out ?_
    rename Fr _ _ _ _ => F5; rename News _ _ _ _ => N5
    refine execs_take 1 ?_
    dsimp only [List.take, List.drop]
    refine wpAny_execs_cons ?_
    refine wpAny_While ?_
    refine while_led (fun f s' h => h) F5 N5 tab4 (fun k m Λ' => ∃ vm i j ti tj g vf f, m "m" = some vm ∧ m "i" = some (.int i ti) ∧ m "j" = some (.int j tj) ∧ m "found" = some vf ∧ m "prog" = some (.ref pg) ∧ m "chars" = some (.str x tx) ∧ m "col" = some (.int col tc) ∧
      0 ≤ i ∧ i < j ∧ j ≤ NN ∧ (k : Int) = NN - j ∧ IsProg (G1 w p loose mean mg mb) an ok Λ' pg x nx ∧ Found (G1 w p loose mean mg mb) an ok Λ' vm (some (i, j, g)) ∧ Found (G1 w p loose mean mg mb) an ok Λ' vf f ∧
      revGo nx col (NN + 1) 0 none = if i < col ∧ j ≤ col then revGo nx col (NN + 1) j (some (i, j, g)) else f) ((NN : Int) - j).toNat ?_ ?_
    · refine ⟨_, i, j, ti, tj, gg, .none, none, rfl, rfl, rfl, rfl, rfl, rfl, rfl, b1, b2, b3, by omega, pr4, P4, rfl, ?_⟩
      conv => lhs; rw [revGo, h0]
      dsimp only
      split
      · exact revGo_fuel hg col _ _ _ _ (by omega) (by omega) (by omega)
      · rfl
    · rintro k m₁ Λ₁ s₁ E' ⟨h1, tk1, rfl⟩ ⟨vm, i, j, ti, tj, g, vf, f, e1, e2, e3, e4, e5, e6, e7, c1, c2, c3, c4, c5, c6, c7, c8⟩ hT hS F6 N6
      replace F6 := fr_says [("m", vm), ("i", .int i ti), ("j", .int j tj), ("found", vf), ("prog", .ref pg), ("chars", .str x tx), ("col", .int col tc)] F6 (by simp [e1, e2, e3, e4, e5, e6, e7])
      obtain ⟨D, fd, es, n, sr, fd', p1, p2, p3, p4, p5, p6⟩ := id c5
      k_steps
      · exfalso; omega
      · rename_i g1 g2 g3
        refine hold_out ?_
        rename Fr _ _ _ _ => F7; rename News _ _ _ _ => N7
        refine getMethod_led N7 p1 p2 p3 p4 lk_function_search rfl ?_
        dsimp only
        refine callWith_F ⟨_, _, _, _, (N7 _ p5).1⟩ ?_
        k_steps
        refine hold_out ?_
        refine p6.two _ _ _ (by omega) _ _ _ _ _ _ _ _ _ _ ⟨⟨gd, _, _, _, _, _, outer, A₀, base, rfl, B, rfl, hC⟩, F7, X, N7, T, hT⟩ .refl (by omega) (by omega) ?_
        intro v1 Λ8 h8 tk8 c8' S8 P8
        have F8 := c8'.F
        have N8 := c8'.N
        have tab8 := c8'.tab
        clear c8' F7 N7
        have hv8 := Found.mono c6 S8.sub
        rw [if_pos (by omega)] at c8
        cases h0' : nx j with
        | none =>
          rw [h0'] at P8
          cases P8
          k_steps
          show wpAny _ _ (execs [] _) _ _ _
          k_steps
          show Hold _
          refine hold_out ?_
          k_steps
          refine Lv.intro (by k_asm) (by k_asm) tab8 (((S1.trans S4).trans hS).trans S8) ?_
          rw [c8, revGo, h0']
          exact hv8
        | some r =>
          obtain ⟨i2, j2, g2'⟩ := r
          rw [h0'] at P8
          obtain ⟨d1, d2, d3⟩ := hg j i2 j2 g2' (by omega) h0'
          obtain ⟨a, Da, fda, esa, na, sp, gv, fds, rfl, q1, q2, q3, q4, q5, q6, q7, q8, q9⟩ := id P8
          k_steps
          refine hold_out ?_
          rename Fr _ _ _ _ => F9; rename News _ _ _ _ => N9
          refine fn_truthy (N9 _ q1).1 ?_
          k_steps
          refine hold_out ?_
          rename Fr _ _ _ _ => Fa; rename News _ _ _ _ => Na
          refine getMethod_led Na q1 q2 q3 q4 lk_function_span rfl ?_
          dsimp only
          refine callWith_F0 ⟨_, _, _, _, (Na _ q8).1⟩ ?_
          dsimp only [List.nil_append]
          refine q9 _ _ _ _ _ _ _ _ _ _ ⟨⟨gd, _, _, _, _, _, outer, A₀, base, rfl, B, rfl, hC⟩, Fa, X, Na, T, tab8⟩ .refl (by omega) (by omega) ?_
          rintro v4 Λb hb tkb cb Sb ⟨T4, ti4, tj4, rfl, hT4⟩
          have Fb := cb.F
          have Nb := cb.N
          have tabb := cb.tab
          clear cb Fa Na
          k_steps
          refine WEnd.next (n' := ((NN : Int) - j2).toNat) (by omega) (by k_asm) (by k_asm) tabb ((hS.trans S8).trans Sb) ⟨_, i2, j2, ti4, tj4, g2', vm, _, rfl, rfl, rfl, rfl, rfl, rfl, rfl, by omega, d2, d3, by omega, c5.mono (S8.trans Sb).sub, Found.mono P8 Sb.sub, Found.mono hv8 Sb.sub, ?_⟩
          rw [c8, revGo, h0']
          dsimp only
          split
          · exact revGo_fuel hg col _ _ _ _ (by omega) (by omega) (by omega)
          · rfl
      · rename (¬ _ ≤ _) => hn
        rw [if_neg (by omega)] at c8
        show Hold _
        refine hold_out ?_
        k_steps
        refine Lv.intro (by k_asm) (by k_asm) hT ((S1.trans S4).trans hS) ?_
        rw [c8]
        exact c7
      · rename (¬ _ < _) => hn
        rw [if_neg (by omega)] at c8
        show Hold _
        refine hold_out ?_
        k_steps
        refine Lv.intro (by k_asm) (by k_asm) hT ((S1.trans S4).trans hS) ?_
        rw [c8]
        exact c7
end Mine
namespace Mine
open PySem PySem.Calls PySem.W PyProof.Rows PySem.Flt PySem.Builtin PySem.Builtin.ObjectAttr
theorem offR1a : True := by w_top off; trivial
theorem fill4 : PySem.Challenge.rw_ph0008_01.prog = PySem.Challenge.rw_ph0008_01.prog ∧ Mine.hd.heap_39 = Mine.hd.heap_39 := by k_fill; exact ⟨rfl, rfl⟩
theorem fold_len (k : Nat) : ∀ (l : List Str) (a : Nat), l.foldl (fun n y => n + y.length + k) a = a + (l.map (·.length)).sum + l.length * k
  | [], a => by simp
  | y :: r, a => by
    rw [List.foldl_cons, fold_len k r]
    simp only [List.map_cons, List.sum_cons, List.length_cons, Nat.add_mul, Nat.one_mul]
    omega
theorem joinOk_of {sep : Str} {l : List Str} (h : (l.map (·.length)).sum + l.length * sep.length ≤ 16777216) : JoinOk sep l = true := by
  unfold JoinOk Builtin.Str.tooLong
  rw [List.foldl_toArray, fold_len]
  simp only [Bool.not_eq_true', decide_eq_false_iff_not, sizeLine_eq]
  omega
def repl1 (x : Str) (q : Str × Str) : Str := Txt.join q.2 (Txt.split x q.1)
inductive FlatOf : List Value → List (Str × Str) → Prop
  | nil : FlatOf [] []
  | cons {a b : Str} {t u : Tok} {vs : List Value} {qs : List (Str × Str)} : FlatOf vs qs → FlatOf (.str a t :: .str b u :: vs) ((a, b) :: qs)
/-- the texts on the way stay small -/
def RepOk : Str → List (Str × Str) → Prop
  | _, [] => True
  | x, q :: qs => x.length ≤ 1000 ∧ 0 < q.1.length ∧ q.1.length ≤ 100 ∧ q.2.length ≤ 100 ∧ RepOk (repl1 x q) qs
theorem FlatOf.len {vs : List Value} {qs : List (Str × Str)} (h : FlatOf vs qs) : vs.length = 2 * qs.length := by
  induction h with
  | nil => rfl
  | cons _ ih => simp only [List.length_cons, ih]; omega
local macro_rules | `(tactic| walk_at "subscriptTail Name Slice ref ref") => `(tactic| refine hold_in ?_)
local macro_rules | `(tactic| walk_at "truthy ref") => `(tactic| refine hold_in ?_)
theorem law_replace (w p loose mean mg mb) (x : Str) (tx : Tok) :
    (∀ y z ty tz, RepOk x [(y, z)] → Con (G1 w p loose mean mg mb) 9 40 28 (.str x tx :: [.str y ty, .str z tz]) (fun _ => True) (fun _ v _ => ∃ t, v = .str ([(y, z)].foldl repl1 x) t)) ∧
    (∀ y z y₁ z₁ y₂ z₂ y₃ z₃ ty tz ty₁ tz₁ ty₂ tz₂ ty₃ tz₃, RepOk x [(y, z), (y₁, z₁), (y₂, z₂), (y₃, z₃)] → Con (G1 w p loose mean mg mb) 9 40 28 (.str x tx :: [.str y ty, .str z tz, .str y₁ ty₁, .str z₁ tz₁, .str y₂ ty₂, .str z₂ tz₂, .str y₃ ty₃, .str z₃ tz₃]) (fun _ => True) (fun _ v _ => ∃ t, v = .str ([(y, z), (y₁, z₁), (y₂, z₂), (y₃, z₃)].foldl repl1 x) t)) := by
  refine ⟨fun y z ty tz hok => ?_, fun y z y₁ z₁ y₂ z₂ y₃ z₃ ty tz ty₁ tz₁ ty₂ tz₂ ty₃ tz₃ hok => ?_⟩
  · refine Con.ofRest (d := 8) (u := 37) (oc := _) (od := _) (osl := _) (rest := [.str y ty, .str z tz]) (binds := fun D => [("text", .str x tx), ("pairs", .ref D)]) (g₁ := _) (name := _) (qual := _) (params := _) (body := _) (scope := _) (dV := _) (kV := _) (doc := _) (pm := _) (an := _) (cdv := _) (ct := _) rfl (by kernel_rfl) rfl rfl (fun _ => rfl) (fun _ => locs rfl) rfl rfl rfl (by decide) (fun _ _ _ _ => trivial) ?_
    have hsz : [(y, z)].length ≤ 100 := by simp
    have hfl : FlatOf [.str y ty, .str z tz] [(y, z)] := .cons .nil
    generalize [Value.str y ty, .str z tz] = vs at *
    generalize [(y, z)] = qs at *
    intro D dp un gd L outer A₀ base g Λ s E B F X N T hC tab hpre hd hu
    replace X : (Mine.hd.heap_39 w.params).In g := X
    replace T : Top p loose mean mg mb g := T
    obtain ⟨_, hD⟩ := hpre
    refine execs_take 1 ?_
    dsimp only [List.take, List.drop]
    refine wpAny_execs_cons ?_
    refine wpAny_While ?_
    refine while_led (fun f s' h => h) F N tab (fun k m Λ' => ∃ T vs₁ qs₁ cur tc, m "pairs" = some (.ref T) ∧ m "text" = some (.str cur tc) ∧ (T, tupObj vs₁) ∈ Λ' ∧ FlatOf vs₁ qs₁ ∧ k = qs₁.length ∧ k ≤ 100 ∧ RepOk cur qs₁ ∧ qs₁.foldl repl1 cur = qs.foldl repl1 x) qs.length ⟨_, _, _, _, _, rfl, rfl, hD, hfl, rfl, hsz, hok, rfl⟩ ?_
    · rintro k m₁ Λ₁ s₁ E' ⟨h1, tk1, rfl⟩ ⟨T', vs₁, qs₁, cur, tc, e1, e2, e3, e4, e5, e6, e7, e8⟩ hT hS F6 N6
      replace F6 := fr_says [("pairs", .ref T'), ("text", .str cur tc)] F6 (by simp [e1, e2])
      have hz : vs₁.length ≤ 1000 := by rw [e4.len]; omega
      cases e4 with
      | nil =>
        k_steps
        refine hold_out ?_
        refine ktl_truthyK N6 e3 hz ?_
        dsimp only [List.isEmpty_nil, Bool.not_true]
        k_steps
        refine hold_out ?_
        k_steps
        refine ⟨_, _, _, _, rfl, F6, N6, hT, hS, tc, ?_⟩
        rw [← e8]
        rfl
      | cons e4 =>
        rename_i a b t u vs' qs'
        obtain ⟨l0, l1, l2, l3, l4⟩ := e7
        dsimp only at l1 l2 l3
        k_steps
        refine hold_out ?_
        refine ktl_truthyK N6 e3 hz ?_
        dsimp only [List.isEmpty_cons, Bool.not_false]
        k_steps
        refine kim_tup N6 e3 rfl rfl (by decide) (by decide) (j := 1) (x := .str b u) (by unfold seqIndex?; simp; omega) rfl ?_
        k_steps
        refine kim_tup N6 e3 rfl rfl (by decide) (by decide) (j := 0) (x := .str a t) (by unfold seqIndex?; simp; omega) rfl ?_
        k_steps
        refine KSpl.split1 F6 N6 (by simp; omega) ?_ (by rw [sizeLine_eq]; omega)
        intro D1 ls h7 tk7 hl1 hl2 F7 N7 hlt7
        k_steps
        have hw := split_weight cur a (by omega)
        refine SC.join ⟨_, (N7 _ (.head _)).1, rfl, 0, rfl⟩ hl1 (joinOk_of ?_) fun t8 k8 => ?_
        · have : (Txt.split cur a).length * b.length ≤ (Txt.split cur a).length * 100 := Nat.mul_le_mul_left _ l3
          omega
        k_steps
        rename Fr _ _ _ _ => F8
        rename News _ _ _ _ => N8
        refine hold_out ?_
        have lt8 := news_lt N8
        refine slice_tuple_from (a := 2) F8 N8 (News.isTup N8 (.tail _ e3)) (by decide) (by simp) ?_ (hsz := by rw [sizeLine_eq]; simpa using by simp only [List.length_cons] at hz; omega)
        intro h9 F9 N9
        dsimp only [List.toList_toArray, List.drop] at N9
        k_steps
        rename Fr _ _ _ _ => Fa
        rename News _ _ _ _ => Na
        refine WEnd.next (n' := qs'.length) (by rw [e5]; simp) Fa Na (hT.sub fun _ h => .tail _ (.tail _ h)) (hS.trans ((Step.cons hlt7).trans (Step.cons fun q hq => Nat.lt_succ_of_lt (lt8 q hq)))) ?_
        refine ⟨_, _, _, _, _, rfl, rfl, .head _, e4, rfl, ?_, l4, e8⟩
        rw [e5] at e6; simp only [List.length_cons] at e6; omega

  · refine Con.ofRest (d := 8) (u := 37) (oc := _) (od := _) (osl := _) (rest := [.str y ty, .str z tz, .str y₁ ty₁, .str z₁ tz₁, .str y₂ ty₂, .str z₂ tz₂, .str y₃ ty₃, .str z₃ tz₃]) (binds := fun D => [("text", .str x tx), ("pairs", .ref D)]) (g₁ := _) (name := _) (qual := _) (params := _) (body := _) (scope := _) (dV := _) (kV := _) (doc := _) (pm := _) (an := _) (cdv := _) (ct := _) rfl (by kernel_rfl) rfl rfl (fun _ => rfl) (fun _ => locs rfl) rfl rfl rfl (by decide) (fun _ _ _ _ => trivial) ?_
    have hsz : [(y, z), (y₁, z₁), (y₂, z₂), (y₃, z₃)].length ≤ 100 := by simp
    have hfl : FlatOf [.str y ty, .str z tz, .str y₁ ty₁, .str z₁ tz₁, .str y₂ ty₂, .str z₂ tz₂, .str y₃ ty₃, .str z₃ tz₃] [(y, z), (y₁, z₁), (y₂, z₂), (y₃, z₃)] := .cons (.cons (.cons (.cons .nil)))
    generalize [Value.str y ty, .str z tz, .str y₁ ty₁, .str z₁ tz₁, .str y₂ ty₂, .str z₂ tz₂, .str y₃ ty₃, .str z₃ tz₃] = vs at *
    generalize [(y, z), (y₁, z₁), (y₂, z₂), (y₃, z₃)] = qs at *
    intro D dp un gd L outer A₀ base g Λ s E B F X N T hC tab hpre hd hu
    replace X : (Mine.hd.heap_39 w.params).In g := X
    replace T : Top p loose mean mg mb g := T
    obtain ⟨_, hD⟩ := hpre
    refine execs_take 1 ?_
    dsimp only [List.take, List.drop]
    refine wpAny_execs_cons ?_
    refine wpAny_While ?_
    refine while_led (fun f s' h => h) F N tab (fun k m Λ' => ∃ T vs₁ qs₁ cur tc, m "pairs" = some (.ref T) ∧ m "text" = some (.str cur tc) ∧ (T, tupObj vs₁) ∈ Λ' ∧ FlatOf vs₁ qs₁ ∧ k = qs₁.length ∧ k ≤ 100 ∧ RepOk cur qs₁ ∧ qs₁.foldl repl1 cur = qs.foldl repl1 x) qs.length ⟨_, _, _, _, _, rfl, rfl, hD, hfl, rfl, hsz, hok, rfl⟩ ?_
    · rintro k m₁ Λ₁ s₁ E' ⟨h1, tk1, rfl⟩ ⟨T', vs₁, qs₁, cur, tc, e1, e2, e3, e4, e5, e6, e7, e8⟩ hT hS F6 N6
      replace F6 := fr_says [("pairs", .ref T'), ("text", .str cur tc)] F6 (by simp [e1, e2])
      have hz : vs₁.length ≤ 1000 := by rw [e4.len]; omega
      cases e4 with
      | nil =>
        k_steps
        refine hold_out ?_
        refine ktl_truthyK N6 e3 hz ?_
        dsimp only [List.isEmpty_nil, Bool.not_true]
        k_steps
        refine hold_out ?_
        k_steps
        refine ⟨_, _, _, _, rfl, F6, N6, hT, hS, tc, ?_⟩
        rw [← e8]
        rfl
      | cons e4 =>
        rename_i a b t u vs' qs'
        obtain ⟨l0, l1, l2, l3, l4⟩ := e7
        dsimp only at l1 l2 l3
        k_steps
        refine hold_out ?_
        refine ktl_truthyK N6 e3 hz ?_
        dsimp only [List.isEmpty_cons, Bool.not_false]
        k_steps
        refine kim_tup N6 e3 rfl rfl (by decide) (by decide) (j := 1) (x := .str b u) (by unfold seqIndex?; simp; omega) rfl ?_
        k_steps
        refine kim_tup N6 e3 rfl rfl (by decide) (by decide) (j := 0) (x := .str a t) (by unfold seqIndex?; simp; omega) rfl ?_
        k_steps
        refine KSpl.split1 F6 N6 (by simp; omega) ?_ (by rw [sizeLine_eq]; omega)
        intro D1 ls h7 tk7 hl1 hl2 F7 N7 hlt7
        k_steps
        have hw := split_weight cur a (by omega)
        refine SC.join ⟨_, (N7 _ (.head _)).1, rfl, 0, rfl⟩ hl1 (joinOk_of ?_) fun t8 k8 => ?_
        · have : (Txt.split cur a).length * b.length ≤ (Txt.split cur a).length * 100 := Nat.mul_le_mul_left _ l3
          omega
        k_steps
        rename Fr _ _ _ _ => F8
        rename News _ _ _ _ => N8
        refine hold_out ?_
        have lt8 := news_lt N8
        refine slice_tuple_from (a := 2) F8 N8 (News.isTup N8 (.tail _ e3)) (by decide) (by simp) ?_ (hsz := by rw [sizeLine_eq]; simpa using by simp only [List.length_cons] at hz; omega)
        intro h9 F9 N9
        dsimp only [List.toList_toArray, List.drop] at N9
        k_steps
        rename Fr _ _ _ _ => Fa
        rename News _ _ _ _ => Na
        refine WEnd.next (n' := qs'.length) (by rw [e5]; simp) Fa Na (hT.sub fun _ h => .tail _ (.tail _ h)) (hS.trans ((Step.cons hlt7).trans (Step.cons fun q hq => Nat.lt_succ_of_lt (lt8 q hq)))) ?_
        refine ⟨_, _, _, _, _, rfl, rfl, .head _, e4, rfl, ?_, l4, e8⟩
        rw [e5] at e6; simp only [List.length_cons] at e6; omega

end Mine
namespace Mine
open PySem PySem.Calls PySem.W PyProof.Rows PySem.Flt PySem.Builtin PySem.Builtin.ObjectAttr
theorem offMV1 : True := by w_top off; trivial
theorem fill5 : PySem.Challenge.rw_ph0008_01.prog = PySem.Challenge.rw_ph0008_01.prog ∧ Mine.hd.heap_39 = Mine.hd.heap_39 := by k_fill; exact ⟨rfl, rfl⟩
def movedF (x : Str) (i k : Int) : Str :=
  if ([Str.ofString "aba", Str.ofString "bab"].any fun y => y == Txt.slice x (some i) (some (i + 3))) = true then Txt.slice x none (some i) ++ (if (Txt.slice x (some i) (some (i + 3)) == Str.ofString "aba") = true then Str.ofString "bab" else Str.ofString "aba") ++ Txt.slice x (some (i + 3)) none
  else if k = 0 then Txt.slice x none (some i) ++ (if (Txt.item x i == Str.ofString "a") = true then Str.ofString "b" else Str.ofString "a") ++ Txt.slice x (some (i + 1)) none
  else if k = 1 then Txt.slice x (some 1) none ++ Txt.item x 0
  else Txt.slice x none (some i) ++ Txt.item x (i + 1) ++ Txt.item x i ++ Txt.slice x (some (i + 2)) none
theorem nt {b : Bool} (h : b = false) : ¬ b = true := by rw [h]; nofun
theorem law_moved (w p loose mean mg mb) (x : Str) (tx : Tok) (i : Int) (ti : Tok) (k : Int) (tk : Tok) (hx : x.length = 8) (hi : 0 ≤ i ∧ i < 6) :
    Con (G1 w p loose mean mg mb) 9 40 84 [.str x tx, .int i ti, .int k tk] (fun _ => True) (fun _ v _ => ∃ t, v = .str (movedF x i k) t) := by
  refine Con.ofDef (d := 8) (u := 37) (oc := _) (od := _) (osl := _) (binds := [("word", .str x tx), ("place", .int i ti), ("kind", .int k tk)]) (name := _) (qual := _) (params := _) (body := _) (scope := _) (dV := _) (kV := _) (doc := _) (pm := _) (an := _) (cdv := _) (ct := _) rfl (by kernel_rfl) (fun s => BindsTo.of_eq rfl) (locs rfl) rfl rfl rfl (by decide) ?_
  intro dp un gd L outer A₀ base g Λ s E B F X N T hC tab hpre hd hu
  replace X : (Mine.hd.heap_39 w.params).In g := X
  replace T : Top p loose mean mg mb g := T
  k_steps
  all_goals (refine Lv.intro (by k_asm) (by k_asm) (tab.sub fun _ h => List.mem_cons_of_mem _ h) (Step.cons (by assumption)) ?_)
  all_goals unfold movedF
  · rw [if_pos (by assumption), if_pos (by assumption)]; exact ⟨_, rfl⟩
  · rw [if_pos (by assumption), if_neg (nt (by assumption))]; exact ⟨_, rfl⟩
  · rw [if_neg (nt (by assumption)), if_pos (by assumption), if_pos (by assumption)]; exact ⟨_, rfl⟩
  · rw [if_neg (nt (by assumption)), if_pos (by assumption), if_neg (nt (by assumption))]; exact ⟨_, rfl⟩
  · rw [if_neg (nt (by assumption)), if_neg (by assumption), if_pos (by assumption)]; exact ⟨_, rfl⟩
  · rw [if_neg (nt (by assumption)), if_neg (by assumption), if_neg (by assumption)]; exact ⟨_, rfl⟩
end Mine
namespace Mine
open PySem PySem.Calls PySem.W PyProof.Rows PySem.Flt PySem.Builtin PySem.Builtin.ObjectAttr
theorem offPR1 : True := by w_top off; trivial
theorem fill6 : PySem.Challenge.rw_ph0008_01.prog = PySem.Challenge.rw_ph0008_01.prog ∧ Mine.hd.heap_39 = Mine.hd.heap_39 := by k_fill; exact ⟨rfl, rfl⟩
theorem stepN {h₀ h : Heap} {L : Addr} {Λ : Ldg} {x : Addr × Obj} (_ : News h₀ L h (x :: Λ)) (l : ∀ q ∈ Λ, q.1 < x.1) : Step Λ (x :: Λ) := Step.cons l
abbrev Quad := Int × Int × Int × Int
def prodStep (c : Str) (z : Quad) : Quad :=
  if (c == Str.ofString "a") = true then (z.1, z.1 + z.2.1, z.2.2.1, z.2.2.1 + z.2.2.2)
  else if (c == Str.ofString "b") = true then (z.1 - z.2.1, z.2.1, z.2.2.1 - z.2.2.2, z.2.2.2)
  else (- z.2.1, z.1, - z.2.2.2, z.2.2.1)
def prodTo (x : Str) : Nat → Quad
  | 0 => (1, 0, 0, 1)
  | i + 1 => prodStep ⟨#[x.cps[i]!]⟩ (prodTo x i)
theorem prodTo_succ {x : Str} {i c : Nat} (hc : x.cps[i]? = some c) : prodTo x (i + 1) = prodStep ⟨#[c]⟩ (prodTo x i) := by
  show prodStep ⟨#[x.cps[i]!]⟩ _ = _
  rw [getElem!_def, hc]
def IsQuad (Λ : Ldg) (v : Value) (z : Quad) : Prop := ∃ T t1 t2 t3 t4, v = .ref T ∧ (T, tupObj [.int z.1 t1, .int z.2.1 t2, .int z.2.2.1 t3, .int z.2.2.2 t4]) ∈ Λ
theorem law_product (w p loose mean mg mb) (x : Str) (tx : Tok) (hx : x.length ≤ 8) (ha : x.cps.all (· < 128) = true) :
    Con (G1 w p loose mean mg mb) 9 40 77 [.str x tx] (fun _ => True) (fun _ v Λ' => IsQuad Λ' v (prodTo x x.cps.size)) := by
  refine Con.ofDef (d := 8) (u := 37) (oc := _) (od := _) (osl := _) (binds := [("word", .str x tx)]) (name := _) (qual := _) (params := _) (body := _) (scope := _) (dV := _) (kV := _) (doc := _) (pm := _) (an := _) (cdv := _) (ct := _) rfl (by kernel_rfl) (fun s => BindsTo.of_eq rfl) (locs rfl) rfl rfl rfl (by decide) ?_
  intro dp un gd L outer A₀ base g Λ s E B F X N T hC tab hpre hd hu
  replace X : (Mine.hd.heap_39 w.params).In g := X
  replace T : Top p loose mean mg mb g := T
  refine execs_take 1 ?_
  dsimp only [List.take, List.drop]
  k_steps
  rename Fr _ _ _ _ => F1; rename News _ _ _ _ => N1
  have S1 := stepN N1 (by assumption)
  show Hold _
  refine hold_out ?_
  refine execs_take 1 ?_
  dsimp only [List.take, List.drop]
  refine wpAny_execs_cons ?_
  refine wpAny_For ?_
  k_steps
  refine iter_str (fun f s' h => h) rfl F1 N1 (tab.sub fun _ h => .tail _ h) ha (fun _ _ => go_name) (fun i m Λ' => ∃ t1 t2 t3 t4, m "p" = some (.int (prodTo x i).1 t1) ∧ m "q" = some (.int (prodTo x i).2.1 t2) ∧ m "r" = some (.int (prodTo x i).2.2.1 t3) ∧ m "s" = some (.int (prodTo x i).2.2.2 t4)) (fun _ _ _ _ _ h => h) ⟨_, _, _, _, rfl, rfl, rfl, rfl⟩ ?_ ?_
  · rintro i v m₁ Λ₁ s₁ E' ⟨h1, tk1, rfl⟩ hi hv ⟨t1, t2, t3, t4, e1, e2, e3, e4⟩ hT hsub F2 N2
    replace F2 := fr_says [("p", .int (prodTo x i).1 t1), ("q", .int (prodTo x i).2.1 t2), ("r", .int (prodTo x i).2.2.1 t3), ("s", .int (prodTo x i).2.2.2 t4)] F2 (by simp [e1, e2, e3, e4])
    obtain ⟨c, t, hc, rfl⟩ := hv
    have hp := prodTo_succ hc
    k_steps
    · refine TurnEnd.next (by k_asm) (by k_asm) (hT.sub fun _ h => List.mem_cons_of_mem _ h) (Step.cons (by assumption)) ?_
      rw [hp, prodStep, if_pos (by assumption)]
      exact ⟨_, _, _, _, rfl, rfl, rfl, rfl⟩
    · refine TurnEnd.next (by k_asm) (by k_asm) (hT.sub fun _ h => List.mem_cons_of_mem _ h) (Step.cons (by assumption)) ?_
      rw [hp, prodStep, if_neg (nt (by assumption)), if_pos (by assumption)]
      exact ⟨_, _, _, _, rfl, rfl, rfl, rfl⟩
    · refine TurnEnd.next (by k_asm) (by k_asm) (hT.sub fun _ h => List.mem_cons_of_mem _ h) (Step.cons (by assumption)) ?_
      rw [hp, prodStep, if_neg (nt (by assumption)), if_neg (nt (by assumption))]
      exact ⟨_, _, _, _, rfl, rfl, rfl, rfl⟩
  · intro m' Λ' h' tk F2 N2 T2 S2 ⟨t1, t2, t3, t4, e1, e2, e3, e4⟩
    replace F2 := fr_says [("p", .int (prodTo x x.cps.size).1 t1), ("q", .int (prodTo x x.cps.size).2.1 t2), ("r", .int (prodTo x x.cps.size).2.2.1 t3), ("s", .int (prodTo x x.cps.size).2.2.2 t4)] F2 (by simp [e1, e2, e3, e4])
    refine wpAny_execs_nil ?_
    show Hold _
    refine hold_out ?_
    k_steps
    exact Lv.intro (by k_asm) (by k_asm) (T2.sub fun _ h => List.mem_cons_of_mem _ h) (S1.trans (S2.trans (Step.cons (by assumption)))) ⟨_, _, _, _, _, rfl, .head _⟩
end Mine
namespace Mine
open PySem PySem.Calls PySem.W PyProof.Rows PySem.Flt PySem.Builtin PySem.Builtin.ObjectAttr
theorem offHM1 : True := by w_top off; trivial
theorem fill7 : PySem.Challenge.rw_ph0008_01.prog = PySem.Challenge.rw_ph0008_01.prog ∧ Mine.hd.heap_39 = Mine.hd.heap_39 := by k_fill; exact ⟨rfl, rfl⟩
local macro_rules | `(tactic| walk_at "call ref") => `(tactic| refine hold_in ?_)
def ps4 : List (Str × Str) := [(Str.ofString "aba", Str.ofString "D"), (Str.ofString "bab", Str.ofString "D"), (Str.ofString "aD", Str.ofString "Db"), (Str.ofString "bD", Str.ofString "Da")]
/-- the flat list of the four pairs -/
def IsFlat (Λ : Ldg) (l : Addr) : Prop := ∃ t1 t2 t3 t4 t5 t6 t7 t8 ep, (l, listObj [.str (Str.ofString "aba") t1, .str (Str.ofString "D") t2, .str (Str.ofString "bab") t3, .str (Str.ofString "D") t4, .str (Str.ofString "aD") t5, .str (Str.ofString "Db") t6, .str (Str.ofString "bD") t7, .str (Str.ofString "Da") t8] ep) ∈ Λ
def homeGo : Nat → Str → Str
  | 0, x => x
  | k + 1, x => if (ps4.foldl repl1 x == x) = true then x else homeGo k (ps4.foldl repl1 x)
def HomeOk : Nat → Str → Prop
  | 0, _ => True
  | k + 1, x => x.length ≤ 8 ∧ RepOk x ps4 ∧ (¬ (ps4.foldl repl1 x == x) = true → HomeOk k (ps4.foldl repl1 x))
theorem IsFlat.mono {Λ Λ' : Ldg} {l : Addr} (x : IsFlat Λ l) (hs : Sub Λ Λ') : IsFlat Λ' l := by
  obtain ⟨t1, t2, t3, t4, t5, t6, t7, t8, ep, h⟩ := x
  exact ⟨t1, t2, t3, t4, t5, t6, t7, t8, ep, hs _ h (.of_cls (by nofun))⟩
theorem IsFlat.nmono {Λ Λ' : Ldg} {l : Addr} (x : IsFlat Λ l) (hs : NSub Λ Λ') : IsFlat Λ' l := by
  obtain ⟨t1, t2, t3, t4, t5, t6, t7, t8, ep, h⟩ := x
  exact ⟨t1, t2, t3, t4, t5, t6, t7, t8, ep, hs _ h (.of_data (by nofun))⟩
theorem law_home (w p loose mean mg mb) (x : Str) (tx : Tok) (fl : Addr) (hx : x.length ≤ 8) (hok : HomeOk (2 * x.length) x) :
    Con (G1 w p loose mean mg mb) 19 80 70 [.str x tx, .ref fl] (fun Λ => IsFlat Λ fl) (fun _ v _ => ∃ t, v = .str (homeGo (2 * x.length) x) t) := by
  refine Con.ofDef (d := 18) (u := 77) (oc := _) (od := _) (osl := _) (binds := [("word", .str x tx), ("flat", .ref fl)]) (name := _) (qual := _) (params := _) (body := _) (scope := _) (dV := _) (kV := _) (doc := _) (pm := _) (an := _) (cdv := _) (ct := _) rfl (by kernel_rfl) (fun s => BindsTo.of_eq rfl) (locs rfl) rfl rfl rfl (by decide) ?_
  intro dp un gd L outer A₀ base g Λ s E B F X N T hC tab hpre hd hu
  replace X : (Mine.hd.heap_39 w.params).In g := X
  replace T : Top p loose mean mg mb g := T
  refine execs_take 1 ?_
  dsimp only [List.take, List.drop]
  refine wpAny_execs_cons ?_
  refine wpAny_For ?_
  k_steps
  rename Fr _ _ _ _ => F1; rename News _ _ _ _ => N1
  rename IsRange _ _ _ _ _ _ _ _ => hr
  rw [show (2 * (x.length : Int)) = ((2 * x.length : Nat) : Int) by omega] at hr
  refine iter_range (fun f s' h => h) rfl F1 N1 tab hr (by omega) (fun _ _ => go_name) (fun i m Λ' => ∃ cur tc, m "word" = some (.str cur tc) ∧ m "flat" = some (.ref fl) ∧ IsFlat Λ' fl ∧ HomeOk (2 * x.length - i) cur ∧ homeGo (2 * x.length - i) cur = homeGo (2 * x.length) x) ?_ ⟨_, _, rfl, rfl, hpre, hok, rfl⟩ ?_ ?_
  · rintro i m Λ Λ' hs ⟨cur, tc, a, b, c, d⟩
    exact ⟨cur, tc, a, b, c.nmono hs, d⟩
  · rintro i v m₁ Λ₁ s₁ E' ⟨h1, tk1, rfl⟩ hi ⟨tv, rfl⟩ ⟨cur, tc, e1, e2, e3, e4, e5⟩ hT hsub F2 N2
    replace F2 := fr_says [("word", .str cur tc), ("flat", .ref fl)] F2 (by simp [e1, e2])
    obtain ⟨k, hk⟩ : ∃ k, 2 * x.length - i = k + 1 := ⟨2 * x.length - i - 1, by omega⟩
    have hk' : 2 * x.length - (i + 1) = k := by omega
    rw [hk] at e4 e5
    obtain ⟨l0, l1, l2⟩ := e4
    have e3' := e3
    obtain ⟨t1, t2, t3, t4, t5, t6, t7, t8, ep, hfl⟩ := e3'
    k_steps
    rename Fr _ _ _ _ => F3; rename News _ _ _ _ => N3
    refine hold_out ?_
    refine (law_replace w p loose mean mg mb cur tc).2 _ _ _ _ _ _ _ _ _ _ _ _ _ _ _ _ l1 _ _ _ _ _ _ _ _ _ _ ⟨⟨gd, _, _, _, _, _, outer, A₀, base, rfl, B, rfl, hC⟩, F3, X, N3, T, hT⟩ trivial (by omega) (by omega) ?_
    rintro v4 Λ4 h4 tk4 c4 S4 ⟨t9, rfl⟩
    have F4 := c4.F
    have N4 := c4.N
    have tab4 := c4.tab
    clear c4 F3 N3
    k_steps
    · rename (_ = true) => hb
      refine wpAny_execs_nil ?_
      show Hold _
      refine hold_out ?_
      k_steps
      refine Lv.intro (by k_asm) (by k_asm) tab4 (hsub.trans S4) ?_
      refine ⟨tc, ?_⟩
      rw [← e5, homeGo, if_pos (show (ps4.foldl repl1 cur == cur) = true from hb)]
      rfl
    · rename (_ = false) => hb
      replace hb := nt hb
      refine TurnEnd.next (by k_asm) (by k_asm) tab4 S4 ?_
      refine ⟨_, _, rfl, rfl, e3.mono S4.sub, ?_, ?_⟩
      · rw [hk']; exact l2 hb
      · rw [hk', ← e5, homeGo, if_neg (show ¬ (ps4.foldl repl1 cur == cur) = true from hb)]
        rfl
  · intro m' Λ' h' tk F2 N2 T2 S2 ⟨cur, tc, e1, e2, e3, e4, e5⟩
    replace F2 := fr_says [("word", .str cur tc)] F2 (by simp [e1])
    rw [Nat.sub_self] at e5
    refine wpAny_execs_nil ?_
    show Hold _
    refine hold_out ?_
    k_steps
    exact Lv.intro (by k_asm) (by k_asm) T2 S2 ⟨tc, by rw [← e5]; rfl⟩
end Mine
namespace Mine
open PySem PySem.Calls PySem.W PyProof.Rows PySem.Flt PySem.Builtin PySem.Builtin.ObjectAttr
theorem offFF1 : True := by w_top off; trivial
theorem fill8 : PySem.Challenge.rw_ph0008_01.prog = PySem.Challenge.rw_ph0008_01.prog ∧ Mine.hd.heap_39 = Mine.hd.heap_39 := by k_fill; exact ⟨rfl, rfl⟩
theorem find3_bounds {x y : Str} {s : Int} (hs : 0 ≤ s) (h : 0 ≤ Txt.find3 x y s) : s ≤ Txt.find3 x y s ∧ Txt.find3 x y s + y.length ≤ x.length := by
  unfold Txt.find3 at h ⊢
  have e : fromIndex x.length s = s.toNat := by unfold fromIndex; rw [if_neg (by omega)]; omega
  rw [e] at h ⊢
  rcases StrLaws.occ_head_from x y s.toNat 1 (Nat.le_refl 1) with ⟨h0, _⟩ | ⟨i, r, h0, h1, h2, h3⟩
  · rw [h0] at h; exact absurd h (by decide)
  · rw [h0]
    dsimp only
    have := h2.1
    omega
theorem nextOf_goes {x : Str} {ps : List (Str × Str)} (h : ∀ q ∈ ps, 0 < q.1.length) : Goes (fun j => nextOf x j ps) x.length := by
  intro s i j g hs
  have key : ∀ (ps : List (Str × Str)) (b : Option (Int × Int × Str)), (∀ q ∈ ps, 0 < q.1.length) → (∀ i j g, b = some (i, j, g) → s ≤ i ∧ i < j ∧ j ≤ x.length) → ∀ i j g, ps.foldl (nextStep x s) b = some (i, j, g) → s ≤ i ∧ i < j ∧ j ≤ x.length := by
    intro ps
    induction ps with
    | nil => intro b _ hb; exact hb
    | cons q r ih =>
      intro b hq hb
      refine ih _ (fun q' h' => hq q' (.tail _ h')) ?_
      intro i j g e
      unfold nextStep at e
      split at e
      · rename_i hc
        cases e
        have := find3_bounds hs hc.1
        have := hq q (.head _)
        omega
      · exact hb i j g e
  exact key ps none h (fun _ _ _ e => by cases e) i j g
local macro_rules | `(tactic| walk_at "getMethod ref") => `(tactic| refine hold_in ?_)
local macro_rules | `(tactic| walk_at "getAttr ref") => `(tactic| refine hold_in ?_)
local macro_rules | `(tactic| walk_at "call ref") => `(tactic| refine hold_in ?_)
local macro_rules | `(tactic| walk_at "truthy ref") => `(tactic| refine hold_in ?_)
abbrev lastOf (x : Str) (ps : List (Str × Str)) (col : Int) : Option (Int × Int × Str) := revGo (fun j => nextOf x j ps) col (x.length + 1) 0 none
def ffGo (ps : List (Str × Str)) : Nat → Str → Str
  | 0, x => x
  | k + 1, x => match lastOf x ps x.length with
    | none => x
    | some (i, j, g) => ffGo ps k (Txt.slice x none (some i) ++ g ++ Txt.slice x (some j) none)
def FFOk (ps : List (Str × Str)) : Nat → Str → Prop
  | 0, _ => True
  | k + 1, x => x.length ≤ 8 ∧ match lastOf x ps x.length with
    | none => True
    | some (i, j, g) => g.length ≤ 8 ∧ FFOk ps k (Txt.slice x none (some i) ++ g ++ Txt.slice x (some j) none)
theorem law_find_by_find (w p loose mean mg mb) (x : Str) (tx : Tok) (l : Addr) (ps : List (Str × Str)) (hpl : ∀ q ∈ ps, 0 < q.1.length ∧ q.1.length ≤ 100) (hx : x.length ≤ 8) (hok : FFOk ps (2 * x.length) x) :
    Con (G1 w p loose mean mg mb) 40 180 63 [.str x tx, .ref l] (fun Λ => IsPairs Λ l ps) (fun _ v _ => ∃ t, v = .str (ffGo ps (2 * x.length) x) t) := by
  refine Con.ofDef (d := 39) (u := 177) (oc := _) (od := _) (osl := _) (binds := [("word", .str x tx), ("pairs", .ref l)]) (name := _) (qual := _) (params := _) (body := _) (scope := _) (dV := _) (kV := _) (doc := _) (pm := _) (an := _) (cdv := _) (ct := _) rfl (by kernel_rfl) (fun s => BindsTo.of_eq rfl) (locs rfl) rfl rfl rfl (by decide) ?_
  intro dp un gd L outer A₀ base g Λ s E B F X N T hC tab hpre hd hu
  replace X : (Mine.hd.heap_39 w.params).In g := X
  replace T : Top p loose mean mg mb g := T
  refine execs_take 1 ?_
  dsimp only [List.take, List.drop]
  k_steps
  refine hold_out ?_
  refine law_program w p loose mean mg mb l ps (fun q hq => (hpl q hq).2) _ _ _ _ _ _ _ _ _ _ ⟨⟨gd, _, _, _, _, _, outer, A₀, base, rfl, B, rfl, hC⟩, by k_asm, X, by k_asm, T, tab⟩ hpre (by omega) (by omega) ?_
  rintro v0 Λ0 h0 tk0 c0 S0 ⟨pg, rfl, hpg⟩
  have F0 := c0.F
  have N0 := c0.N
  have tab0 := c0.tab
  clear c0 F N
  k_steps
  show Hold _
  refine hold_out ?_
  refine execs_take 1 ?_
  dsimp only [List.take, List.drop]
  refine wpAny_execs_cons ?_
  refine wpAny_For ?_
  k_steps
  rename Fr _ _ _ _ => F1; rename News _ _ _ _ => N1
  rename IsRange _ _ _ _ _ _ _ _ => hr
  rw [show (2 * (x.length : Int)) = ((2 * x.length : Nat) : Int) by omega] at hr
  refine iter_range (fun f s' h => h) rfl F1 N1 tab0 hr (by omega) (fun _ _ => go_name) (fun i m Λ' => ∃ cur tc, m "word" = some (.str cur tc) ∧ m "program" = some (.ref pg) ∧ FFOk ps (2 * x.length - i) cur ∧ ffGo ps (2 * x.length - i) cur = ffGo ps (2 * x.length) x) (fun _ _ _ _ _ h => h) ⟨_, _, rfl, rfl, hok, rfl⟩ ?_ ?_
  · rintro i v m₁ Λ₁ s₁ E' ⟨h1, tk1, rfl⟩ hi ⟨tv, rfl⟩ ⟨cur, tc, e1, e2, e4, e5⟩ hT hsub F2 N2
    replace F2 := fr_says [("word", .str cur tc), ("program", .ref pg)] F2 (by simp [e1, e2])
    obtain ⟨k, hk⟩ : ∃ k, 2 * x.length - i = k + 1 := ⟨2 * x.length - i - 1, by omega⟩
    have hk' : 2 * x.length - (i + 1) = k := by omega
    rw [hk] at e4 e5
    obtain ⟨l0, l1⟩ := e4
    rw [ffGo] at e5
    have hpg' := (hpg cur).mono hsub.sub
    k_steps
    rename Fr _ _ _ _ => F3; rename News _ _ _ _ => N3
    refine hold_out ?_
    refine search_reverse1 w p loose mean mg mb "given" _ _ cur.length (nextOf_goes fun q hq => (hpl q hq).1) (by omega) pg cur _ _ _ _ _ _ _ _ _ _ _ _ _ ⟨⟨gd, _, _, _, _, _, outer, A₀, base, rfl, B, rfl, hC⟩, F3, X, N3, T, hT⟩ hpg' (by omega) (by omega) ?_
    rintro v4 Λ4 h4 tk4 c4 S4 P4
    have F4 := c4.F
    have N4 := c4.N
    have tab4 := c4.tab
    clear c4 F3 N3
    replace P4 : Found _ _ _ _ _ (lastOf cur ps cur.length) := P4
    cases hr4 : lastOf cur ps cur.length with
    | none =>
      rw [hr4] at P4 e5
      cases P4
      k_steps
      refine wpAny_execs_nil ?_
      show Hold _
      refine hold_out ?_
      k_steps
      refine Lv.intro (by k_asm) (by k_asm) tab4 (S0.trans (hsub.trans S4)) ?_
      refine ⟨tc, ?_⟩
      rw [← e5]
      rfl
    | some r =>
      obtain ⟨i2, j2, g2⟩ := r
      rw [hr4] at P4 e5 l1
      dsimp only at e5 l1
      obtain ⟨a, Da, fda, esa, na, sp, gv, fds, rfl, q1, q2, q3, q4, q5, ⟨tg, rfl⟩, q7, q8, q9⟩ := id P4
      k_steps
      refine hold_out ?_
      rename Fr _ _ _ _ => F9; rename News _ _ _ _ => N9
      refine fn_truthy (N9 _ q1).1 ?_
      k_steps
      refine hold_out ?_
      rename Fr _ _ _ _ => Fa; rename News _ _ _ _ => Na
      refine getMethod_led Na q1 q2 q3 q4 lk_function_span rfl ?_
      dsimp only
      refine callWith_F0 ⟨_, _, _, _, (Na _ q8).1⟩ ?_
      dsimp only [List.nil_append]
      refine q9 _ _ _ _ _ _ _ _ _ _ ⟨⟨gd, _, _, _, _, _, outer, A₀, base, rfl, B, rfl, hC⟩, Fa, X, Na, T, tab4⟩ .refl (by omega) (by omega) ?_
      rintro v5 Λb hb tkb cb Sb ⟨T4, ti4, tj4, rfl, hT4⟩
      have Fb := cb.F
      have Nb := cb.N
      have tabb := cb.tab
      clear cb Fa Na
      have p1 := Sb.keep _ q1 (.of_cls (by nofun))
      have p2 := Sb.keep _ q2 (.of_cls (by nofun))
      k_steps
      refine hold_out ?_
      rename Fr _ _ _ _ => Fc; rename News _ _ _ _ => Nc
      refine getAttr_led Nc p1 p2 q3 q5 lk_function_given q7 ?_
      have lg := l1.1
      k_steps
      refine TurnEnd.next (by k_asm) (by k_asm) tabb (S4.trans Sb) ?_
      refine ⟨_, _, rfl, rfl, ?_, ?_⟩
      · rw [hk']; exact l1.2
      · rw [hk']; exact e5
  · intro m' Λ' h' tk F2 N2 T2 S2 ⟨cur, tc, e1, e2, e4, e5⟩
    replace F2 := fr_says [("word", .str cur tc)] F2 (by simp [e1])
    rw [Nat.sub_self] at e5
    refine wpAny_execs_nil ?_
    show Hold _
    refine hold_out ?_
    k_steps
    exact Lv.intro (by k_asm) (by k_asm) T2 (S0.trans S2) ⟨tc, by rw [← e5]; rfl⟩
end Mine
namespace Mine
open PySem PySem.Calls PySem.W PyProof.Rows PySem.Flt PySem.Builtin PySem.Builtin.ObjectAttr
abbrev tl (x : Str) : List Nat := x.cps.toList
theorem str_ext {a b : Str} (h : tl a = tl b) : a = b := Str.ext' (Array.toList_inj.mp h)
theorem tl_append (a b : Str) : tl (a ++ b) = tl a ++ tl b := by simp [tl, Str.cps_append]
theorem tl_len (a : Str) : (tl a).length = a.length := by simp [Str.length]
theorem tl_mk (l : List Nat) : tl ⟨l.toArray⟩ = l := rfl
theorem slice_mid (x : Str) {a b : Nat} (hab : a ≤ b) (hb : b ≤ x.length) : tl (Txt.slice x (some (a : Int)) (some (b : Int))) = ((tl x).drop a).take (b - a) := by
  show tl (StrLaws.sliceText x _ _) = _
  rw [StrLaws.sliceText_nat x hab hb]
theorem slice_to (x : Str) {b : Nat} (hb : b ≤ x.length) : tl (Txt.slice x none (some (b : Int))) = (tl x).take b := by
  show tl (StrLaws.sliceText x _ _) = _
  rw [StrLaws.sliceText_to ⟨by omega, by rw [← tl_len] at hb; exact_mod_cast hb⟩]
  simp
theorem slice_from (x : Str) {a : Nat} (ha : a ≤ x.length) : tl (Txt.slice x (some (a : Int)) none) = (tl x).drop a := by
  show tl (StrLaws.sliceText x _ _) = _
  rw [StrLaws.sliceText_from ⟨by omega, by rw [← tl_len] at ha; exact_mod_cast ha⟩]
  rw [tl_mk, List.take_of_length_le]
  · simp
  · simp only [List.length_drop]; omega
/-- where a piece stands -/
abbrev Occ (x y : Str) (k : Nat) : Prop := StrLaws.At x y x.length k
theorem occ_iff {x y : Str} (hy : 1 ≤ y.length) (k : Nat) : Occ x y k ↔ (tl y).isPrefixOf ((tl x).drop k) = true := by
  rw [List.isPrefixOf_iff_prefix, List.prefix_iff_eq_take, tl_len]
  constructor
  · rintro ⟨h1, h2⟩
    rw [StrLaws.subAt_eq] at h2
    exact (eq_of_beq h2).symm
  · intro h
    refine ⟨?_, ?_⟩
    · have := congrArg List.length h
      simp only [List.length_take, List.length_drop, tl_len] at this
      omega
    · rw [StrLaws.subAt_eq, ← h]; simp
abbrev ChainG := StrLaws.ChainG
abbrev cutsOf (x y : Str) : List Nat := Str.occurrences x y 0 x.length (x.length + 1)
theorem chain_app {x y : Str} {hi : Nat} : ∀ {p q : List Nat} {a f : Nat}, ChainG x y hi a (p ++ q) f → ∃ m, ChainG x y hi a p m ∧ ChainG x y hi m q f
  | [], _, a, _, h => ⟨a, rfl, h⟩
  | c :: p, q, a, f, h => by
    obtain ⟨h1, h2, h3, h4⟩ := h
    obtain ⟨m, h5, h6⟩ := chain_app (p := p) h4
    exact ⟨m, ⟨h1, h2, h3, h5⟩, h6⟩
theorem chain_le {x y : Str} {hi : Nat} : ∀ {p : List Nat} {a f : Nat}, ChainG x y hi a p f → a ≤ f ∧ ∀ c ∈ p, a ≤ c ∧ c + y.length ≤ f ∧ c + y.length ≤ hi
  | [], a, f, h => ⟨by have : f = a := h; omega, fun _ h => nomatch h⟩
  | c :: p, a, f, h => by
    obtain ⟨h1, h2, h3, h4⟩ := h
    obtain ⟨h5, h6⟩ := chain_le h4
    have := h2.1
    refine ⟨by omega, fun c' hc => ?_⟩
    rcases List.mem_cons.mp hc with rfl | hc
    · exact ⟨h1, h5, this⟩
    · have := h6 c' hc; omega
/-- the text put together anew -/
def glueTo (X Z : List Nat) (w : Nat) : Nat → List Nat → Nat → List Nat
  | a, [], e => (X.drop a).take (e - a)
  | a, c :: r, e => (X.drop a).take (c - a) ++ Z ++ glueTo X Z w (c + w) r e
theorem glueTo_snoc (X Z : List Nat) (w : Nat) : ∀ (r : List Nat) (a c e : Nat), glueTo X Z w a (r ++ [c]) e = glueTo X Z w a r c ++ (Z ++ (X.drop (c + w)).take (e - (c + w)))
  | [], a, c, e => by simp [glueTo]
  | b :: r, a, c, e => by
    show _ ++ Z ++ glueTo X Z w (b + w) (r ++ [c]) e = _ ++ Z ++ glueTo X Z w (b + w) r c ++ _
    rw [glueTo_snoc X Z w r]
    simp only [List.append_assoc]
theorem strSub_tl (x : Str) (i j : Nat) : tl (Str.strSub x i j) = ((tl x).drop i).take (j - i) := StrLaws.strSub_toList x i j
theorem join_parts (x z : Str) (w : Nat) : ∀ (cuts : List Nat) (a : Nat), tl (Str.join z (StrLaws.partsFrom x w a cuts)) = glueTo (tl x) (tl z) w a cuts x.length
  | [], a => by
    show tl (Str.strSub x a x.length) = _
    rw [strSub_tl]; rfl
  | c :: r, a => by
    obtain ⟨p, q, e⟩ := StrLaws.partsFrom_ne x w (c + w) r
    have ih := join_parts x z w r (c + w)
    show tl (Str.join z (Str.strSub x a c :: StrLaws.partsFrom x w (c + w) r)) = _
    rw [e] at ih ⊢
    show tl (Str.strSub x a c ++ z ++ Str.join z (p :: q)) = _
    rw [tl_append, tl_append, ih, strSub_tl]
    rfl
theorem strs_inj : ∀ {a b : List Str}, a.map WData.str = b.map WData.str → a = b
  | [], [], _ => rfl
  | x :: a, y :: b, h => by
    simp only [List.map_cons, List.cons.injEq] at h
    obtain ⟨h1, h2⟩ := h
    cases h1
    rw [strs_inj h2]
theorem split_eq (x y : Str) (hy : 1 ≤ y.length) : Txt.split x y = Str.partsBetween x (cutsOf x y) y.length := by
  have hy' : (y.length == 0) = false := by simp; omega
  have h := m_split x y hy'
  have e : GW2.means .split (.str x) (.str y) = (if (y.length == 0) = true then Option.none else some (WData.list ((Str.partsBetween x (cutsOf x y) y.length).map .str))) := rfl
  rw [e, if_neg (by rw [hy']; nofun)] at h
  exact (strs_inj (WData.list.inj (Option.some.inj h))).symm
theorem repl_tl (x y z : Str) (hy : 1 ≤ y.length) : tl (Txt.join z (Txt.split x y)) = glueTo (tl x) (tl z) y.length 0 (cutsOf x y) x.length := by
  show tl (Str.glued z (Txt.split x y)) = _
  rw [StrLaws.glued_eq_join, split_eq x y hy, StrLaws.partsBetween_eq, join_parts]
/-- a search goes from find to find -/
def NxOk {γ : Type} (x y : Str) (nx : Int → Option (Int × Int × γ)) : Prop :=
  ∀ a : Nat, a ≤ x.length → (nx a = none ∧ ∀ k, a ≤ k → ¬ Occ x y k) ∨ ∃ c g, a ≤ c ∧ Occ x y c ∧ (∀ k, a ≤ k → k < c → ¬ Occ x y k) ∧ nx a = some ((c : Int), (c : Int) + (y.length : Int), g)
section
variable {γ : Type} {x y : Str} {nx : Int → Option (Int × Int × γ)}
theorem nx_head (H : NxOk x y nx) {a c f : Nat} {r : List Nat} (ha : a ≤ x.length) (h : ChainG x y x.length a (c :: r) f) : ∃ g, nx a = some ((c : Int), (c : Int) + (y.length : Int), g) := by
  obtain ⟨h1, h2, h3, h4⟩ := h
  rcases H a ha with ⟨e, k⟩ | ⟨c', g, k1, k2, k3, k4⟩
  · exact absurd h2 (k c h1)
  · have : c' = c := by
      rcases Nat.lt_trichotomy c' c with l | l | l
      · exact absurd k2 (h3 c' k1 l)
      · exact l
      · exact absurd h2 (k3 c h1 l)
    subst this
    exact ⟨g, k4⟩
theorem revGo_chain (H : NxOk x y nx) (hw : 1 ≤ y.length) (col : Int) {post : List Nat} {f : Nat} (ht : ∀ k, f ≤ k → ¬ Occ x y k) (hp : ∀ c, post.head? = some c → ¬ ((c : Int) < col ∧ (c : Int) + (y.length : Int) ≤ col)) :
    ∀ (pre : List Nat) (k a : Nat) (fd : Option (Int × Int × γ)), ChainG x y x.length a (pre ++ post) f → a ≤ x.length → x.length < a + k → (∀ c ∈ pre, (c : Int) < col ∧ (c : Int) + (y.length : Int) ≤ col) →
      (pre = [] → revGo nx col k a fd = fd) ∧ (∀ (p : List Nat) (c : Nat), pre = p ++ [c] → ∃ g, revGo nx col k a fd = some ((c : Int), (c : Int) + (y.length : Int), g))
  | [], k, a, fd, h, ha, hk, _ => by
    refine ⟨fun _ => ?_, fun p c e => by simp at e⟩
    cases k with
    | zero => rfl
    | succ k =>
      rw [revGo]
      rw [List.nil_append] at h
      cases post with
      | nil =>
        have hf : f = a := h
        rcases H a ha with ⟨e, _⟩ | ⟨c', g, k1, k2, k3, k4⟩
        · rw [e]
        · exact absurd k2 (ht c' (by omega))
      | cons c r =>
        obtain ⟨g, e⟩ := nx_head H ha h
        rw [e]
        exact if_neg (hp c rfl)
  | c :: p, k, a, fd, h, ha, hk, hc => by
    refine ⟨(fun e => (by cases e)), fun p' c' e => ?_⟩
    have h' : ChainG x y x.length a (c :: (p ++ post)) f := h
    obtain ⟨g, en⟩ := nx_head H ha h'
    obtain ⟨h1, h2, h3, h4⟩ := h'
    have hb := h2.1
    cases k with
    | zero => omega
    | succ k =>
      rw [revGo, en]
      dsimp only
      rw [if_pos (hc c (.head _))]
      have ih := revGo_chain H hw col ht hp p k (c + y.length) (some ((c : Int), (c : Int) + (y.length : Int), g)) h4 hb (by omega) (fun c hc' => hc c (.tail _ hc'))
      rw [show ((c : Int) + (y.length : Int)) = ((c + y.length : Nat) : Int) by omega]
      rw [show ((c : Int) + (y.length : Int)) = ((c + y.length : Nat) : Int) by omega] at ih
      cases p with
      | nil =>
        have : c' = c := by
          cases p' with
          | nil => simp at e; exact e.symm
          | cons b p' => simp at e
        subst this
        exact ⟨g, by rw [ih.1 rfl]; simp⟩
      | cons b q =>
        cases p' with
        | nil => simp at e
        | cons b' p' =>
          simp only [List.cons_append, List.cons.injEq] at e
          exact ih.2 p' c' e.2
/-- the pieces put together from the end -/
def pcGo (x z : Str) (nx : Int → Option (Int × Int × γ)) : Nat → Str → Int → Int → Str
  | 0, d, l, _ => Txt.slice x none (some l) ++ d
  | k + 1, d, l, c => match revGo nx c (x.length + 1) 0 none with
    | none => Txt.slice x none (some l) ++ d
    | some (i, j, _) => pcGo x z nx k (z ++ Txt.slice x (some j) (some l) ++ d) i (j - 1)
theorem pcGo_eq (z : Str) (H : NxOk x y nx) (hw : 1 ≤ y.length) : ∀ (n : Nat) (pre post : List Nat) (f k : Nat) (d : Str) (l : Nat) (col : Int), pre.length = n → n ≤ k → ChainG x y x.length 0 (pre ++ post) f → (∀ k, f ≤ k → ¬ Occ x y k) → l ≤ x.length →
    (∀ c ∈ pre, (c : Int) < col ∧ (c : Int) + (y.length : Int) ≤ col ∧ c + y.length ≤ l) → (∀ c, post.head? = some c → ¬ ((c : Int) < col ∧ (c : Int) + (y.length : Int) ≤ col)) →
    tl (pcGo x z nx k d l col) = glueTo (tl x) (tl z) y.length 0 pre l ++ tl d
  | 0, pre, post, f, k, d, l, col, e, hk, hC, ht, hl, hc, hp => by
    have : pre = [] := List.length_eq_zero_iff.mp e
    subst this
    have fin : tl (Txt.slice x none (some (l : Int)) ++ d) = glueTo (tl x) (tl z) y.length 0 [] l ++ tl d := by
      rw [tl_append, slice_to x hl]; simp [glueTo]
    cases k with
    | zero => exact fin
    | succ k =>
      rw [pcGo]
      have := (revGo_chain H hw col ht hp [] (x.length + 1) 0 none hC (Nat.zero_le _) (by omega) (fun _ h => nomatch h)).1 rfl
      rw [show ((0 : Nat) : Int) = 0 from rfl] at this
      rw [this]
      exact fin
  | n + 1, pre, post, f, k, d, l, col, e, hk, hC, ht, hl, hc, hp => by
    obtain ⟨p, c, rfl⟩ : ∃ p c, pre = p ++ [c] := by
      rcases List.eq_nil_or_concat pre with h | ⟨p, c, h⟩
      · rw [h] at e; cases e
      · exact ⟨p, c, by rw [h]; simp⟩
    cases k with
    | zero => omega
    | succ k =>
      rw [pcGo]
      obtain ⟨g, this⟩ := (revGo_chain H hw col ht hp (p ++ [c]) (x.length + 1) 0 none hC (Nat.zero_le _) (by omega) (fun c h => ⟨(hc c h).1, (hc c h).2.1⟩)).2 p c rfl
      rw [show ((0 : Nat) : Int) = 0 from rfl] at this
      rw [this]
      dsimp only
      have hcl := (hc c (by simp)).2.2
      rw [List.append_assoc] at hC
      obtain ⟨m, c1, c2⟩ := chain_app hC
      have c2' : ChainG x y x.length m (c :: post) f := c2
      have ih := pcGo_eq z H hw n p (c :: post) f k (z ++ Txt.slice x (some ((c : Int) + (y.length : Int))) (some (l : Int)) ++ d) c ((c : Int) + (y.length : Int) - 1) (by simpa using e) (by omega) hC ht (by omega)
        (fun c' h => by have := (chain_le c1).2 c' h; have := c2'.1; omega) (fun c' h => by cases h; omega)
      rw [ih, glueTo_snoc, tl_append, tl_append, show ((c : Int) + (y.length : Int)) = ((c + y.length : Nat) : Int) by omega, slice_mid x hcl hl]
      simp only [List.append_assoc]
theorem pieces_eq (z : Str) (H : NxOk x y nx) (hw : 1 ≤ y.length) : pcGo x z nx (x.length + 1) (Str.ofString "") x.length x.length = Txt.join z (Txt.split x y) := by
  apply str_ext
  obtain ⟨f, h1, h2⟩ := StrLaws.occ_tight x y hw
  have hl := StrLaws.occ_length_le x y 0 x.length (x.length + 1)
  have key := pcGo_eq z H hw (cutsOf x y).length (cutsOf x y) [] f (x.length + 1) (Str.ofString "") x.length x.length rfl hl (by rw [List.append_nil]; exact h1) h2 (Nat.le_refl _)
    (fun c h => by have := (chain_le h1).2 c h; omega) (fun c h => by cases h)
  rw [key, repl_tl x y z hw]
  simp [show tl (Str.ofString "") = [] from rfl]
end
theorem find3_spec (x y : Str) (a : Nat) (_ha : a ≤ x.length) : (Txt.find3 x y a = -1 ∧ ∀ k, a ≤ k → ¬ Occ x y k) ∨ ∃ c : Nat, Txt.find3 x y a = c ∧ a ≤ c ∧ Occ x y c ∧ ∀ k, a ≤ k → k < c → ¬ Occ x y k := by
  unfold Txt.find3
  have e : fromIndex x.length (a : Int) = a := by unfold fromIndex; rw [if_neg (by omega)]; omega
  rw [e]
  rcases StrLaws.occ_head_from x y a 1 (Nat.le_refl 1) with ⟨h0, h1⟩ | ⟨i, r, h0, h1, h2, h3⟩
  · rw [h0]; exact .inl ⟨rfl, h1⟩
  · rw [h0]; exact .inr ⟨i, rfl, h1, h2, h3⟩
end Mine
namespace Mine
open PySem PySem.Calls PySem.W PyProof.Rows PySem.Flt PySem.Builtin PySem.Builtin.ObjectAttr
theorem offPC1 : True := by w_top off; trivial
theorem fill9 : PySem.Challenge.rw_ph0008_01.prog = PySem.Challenge.rw_ph0008_01.prog ∧ Mine.hd.heap_39 = Mine.hd.heap_39 := by k_fill; exact ⟨rfl, rfl⟩
local macro_rules | `(tactic| walk_at "getMethod ref") => `(tactic| refine hold_in ?_)
local macro_rules | `(tactic| walk_at "getAttr ref") => `(tactic| refine hold_in ?_)
local macro_rules | `(tactic| walk_at "call ref") => `(tactic| refine hold_in ?_)
local macro_rules | `(tactic| walk_at "truthy ref") => `(tactic| refine hold_in ?_)
theorem step2 {h₀ h : Heap} {L : Addr} {Λ : Ldg} {x y : Addr × Obj} (_ : News h₀ L h (x :: y :: Λ)) (l : ∀ q ∈ Λ, q.1 < y.1) (l' : y.1 < x.1) : Step Λ (x :: y :: Λ) :=
  (Step.cons l).trans (Step.cons fun q hq => by
    rcases List.mem_cons.mp hq with rfl | hq
    · exact l'
    · exact Nat.lt_trans (l q hq) l')
theorem law_pieces (w p loose mean mg mb) (x y z : Str) (tx ty tz : Tok) (hy : 0 < y.length ∧ y.length ≤ 100) (hx : x.length ≤ 8) (hz : z.length ≤ 10) :
    Con (G1 w p loose mean mg mb) 40 180 56 [.str x tx, .str y ty, .str z tz] (fun _ => True) (fun _ v _ => ∃ t, v = .str (pcGo x z (fun j => nextOf x j [(y, z)]) (x.length + 1) (Str.ofString "") x.length x.length) t) := by
  refine Con.ofDef (d := 39) (u := 177) (oc := _) (od := _) (osl := _) (binds := [("line", .str x tx), ("sought", .str y ty), ("given", .str z tz)]) (name := _) (qual := _) (params := _) (body := _) (scope := _) (dV := _) (kV := _) (doc := _) (pm := _) (an := _) (cdv := _) (ct := _) rfl (by kernel_rfl) (fun s => BindsTo.of_eq rfl) (locs rfl) rfl rfl rfl (by decide) ?_
  intro dp un gd L outer A₀ base g Λ s E B F X N T hC tab hpre hd hu
  replace X : (Mine.hd.heap_39 w.params).In g := X
  replace T : Top p loose mean mg mb g := T
  refine execs_take 2 ?_
  dsimp only [List.take, List.drop]
  k_steps
  refine hold_out ?_
  rename Fr _ _ _ _ => F0; rename News _ _ _ _ => N0
  rename_i lt1 _ _ lt2
  have S0 := step2 N0 lt1 lt2.1
  refine law_program w p loose mean mg mb _ [(y, z)] (fun q hq => by rw [List.mem_singleton.mp hq]; exact hy.2) _ _ _ _ _ _ _ _ _ _ ⟨⟨gd, _, _, _, _, _, outer, A₀, base, rfl, B, rfl, hC⟩, F0, X, N0, T, tab.sub fun _ h => .tail _ (.tail _ h)⟩ ?_ (by omega) (by omega) ?_
  · refine ⟨_, 0, .head _, rfl, ?_⟩
    intro k q hq
    cases k with
    | succ k => cases hq
    | zero => cases hq; exact ⟨_, _, _, rfl, .tail _ (.head _)⟩
  rintro v1 Λ1 h1 tk1 c1 S1 ⟨pg, rfl, hpg⟩
  replace S1 := S0.trans S1
  have F1 := c1.F
  have N1 := c1.N
  have tab1 := c1.tab
  clear c1 F0 N0 S0
  k_steps
  show Hold _
  refine hold_out ?_
  rename Fr _ _ _ _ => F2; rename News _ _ _ _ => N2
  have S2 := S1.trans (stepN N2 (by assumption))
  have hpg2 := (hpg x).mono (stepN N2 (by assumption)).sub
  refine execs_take 1 ?_
  dsimp only [List.take, List.drop]
  refine wpAny_execs_cons ?_
  refine wpAny_For ?_
  k_steps
  rename Fr _ _ _ _ => F3; rename News _ _ _ _ => N3
  rename IsRange _ _ _ _ _ _ _ _ => hr
  rw [show ((x.length : Int) + 1) = ((x.length + 1 : Nat) : Int) by omega] at hr
  generalize hnx : (fun j => nextOf x j [(y, z)]) = nx at *
  have hgo : Goes nx x.length := hnx ▸ nextOf_goes fun q hq => by rw [List.mem_singleton.mp hq]; exact hy.1
  refine iter_range (fun f s' h => h) rfl F3 N3 (tab1.sub fun _ h => .tail _ h) hr (by omega) (fun _ _ => go_name) (fun i m Λ' => ∃ d td l tl c tc, m "line" = some (.str x tx) ∧ m "given" = some (.str z tz) ∧ m "program" = some (.ref pg) ∧ m "done" = some (.str d td) ∧ m "left" = some (.int l tl) ∧ m "col" = some (.int c tc) ∧ d.length ≤ 20 * i ∧ pcGo x z nx (x.length + 1 - i) d l c = pcGo x z nx (x.length + 1) (Str.ofString "") x.length x.length) (fun _ _ _ _ _ h => h) ⟨_, _, _, _, _, _, rfl, rfl, rfl, rfl, rfl, rfl, by decide, rfl⟩ ?_ ?_
  · rintro i v m₁ Λ₁ s₁ E' ⟨h1, tk1, rfl⟩ hi ⟨tv, rfl⟩ ⟨d, td, l, tl, c, tc, e1, e2, e3, e4, e5, e6, e7, e8⟩ hT hsub F2 N2
    replace F2 := fr_says [("line", .str x tx), ("given", .str z tz), ("program", .ref pg), ("done", .str d td), ("left", .int l tl), ("col", .int c tc)] F2 (by simp [e1, e2, e3, e4, e5, e6])
    obtain ⟨k, hk⟩ : ∃ k, x.length + 1 - i = k + 1 := ⟨x.length - i, by omega⟩
    have hk' : x.length + 1 - (i + 1) = k := by omega
    rw [hk, pcGo] at e8
    have hpg' := hpg2.mono hsub.sub
    k_steps
    rename Fr _ _ _ _ => F3; rename News _ _ _ _ => N3
    refine hold_out ?_
    refine search_reverse1 w p loose mean mg mb "given" _ _ x.length hgo (by omega) pg x _ _ _ _ _ _ _ _ _ _ _ _ _ ⟨⟨gd, _, _, _, _, _, outer, A₀, base, rfl, B, rfl, hC⟩, F3, X, N3, T, hT⟩ hpg' (by omega) (by omega) ?_
    rintro v4 Λ4 h4 tk4 c4 S4 P4
    have F4 := c4.F
    have N4 := c4.N
    have tab4 := c4.tab
    clear c4 F3 N3
    cases hr4 : revGo nx c (x.length + 1) 0 none with
    | none =>
      rw [hr4] at P4 e8
      cases P4
      k_steps
      refine wpAny_execs_nil ?_
      show Hold _
      refine hold_out ?_
      k_steps
      refine Lv.intro (by k_asm) (by k_asm) tab4 (S2.trans (hsub.trans S4)) ?_
      rw [← e8]
      exact ⟨_, rfl⟩
    | some r =>
      obtain ⟨i2, j2, g2⟩ := r
      rw [hr4] at P4 e8
      dsimp only at e8
      obtain ⟨a, Da, fda, esa, na, sp, gv, fds, rfl, q1, q2, q3, q4, q5, q6, q7, q8, q9⟩ := id P4
      k_steps
      refine hold_out ?_
      rename Fr _ _ _ _ => F9; rename News _ _ _ _ => N9
      refine fn_truthy (N9 _ q1).1 ?_
      k_steps
      refine hold_out ?_
      rename Fr _ _ _ _ => Fa; rename News _ _ _ _ => Na
      refine getMethod_led Na q1 q2 q3 q4 lk_function_span rfl ?_
      dsimp only
      refine callWith_F0 ⟨_, _, _, _, (Na _ q8).1⟩ ?_
      dsimp only [List.nil_append]
      refine q9 _ _ _ _ _ _ _ _ _ _ ⟨⟨gd, _, _, _, _, _, outer, A₀, base, rfl, B, rfl, hC⟩, Fa, X, Na, T, tab4⟩ .refl (by omega) (by omega) ?_
      rintro v5 Λb hb tkb cb Sb ⟨T4, ti4, tj4, rfl, hT4⟩
      have Fb := cb.F
      have Nb := cb.N
      have tabb := cb.tab
      clear cb Fa Na
      k_steps
      refine TurnEnd.next (by k_asm) (by k_asm) (tabb.sub fun _ h => List.mem_cons_of_mem _ h) ((S4.trans Sb).trans (Step.cons (by assumption))) ?_
      refine ⟨_, _, _, _, _, _, rfl, rfl, rfl, rfl, rfl, rfl, ?_, ?_⟩
      · omega
      · rw [hk']; exact e8
  · intro m' Λ' h' tk F2 N2 T2 S3 ⟨d, td, l, tl, c, tc, e1, e2, e3, e4, e5, e6, e7, e8⟩
    replace F2 := fr_says [("line", .str x tx), ("done", .str d td), ("left", .int l tl)] F2 (by simp [e1, e4, e5])
    rw [Nat.sub_self, pcGo] at e8
    refine wpAny_execs_nil ?_
    show Hold _
    refine hold_out ?_
    k_steps
    refine Lv.intro (by k_asm) (by k_asm) T2 (S2.trans S3) ?_
    rw [← e8]
    exact ⟨_, rfl⟩
end Mine
namespace Mine
open PySem PySem.Calls PySem.W PyProof.Rows PySem.Flt PySem.Builtin PySem.Builtin.ObjectAttr
/-- all but the tables and what lies at M stays -/
def Keep (M : List Addr) (Λ Λ' : Ldg) : Prop := ∀ p ∈ Λ, NT p.2 → p.1 ∉ M → p ∈ Λ'
theorem Keep.refl {M : List Addr} {Λ : Ldg} : Keep M Λ Λ := fun _ h _ _ => h
theorem Keep.trans {M : List Addr} {a b c : Ldg} (x : Keep M a b) (y : Keep M b c) : Keep M a c := fun p h k l => y p (x p h k l) k l
theorem Step.keepM {M : List Addr} {a b : Ldg} (x : Step a b) : Keep M a b := fun p h k _ => x.keep p h k
def TurnEndK (M : List Addr) (sp : List (Addr × Str)) (h₀ : Heap) (L : Addr) (Λ₁ : Ldg) (R : (Str → Option Value) → Ldg → Prop) (s₁ : Shared) (Q : Flow → Shared → Prop) (f : Flow) (s₂ : Shared) : Prop :=
  match f with
  | .ret v => Q (.ret v) s₂
  | .brk => Q .next s₂
  | _ => ∃ m₂ Λ₂ h₂ tk₂, s₂ = { s₁ with heap := h₂, toks := tk₂ } ∧ Fr h₀ L h₂ m₂ ∧ News h₀ L h₂ Λ₂ ∧ TabOk sp Λ₂ ∧ Keep M Λ₁ Λ₂ ∧ R m₂ Λ₂
theorem TurnEndK.next {M : List Addr} {sp : List (Addr × Str)} {h₀ : Heap} {L : Addr} {Λ₁ Λ₂ : Ldg} {R : (Str → Option Value) → Ldg → Prop} {s₁ : Shared} {Q : Flow → Shared → Prop} {m₂ : Str → Option Value} {h₂ : Heap} {tk₂ : Nat}
    (F : Fr h₀ L h₂ m₂) (N : News h₀ L h₂ Λ₂) (T : TabOk sp Λ₂) (S : Keep M Λ₁ Λ₂) (r : R m₂ Λ₂) : TurnEndK M sp h₀ L Λ₁ R s₁ Q .next { s₁ with heap := h₂, toks := tk₂ } := ⟨m₂, Λ₂, h₂, tk₂, rfl, F, N, T, S, r⟩
section
variable {prog : Program} {w : World} {A : Around} {s : Shared} {env : Env} {h₀ : Heap} {sp : List (Addr × Str)}
theorem for_keep {RR : Result → Shared → Prop} {Q : Flow → Shared → Prop} {target : Expr} {body : List Stmt} {I : Addr} {fp wr : List Addr} {n : Nat} {P : Nat → Value → Prop} {St : Nat → Heap → Prop} {m : Str → Option Value} {Λ : Ldg} {M : List Addr}
    (hRR : ∀ f s', Q f s' → RR (.ok f) s')
    (W : Walks prog w A I fp wr n P St) (hLf : env.locals ∉ fp) (hwr : ∀ b ∈ wr, h₀.get? b = none) (hnw : ∀ p ∈ Λ, p.1 ∉ wr) (hM : ∀ b ∈ fp, b ∉ M)
    (hit : ∀ i h, St i h → ∀ b ∈ wr, ∃ o, h.get? b = some o ∧ IterLike o)
    (hnt : ∀ i h, St i h → ∀ b ∈ fp, ∀ o, h.get? b = some o → NT o)
    (hst : St 0 s.heap) (F : Fr h₀ env.locals s.heap m) (N : News h₀ env.locals s.heap Λ) (T : TabOk sp Λ)
    (hgo : ∀ i (s' : Shared) v (Q' : Unit → Shared → Prop) (E' : Value → Shared → Prop), P i v → St (i + 1) s'.heap → Q' () s' → wpAny (model prog w) A (letOwnedTupleGo target (.ref I) v) Q' E' s')
    (R : Nat → (Str → Option Value) → Ldg → Prop) (hmono : ∀ i m Λ Λ', NSub Λ Λ' → R i m Λ → R i m Λ') (h0 : R 0 m Λ)
    (turn : ∀ i v m₁ Λ₁ s₁ (E' : Value → Shared → Prop), (∃ h tk, s₁ = { s with heap := h, toks := tk }) → i < n → P i v → R i m₁ Λ₁ → TabOk sp Λ₁ → Keep M Λ Λ₁ → Fr h₀ env.locals s₁.heap m₁ → News h₀ env.locals s₁.heap Λ₁ →
      wpAny (model prog w) A (assign target env v) (fun _ s₂ => wpAny (model prog w) A (execs body env) (TurnEndK M sp h₀ env.locals Λ₁ (R (i + 1)) s₁ Q) E' s₂) E' s₁)
    (done : ∀ m' Λ' h' tk, Fr h₀ env.locals h' m' → News h₀ env.locals h' Λ' → TabOk sp Λ' → Keep M Λ Λ' → R n m' Λ' → Q .next { s with heap := h', toks := tk }) :
    codeAny (model prog w) A (.forLoop target (.ref I) body [] env) RR s := by
  have hLw : env.locals ∉ wr := fun h => hLf (W.sub _ h)
  have old : ∀ b o, h₀.get? b = some o → b ∉ wr := fun b o e hb => by rw [hwr b hb] at e; cases e
  refine codeAny_forLoop_any
    (fun k s' => ∃ h' tk m' Λ' i, s' = { s with heap := h', toks := tk } ∧ St i h' ∧ Fr h₀ env.locals h' m' ∧ News h₀ env.locals h' Λ' ∧ (∀ p ∈ Λ', p.1 ∉ wr) ∧ TabOk sp Λ' ∧ Keep M Λ Λ' ∧ R i m' Λ' ∧ i ≤ n ∧ k = n + 1 - i) ?_ (n + 1)
    ⟨s.heap, s.toks, m, Λ, 0, rfl, hst, F, N, hnw, T, fun _ h _ _ => h, h0, Nat.zero_le _, rfl⟩
  rintro k s' ⟨h', tk, m', Λ', i, rfl, hst', F', N', hnw', T', S', hR, hi, rfl⟩
  have next : ∀ h₁ : Heap, (∀ b o, b ∉ wr → h'.get? b = some o → h₁.get? b = some o) → Fr h₀ env.locals h₁ m' ∧ News h₀ env.locals h₁ Λ' := fun h₁ hk₁ =>
    ⟨⟨F'.ns.at' fun o e => hk₁ _ o hLw e, fun b o e => hk₁ b o (old b o e) (F'.keep b o e), F'.above⟩, fun p hp => ⟨hk₁ _ _ (hnw' p hp) (N' p hp).1, (N' p hp).2⟩⟩
  by_cases hlt : i < n
  · refine W.item i _ _ _ hlt hst' fun v h₁ tk₁ hP hst₁ hk₁ => ?_
    obtain ⟨F₁, N₁⟩ := next h₁ hk₁
    have Nown : News h₀ env.locals h₁ (ownOf h₀ fp h₁) := news_ownOf hLf
    have N2 := Nown.append N₁
    refine hgo i _ v _ _ hP hst₁ ?_
    have sub1 : ∀ p ∈ Λ', p ∈ ownOf h₀ fp h₁ ++ Λ' := fun p hp => List.mem_append_right _ hp
    have SO : Keep M Λ (ownOf h₀ fp h₁ ++ Λ') := fun p hp hn hm => sub1 p (S' p hp hn hm)
    refine wpAny_mono (turn i v m' (ownOf h₀ fp h₁ ++ Λ') { s with heap := h₁, toks := tk₁ } _ ⟨_, _, rfl⟩ hlt hP (hmono _ _ _ _ (fun p hp _ => sub1 p hp) hR) (T'.sub sub1) SO F₁ N2) (fun _ s₂ h₂ => wpAny_mono h₂ (fun f s₃ h₃ => ?_) fun _ _ e => e) fun _ _ e => e
    have key : (∃ m₂ Λ₂ h₂ tk₂, s₃ = { s with heap := h₂, toks := tk₂ } ∧ Fr h₀ env.locals h₂ m₂ ∧ News h₀ env.locals h₂ Λ₂ ∧ TabOk sp Λ₂ ∧ Keep M (ownOf h₀ fp h₁ ++ Λ') Λ₂ ∧ R (i + 1) m₂ Λ₂) → ∃ mm, mm < n + 1 - i ∧ ∃ h' tk m' Λ' i, s₃ = { s with heap := h', toks := tk } ∧ St i h' ∧ Fr h₀ env.locals h' m' ∧ News h₀ env.locals h' Λ' ∧ (∀ p ∈ Λ', p.1 ∉ wr) ∧ TabOk sp Λ' ∧ Keep M Λ Λ' ∧ R i m' Λ' ∧ i ≤ n ∧ mm = n + 1 - i := by
      rintro ⟨m₂, Λ₂, h₂, tk₂, rfl, F₂, N₂, T₂, S₂, hR₂⟩
      have hst₂ : St (i + 1) h₂ := by
        refine W.frame _ _ _ hst₁ fun b hb o e => ?_
        cases hn : h₀.get? b with
        | some o₀ =>
          have : o₀ = o := by have := F₁.keep b o₀ hn; rw [e] at this; exact (Option.some.inj this).symm
          exact this ▸ F₂.keep b o₀ hn
        | none =>
          have hm := List.mem_append_left Λ' (mem_ownOf hb hn e)
          exact (N₂ _ (S₂ _ hm (hnt _ _ hst₁ b hb o e) (hM b hb))).1
      have ne : ∀ p ∈ Λ₂, NI p.2 → p.1 ∉ wr := fun p hp hni hw => by
        obtain ⟨o, ho, hl⟩ := hit _ _ hst₂ _ hw
        rw [(N₂ p hp).1] at ho
        cases ho
        exact hni hl
      have hs : NSub Λ₂ (Λ₂.filter fun p => !wr.contains p.1) := fun p hp hni => List.mem_filter.mpr ⟨hp, by simpa using ne p hp hni⟩
      refine ⟨n + 1 - (i + 1), by omega, h₂, tk₂, m₂, _, i + 1, rfl, hst₂, F₂, news_sub N₂ fun p hp => (List.mem_filter.mp hp).1, fun p hp => by simpa using (List.mem_filter.mp hp).2, T₂.nsub hs, ?_, hmono _ _ _ _ hs hR₂, hlt, rfl⟩
      exact fun p hp hn hm => List.mem_filter.mpr ⟨S₂ p (sub1 p (S' p hp hn hm)) hn hm, by simpa using hnw p hp⟩
    cases f with
    | ret v => exact hRR _ _ h₃
    | brk => exact hRR _ _ h₃
    | cont => exact key h₃
    | next => exact key h₃
  · have hin : i = n := by omega
    subst hin
    refine W.done _ _ _ hst' fun h₁ tk₁ hk₁ => wpAny_execs_nil ?_
    obtain ⟨F₁, N₁⟩ := next h₁ hk₁
    exact hRR _ _ (done m' Λ' h₁ tk₁ F₁ N₁ T' S' hR)
end
section
variable {prog : Program} {w : World} {A : Around} {s : Shared} {env : Env} {h₀ : Heap} {sp : List (Addr × Str)} {E : Value → Shared → Prop} {RR : Result → Shared → Prop} {Q : Flow → Shared → Prop} {target : Expr} {body : List Stmt} {m : Str → Option Value} {Λ : Ldg}
theorem iter_rangeK (hRR : ∀ f s', Q f s' → RR (.ok f) s') (hh : A.handled = none) {r : Addr} {n : Nat} {t u v : Tok} (F : Fr h₀ env.locals s.heap m) (N : News h₀ env.locals s.heap Λ) (T : TabOk sp Λ)
    (M : List Addr) (hMl : ∀ a ∈ M, a < s.heap.objs.size) (hr : IsRange s.heap r 0 n 1 t u v) (hn : n < 2 ^ 60)
    (ht : ∀ it v, letOwnedTupleGo target it v = pure ())
    (R : Nat → (Str → Option Value) → Ldg → Prop) (hmono : ∀ i m Λ Λ', NSub Λ Λ' → R i m Λ → R i m Λ') (h0 : R 0 m Λ)
    (turn : ∀ i v m₁ Λ₁ s₁ (E' : Value → Shared → Prop), (∃ h tk, s₁ = { s with heap := h, toks := tk }) → i < n → (∃ t, v = .int i t) → R i m₁ Λ₁ → TabOk sp Λ₁ → Keep M Λ Λ₁ → Fr h₀ env.locals s₁.heap m₁ → News h₀ env.locals s₁.heap Λ₁ →
      wpAny (model prog w) A (assign target env v) (fun _ s₂ => wpAny (model prog w) A (execs body env) (TurnEndK M sp h₀ env.locals Λ₁ (R (i + 1)) s₁ Q) E' s₂) E' s₁)
    (done : ∀ m' Λ' h' tk, Fr h₀ env.locals h' m' → News h₀ env.locals h' Λ' → TabOk sp Λ' → Keep M Λ Λ' → R n m' Λ' → Q .next { s with heap := h', toks := tk }) :
    wpAny (model prog w) A (pyIter (.ref r)) (fun it s₂ => codeAny (model prog w) A (.forLoop target it body [] env) RR s₂) E s := by
  obtain ⟨f1, f2, f3⟩ := fresh_addr F N
  have hs : Builtin.Range.rangeSize 0 n 1 = n := by rw [rangeSize_one]; split <;> omega
  refine wpAny_pyIter_range hr (small_one (by omega) (by omega) (by omega) (by omega)) ?_
  rw [hs]
  refine for_keep (s := { s with heap := _ }) hRR (Walks.range hh s.heap.objs.size 0 1 n) (by simpa using f2) (fun b hb => by rw [List.mem_singleton.mp hb]; exact f3) f1 (fun b hb hm => by rw [List.mem_singleton.mp hb] at hm; exact Nat.lt_irrefl _ (hMl _ hm)) ?_ ?_ ?_ (F.push _) (news_pushed N _) T
    (fun i s' v Q' E' hP hst hq => wpAny_of_eq (ht _ v) hq) R hmono h0 ?_ done
  · intro i h hst b hb
    rw [List.mem_singleton.mp hb]
    exact ⟨_, hst, by nofun, _, rfl, fun q t => by simp [rawInt]⟩
  · intro i h hst b hb o e
    rw [List.mem_singleton.mp hb, hst] at e
    cases e
    exact .of_cls (by nofun)
  · show IsRangeIter _ _ _ _ _
    have : IsRangeIter (s.heap.push { cls := .type "range_iterator", data := .fields #[rawInt 0, rawInt n, rawInt 1] }) s.heap.objs.size 0 n 1 := Heap.get?_push_size _ rfl
    simpa using this
  · intro i v m₁ Λ₁ s₁ E' hs₁ hi hP hR hT hsub F₁ N₁
    obtain ⟨t', e⟩ := hP
    exact turn i v m₁ Λ₁ s₁ E' hs₁ hi ⟨t', by rw [e]; simp⟩ hR hT hsub F₁ N₁

theorem iter_listK (hRR : ∀ f s', Q f s' → RR (.ok f) s') (hh : A.handled = none) {l : Addr} {vs : List Value} {ep : Nat} (F : Fr h₀ env.locals s.heap m) (N : News h₀ env.locals s.heap Λ) (T : TabOk sp Λ) (M : List Addr) (hMl : ∀ a ∈ M, a < s.heap.objs.size) (hlM : l ∉ M) (hl : (l, listObj vs ep) ∈ Λ)
    (hgo : ∀ (s' : Shared) I i v (Q' : Unit → Shared → Prop) (E' : Value → Shared → Prop), s'.heap.IsListIter I l i → v ∈ vs → Q' () s' → wpAny (model prog w) A (letOwnedTupleGo target (.ref I) v) Q' E' s')
    (R : Nat → (Str → Option Value) → Ldg → Prop) (hmono : ∀ i m Λ Λ', NSub Λ Λ' → R i m Λ → R i m Λ') (h0 : R 0 m Λ)
    (turn : ∀ i v m₁ Λ₁ s₁ (E' : Value → Shared → Prop), (∃ h tk, s₁ = { s with heap := h, toks := tk }) → i < vs.length → vs[i]? = some v → R i m₁ Λ₁ → TabOk sp Λ₁ → Keep M Λ Λ₁ → Fr h₀ env.locals s₁.heap m₁ → News h₀ env.locals s₁.heap Λ₁ →
      wpAny (model prog w) A (assign target env v) (fun _ s₂ => wpAny (model prog w) A (execs body env) (TurnEndK M sp h₀ env.locals Λ₁ (R (i + 1)) s₁ Q) E' s₂) E' s₁)
    (done : ∀ m' Λ' h' tk, Fr h₀ env.locals h' m' → News h₀ env.locals h' Λ' → TabOk sp Λ' → Keep M Λ Λ' → R vs.length m' Λ' → Q .next { s with heap := h', toks := tk }) :
    wpAny (model prog w) A (pyIter (.ref l)) (fun it s₂ => codeAny (model prog w) A (.forLoop target it body [] env) RR s₂) E s := by
  obtain ⟨f1, f2, f3⟩ := fresh_addr F N
  have hls : s.heap.IsList l vs.toArray := ⟨_, (N _ hl).1, rfl, ep, rfl⟩
  have hne : l ≠ s.heap.objs.size := Nat.ne_of_lt (Heap.lt_size (N _ hl).1)
  refine wpAny_pyIter_list hls ?_
  have W := Walks.list (prog := prog) (w := w) hh s.heap.objs.size l hne vs.toArray
  rw [show vs.toArray.size = vs.length from List.size_toArray] at W
  refine for_keep (s := { s with heap := _ }) hRR W ?_ (fun b hb => by rw [List.mem_singleton.mp hb]; exact f3) f1 ?_ ?_ ?_ ?_ (F.push _) (news_pushed N _) T ?_ R hmono h0 ?_ done
  · intro hm
    rcases List.mem_cons.mp hm with e | hm
    · exact f2 e
    · exact (N _ hl).2.1 (List.mem_singleton.mp hm).symm
  · intro b hb hm
    rcases List.mem_cons.mp hb with e | hb
    · rw [e] at hm; exact Nat.lt_irrefl _ (hMl _ hm)
    · rw [List.mem_singleton.mp hb] at hm; exact hlM hm
  · rintro i h ⟨⟨o, ho, hc, hd⟩, _⟩ b hb
    rw [List.mem_singleton.mp hb]
    exact ⟨o, ho, by rw [hc]; nofun, _, hd, fun q t => by simp⟩
  · rintro i h ⟨⟨o', ho, hc, hd⟩, ⟨ol, hol, hcl, _⟩⟩ b hb o e
    rcases List.mem_cons.mp hb with rfl | hb
    · rw [ho] at e; cases e; exact .of_cls (by rw [hc]; nofun)
    · rw [List.mem_singleton.mp hb, hol] at e; cases e; exact .of_cls (by rw [hcl]; nofun)
  · exact ⟨⟨_, Heap.get?_push_size _ rfl, rfl, rfl⟩, hls.at fun o e => Heap.get?_push_of_some _ e⟩
  · intro i s' v Q' E' hP hst hq
    exact hgo s' _ _ v Q' E' hst.1 (by have : vs[i]? = some v := by simpa using hP
                                       exact List.mem_of_getElem? this) hq
  · intro i v m₁ Λ₁ s₁ E' hs₁ hi hP hR hT hsub F₁ N₁
    exact turn i v m₁ Λ₁ s₁ E' hs₁ hi (by simpa using hP) hR hT hsub F₁ N₁
end
end Mine
namespace Mine
open PySem PySem.Calls PySem.W PyProof.Rows PySem.Flt PySem.Builtin PySem.Builtin.ObjectAttr
theorem append_led {prog : Program} {w : World} {A : Around} {E : Value → Shared → Prop} {s : Shared} {h₀ : Heap} {sp : List (Addr × Str)} {L D : Addr} {m : Str → Option Value} {Λ : Ldg} {ys : List Value} {n : Nat} {x : Value} {Q : Value → Shared → Prop}
    (F : Fr h₀ L s.heap m) (N : News h₀ L s.heap Λ) (T : TabOk sp Λ) (hD : (D, listObj ys n) ∈ Λ) (hsz : ys.length ≤ 1000)
    (h : ∀ h' Λ', Fr h₀ L h' m → News h₀ L h' Λ' → TabOk sp Λ' → Keep [D] Λ Λ' → (D, listObj (ys ++ [x]) (n + 1)) ∈ Λ' → (∀ p ∈ Λ, p.1 ≠ D → p ∈ Λ') → Q .none { s with heap := h' }) :
    wpAny (model prog w) A (call (.builtin "list.append") [.ref D, x]) Q E s := by
  have hs : ∀ p ∈ (D, listObj ys n) :: Λ.filter (fun p => p.1 != D), p ∈ Λ := by
    intro p hp
    rcases List.mem_cons.mp hp with rfl | hp
    · exact hD
    · exact (List.mem_filter.mp hp).1
  have hk : ∀ p ∈ Λ, p.1 ≠ D → p ∈ (D, listObj (ys ++ [x]) (n + 1)) :: Λ.filter (fun p => p.1 != D) := fun p hp hn => .tail _ (List.mem_filter.mpr ⟨hp, by simpa using hn⟩)
  refine append_in (own := []) (rest := Λ.filter (fun p => p.1 != D)) F (news_sub N hs) (fun _ hp => nomatch hp) (fun p hp => by simpa using (List.mem_filter.mp hp).2) (fun h' F' N' => ?_) (by rw [sizeLine_eq]; omega)
  exact h h' _ F' N' (T.off N hD (by nofun) (by nofun) hk) (fun p hp _ hm => hk p hp (by simpa using hm)) (.head _) hk
section
variable {prog : Program} {w : World} {A : Around} {E : Value → Shared → Prop} {s : Shared} {env : Env} {h₀ : Heap} {sp : List (Addr × Str)} {RR : Result → Shared → Prop} {Q : Flow → Shared → Prop} {target : Expr} {body : List Stmt} {m : Str → Option Value} {Λ : Ldg}
theorem iter_tupleK (hRR : ∀ f s', Q f s' → RR (.ok f) s') (hh : A.handled = none) {l : Addr} {vs : List Value} (F : Fr h₀ env.locals s.heap m) (N : News h₀ env.locals s.heap Λ) (T : TabOk sp Λ) (M : List Addr) (hMl : ∀ a ∈ M, a < s.heap.objs.size) (hlM : l ∉ M) (hl : (l, tupObj vs) ∈ Λ)
    (ht : ∀ it v, letOwnedTupleGo target it v = pure ())
    (R : Nat → (Str → Option Value) → Ldg → Prop) (hmono : ∀ i m Λ Λ', NSub Λ Λ' → R i m Λ → R i m Λ') (h0 : R 0 m Λ)
    (turn : ∀ i v m₁ Λ₁ s₁ (E' : Value → Shared → Prop), (∃ h tk, s₁ = { s with heap := h, toks := tk }) → i < vs.length → vs[i]? = some v → R i m₁ Λ₁ → TabOk sp Λ₁ → Keep M Λ Λ₁ → Fr h₀ env.locals s₁.heap m₁ → News h₀ env.locals s₁.heap Λ₁ →
      wpAny (model prog w) A (assign target env v) (fun _ s₂ => wpAny (model prog w) A (execs body env) (TurnEndK M sp h₀ env.locals Λ₁ (R (i + 1)) s₁ Q) E' s₂) E' s₁)
    (done : ∀ m' Λ' h' tk, Fr h₀ env.locals h' m' → News h₀ env.locals h' Λ' → TabOk sp Λ' → Keep M Λ Λ' → R vs.length m' Λ' → Q .next { s with heap := h', toks := tk }) :
    wpAny (model prog w) A (pyIter (.ref l)) (fun it s₂ => codeAny (model prog w) A (.forLoop target it body [] env) RR s₂) E s := by
  obtain ⟨f1, f2, f3⟩ := fresh_addr F N
  have hls : s.heap.IsTuple l vs.toArray := ⟨_, (N _ hl).1, rfl, 0, rfl⟩
  have hne : l ≠ s.heap.objs.size := Nat.ne_of_lt (Heap.lt_size (N _ hl).1)
  refine wpAny_pyIter_tuple hls ?_
  have W := Walks.tuple (prog := prog) (w := w) hh s.heap.objs.size l hne vs.toArray
  rw [show vs.toArray.size = vs.length from List.size_toArray] at W
  refine for_keep (s := { s with heap := _ }) hRR W ?_ (fun b hb => by rw [List.mem_singleton.mp hb]; exact f3) f1 ?_ ?_ ?_ ?_ (F.push _) (news_pushed N _) T ?_ R hmono h0 ?_ done
  · intro hm
    rcases List.mem_cons.mp hm with e | hm
    · exact f2 e
    · exact (N _ hl).2.1 (List.mem_singleton.mp hm).symm
  · intro b hb hm
    rcases List.mem_cons.mp hb with e | hb
    · rw [e] at hm; exact Nat.lt_irrefl _ (hMl _ hm)
    · rw [List.mem_singleton.mp hb] at hm; exact hlM hm
  · rintro i h ⟨⟨o, ho, hc, hd⟩, _⟩ b hb
    rw [List.mem_singleton.mp hb]
    exact ⟨o, ho, by rw [hc]; nofun, _, hd, fun q t => by simp⟩
  · rintro i h ⟨⟨o', ho, hc, hd⟩, ⟨ol, hol, hcl, _⟩⟩ b hb o e
    rcases List.mem_cons.mp hb with rfl | hb
    · rw [ho] at e; cases e; exact .of_cls (by rw [hc]; nofun)
    · rw [List.mem_singleton.mp hb, hol] at e; cases e; exact .of_cls (by rw [hcl]; nofun)
  · exact ⟨⟨_, Heap.get?_push_size _ rfl, rfl, rfl⟩, ⟨_, Heap.get?_push_of_some _ (N _ hl).1, rfl, 0, rfl⟩⟩
  · intro i s' v Q' E' hP hst hq
    exact wpAny_of_eq (ht _ v) hq
  · intro i v m₁ Λ₁ s₁ E' hs₁ hi hP hR hT hsub F₁ N₁
    exact turn i v m₁ Λ₁ s₁ E' hs₁ hi (by simpa using hP) hR hT hsub F₁ N₁
end
end Mine
namespace Mine
open PySem PySem.Calls PySem.W PyProof.Rows PySem.Flt PySem.Builtin PySem.Builtin.ObjectAttr
theorem ints_at {vs : List Value} {ns : List Int} (h : IntsAre vs ns) : ∀ i : Nat, (vs[i]? = none ∧ ns[i]? = none) ∨ ∃ n t, vs[i]? = some (.int n t) ∧ ns[i]? = some n := by
  induction h with
  | nil => intro i; exact .inl ⟨rfl, rfl⟩
  | cons n t _ ih =>
    intro i
    cases i with
    | zero => exact .inr ⟨_, _, rfl, rfl⟩
    | succ i => simpa using ih i
theorem ints_picked {vs : List Value} {ns : List Int} (h : IntsAre vs ns) : ∀ is : List Nat, IntsAre (is.filterMap (vs.toArray[·]?)) (is.filterMap (ns[·]?))
  | [] => .nil
  | i :: r => by
    rcases ints_at h i with ⟨e, e'⟩ | ⟨n, t, e, e'⟩
    · rw [List.filterMap_cons_none (by simpa using e), List.filterMap_cons_none e']; exact ints_picked h r
    · rw [List.filterMap_cons_some (by simpa using e), List.filterMap_cons_some e']; exact .cons _ _ (ints_picked h r)
def pickInts (ns : List Int) (lo hi st : Option Int) : List Int := (sliceRange (sliceBounds lo hi st ns.length).1 (sliceBounds lo hi st ns.length).2.1 (sliceBounds lo hi st ns.length).2.2).filterMap (ns[·]?)
theorem ints_slice {vs : List Value} {ns : List Int} (h : IntsAre vs ns) (lo hi st : Option Int) : IntsAre (slicePick vs.toArray lo hi st).toList (pickInts ns lo hi st) := by
  have e : vs.length = ns.length := h.length
  unfold slicePick pickInts
  rw [List.size_toArray, e]
  exact ints_picked h _
theorem sum_slice {prog : Program} {w : World} {A : Around} {E : Value → Shared → Prop} {s : Shared} {h₀ : Heap} {L l : Addr} {m : Str → Option Value} {news : List (Addr × Obj)} {vs : List Value} {ns : List Int} {lo hi st : Option Int} {Q : Value → Shared → Prop} (hi' : IntsAre vs ns) (F : Fr h₀ L s.heap m) (N : News h₀ L s.heap news) (hh : A.handled = none) (hl : s.heap.IsList l (slicePick vs.toArray lo hi st))
    (h : ∀ h' tk t', Fr h₀ L h' m → News h₀ L h' news → Q (.int (pickInts ns lo hi st).sum t') { s with heap := h', toks := tk }) : wpAny (model prog w) A (call (.builtin "sum") [.ref l]) Q E s :=
  LSm.sum_ints (vs := (slicePick vs.toArray lo hi st).toList) F N hh (by simpa using hl) (ints_slice hi' lo hi st) h
theorem sum_sliceN {prog : Program} {w : World} {A : Around} {E : Value → Shared → Prop} {s : Shared} {h₀ : Heap} {L l : Addr} {m : Str → Option Value} {news : List (Addr × Obj)} {vs : List Value} {ns : List Int} {lo hi st : Option Int} {Q : Value → Shared → Prop} (F : Fr h₀ L s.heap m) (N : News h₀ L s.heap news) (hm : (l, { cls := .type "list", data := .seq (slicePick vs.toArray lo hi st) }) ∈ news) (hi' : IntsAre vs ns) (hh : A.handled = none)
    (h : ∀ h' tk t', Fr h₀ L h' m → News h₀ L h' news → Q (.int (pickInts ns lo hi st).sum t') { s with heap := h', toks := tk }) : wpAny (model prog w) A (call (.builtin "sum") [.ref l]) Q E s :=
  sum_slice hi' F N hh ⟨_, (N _ hm).1, rfl, 0, rfl⟩ h
end Mine
namespace Mine
open PySem PySem.Calls PySem.W PyProof.Rows PySem.Flt PySem.Builtin PySem.Builtin.ObjectAttr
/-- a list comprehension of two clauses: its text -/
abbrev flatE (x z : Str) (px pz pz' px' : Pos) (iter : Expr) (scope : Scope) (pos : Pos) : Expr := .ListComp (.Name z pz) [⟨.Name x px, iter, [], 0⟩, ⟨.Name z pz', .Name x px', [], 0⟩] scope pos
theorem flat_turn1 (x z : Str) (px pz pz' px' : Pos) (iter : Expr) (scope : Scope) (pos : Pos) (it acc : Value) (env : Env) :
    compTurn (flatE x z px pz pz' px' iter scope pos) 1 it acc env = (standAt (Expr.Name x px').pos >>= fun _ => pyNext it >>= fun r => match r with
      | none => pure (.done .next)
      | some v => letOwnedTupleGo (.Name z pz') it v >>= fun _ => assign (.Name z pz') env v >>= fun _ =>
        (eval (.Name z pz) env >>= fun y => call (.builtin "list.append") [acc, y] >>= fun _ => pure ()) >>= fun _ =>
          again (.compLoop (flatE x z px pz pz' px' iter scope pos) 1 it acc env)) := by rfl
theorem flat_turn0 (x z : Str) (px pz pz' px' : Pos) (iter : Expr) (scope : Scope) (pos : Pos) (it acc : Value) (env : Env) :
    compTurn (flatE x z px pz pz' px' iter scope pos) 0 it acc env = (standAt iter.pos >>= fun _ => pyNext it >>= fun r => match r with
      | none => pure (.done .next)
      | some v => letOwnedTupleGo (.Name x px) it v >>= fun _ => assign (.Name x px) env v >>= fun _ =>
        (eval (.Name x px') env >>= fun y => standAt (Expr.Name x px').pos >>= fun _ => foldedSetIterable (.Name x px') env y >>= fun y => holding [y] (pyIter y) >>= fun it2 => runOwn (.compStart (flatE x z px pz pz' px' iter scope pos) 1 it2 acc env) env >>= fun _ =>
          again (.compLoop (flatE x z px pz pz' px' iter scope pos) 0 it acc env))) := by rfl
/-- what stays but for some addresses -/
def Kept (S : List Addr) (h h' : Heap) : Prop := ∀ b o, b ∉ S → h.get? b = some o → h'.get? b = some o
theorem Kept.trans {S : List Addr} {a b c : Heap} (x : Kept S a b) (y : Kept S b c) : Kept S a c := fun k o n e => y k o n (x k o n e)
section
variable {prog : Program} {w : World} {A : Around} {s : Shared} {R : Result → Shared → Prop} {x z : Str} {px pz pz' px' : Pos} {iter : Expr} {scope : Scope} {pos : Pos} {cl : List (Str × Addr)} {env : Env}
theorem flat_start1 {it acc : Value} {env : Env}
    (h0 : codeAny (model prog w) A (.compLoop (flatE x z px pz pz' px' iter scope pos) 1 it acc env) R s)
    (h : wpAny (model prog w) A (pyIter it) (fun it' s' => codeAny (model prog w) A (.compLoop (flatE x z px pz pz' px' iter scope pos) 1 it' acc env) R s')
      (notedBy (model prog w) A env fun x s' => R (.error x) s') s) :
    codeAny (model prog w) A (.compStart (flatE x z px pz pz' px' iter scope pos) 1 it acc env) R s := by
  refine codeAny_of_tree ?_
  show wpAny _ _ ((compStart (flatE x z px pz pz' px' iter scope pos) 1 it acc env).onRaise (fun x => do noteFrame x env; standAt theWindowsPlace)) _ _ s
  refine wpAny_notedAt ?_
  unfold compStart
  show wpAny _ _ (ask >>= _) _ _ s
  refine wpAny_bind (wpAny_askSetting (wpAny_ite ?_))
  split
  · first
      | exact wpAny_bind (wpAny_pure (wpAny_pure (And.intro rfl h0)))
      | exact wpAny_pure (And.intro rfl h0)
  · first
      | exact wpAny_bind (wpAny_rule (wpAny_bind (wpAny_standAt (wpAny_bind (wpAny_mono h (fun it' s' h' => wpAny_pure (And.intro rfl h')) fun _ _ x => x)))))
      | (refine wpAny_bind (wpAny_rule ?_); show wpAny _ _ (standAt (Expr.Name x px').pos >>= _) _ _ s; exact wpAny_bind (wpAny_standAt (wpAny_bind (wpAny_mono h (fun it' s' h' => wpAny_pure (And.intro rfl h')) fun _ _ x => x))))
theorem flat_inner (hh : A.handled = none) (hkind : scope.kind = .function) (hz : scope.names.lookup z = some .local) (hzd : (z == ("__debug__" : Str)) = false) {J T D C : Addr} {us ys : List Value} {m' : Str → Option Value}
    (hJT : T ≠ J) (hJD : D ≠ J) (hJC : C ≠ J) (hTD : T ≠ D) (hTC : T ≠ C) (hCD : C ≠ D) (hsz : ys.length + us.length ≤ 1000)
    (hit : s.heap.IsTupleIter J T 0) (ht : s.heap.IsTuple T us.toArray) (hC : s.heap.Ns C m') (hD : s.heap.get? D = some (LCg.lst ys))
    (hR : ∀ h' tk m'', Kept [J, C, D] s.heap h' → h'.Ns C m'' → h'.get? D = some (LCg.lst (ys ++ us)) → R (.ok .next) { s with heap := h', toks := tk }) :
    codeAny (model prog w) A (.compLoop (flatE x z px pz pz' px' iter scope pos) 1 (.ref J) (.ref D) (compEnvC scope cl C env)) R s := by
  have W := Walks.tuple (prog := prog) (w := w) hh J T hJT us.toArray
  rw [show us.toArray.size = us.length from List.size_toArray] at W
  refine codeAny_loop rfl (fun k s' => ∃ h' tk i m'', s' = { s with heap := h', toks := tk } ∧ i ≤ us.length ∧ k = us.length + 1 - i ∧ Kept [J, C, D] s.heap h' ∧ (h'.IsTupleIter J T i ∧ h'.IsTuple T us.toArray) ∧ h'.Ns C m'' ∧ h'.get? D = some (LCg.lst (ys ++ us.take i))) (fun k s' hI => ?_) (us.length + 1)
    ⟨s.heap, s.toks, 0, m', rfl, Nat.zero_le _, rfl, fun _ _ _ e => e, ⟨hit, ht⟩, hC, by simpa using hD⟩
  show wpAny _ A ((compTurn (flatE x z px pz pz' px' iter scope pos) 1 (.ref J) (.ref D) (compEnvC scope cl C env)).onRaise (fun x => do noteFrame x (compEnvC scope cl C env); theTreesLotGoes x)) _ _ s'
  refine wpAny_noted ?_
  rw [flat_turn1]
  obtain ⟨h', tk, i, m'', rfl, hi, rfl, hk, hst, hn, hd⟩ := hI
  refine wpAny_bind (wpAny_standAt (wpAny_bind ?_))
  by_cases hlt : i < us.length
  · refine W.item i _ _ _ hlt hst fun v h₂ tk₂ hPv hst₂ hk₂ => ?_
    have hv : us[i]? = some v := by simpa using hPv
    refine wpAny_bind (wpAny_of_eq rfl ?_)
    refine wpAny_bind (wpAny_assign_Name (wpAny_storeName_local (lookup_relabel_local hz) (hn.at' fun o e => hk₂ _ o (by simpa using hJC) e) (fun h₃ hn₃ hs₃ => ?_) (by simp [compEnvC, relabel, hkind])))
    refine wpAny_bind (wpAny_bind (wpAny_Name (wpAny_loadName_local (v := v) (by simp [compEnvC, relabel, hkind]) (lookup_relabel_local hz) hn₃ (by simp) ?_) hzd))
    have hd₃ : h₃.get? D = some (LCg.lst (ys ++ us.take i)) := hs₃.extBut _ _ (Ne.symm hCD) (hk₂ _ _ (by simpa using hJD) hd)
    refine wpAny_bind (append_at (hsz := by rw [List.size_toArray, List.length_append, List.length_take, sizeLine_eq]; omega) hd₃ fun h₅ hs₅ hD₅ => ?_)
    refine wpAny_pure (wpAny_pure ⟨rfl, us.length + 1 - (i + 1), by omega, h₅, _, i + 1, _, rfl, hlt, rfl, ?_, ?_, hn₃.sameBut hs₅ hCD, ?_⟩)
    · intro b o hb e
      have h1 : b ≠ J ∧ b ≠ C ∧ b ≠ D := by simpa using hb
      exact hs₅.extBut b o h1.2.2 (hs₃.extBut b o h1.2.1 (hk₂ b o (by simpa using h1.1) (hk b o hb e)))
    · refine W.frame _ _ _ hst₂ fun b hb o e => ?_
      have hb' : b ≠ C ∧ b ≠ D := by
        rcases List.mem_cons.mp hb with rfl | hb
        · exact ⟨Ne.symm hJC, Ne.symm hJD⟩
        · rw [List.mem_singleton.mp hb]; exact ⟨hTC, hTD⟩
      exact hs₅.extBut b o hb'.2 (hs₃.extBut b o hb'.1 e)
    · refine hD₅.trans (congrArg some ((LCg.lst_snoc _ _).trans ?_))
      rw [List.take_add_one, hv, List.append_assoc]
      rfl
  · obtain rfl : i = us.length := Nat.le_antisymm hi (Nat.not_lt.mp hlt)
    refine W.done _ _ _ hst fun h₂ tk₂ hk₂ => ?_
    rw [List.take_length] at hd
    refine wpAny_pure (hR h₂ tk₂ m'' (fun b o hb e => hk₂ b o (by simpa using (by simpa using hb : b ≠ J ∧ b ≠ C ∧ b ≠ D).1) (hk b o hb e)) (hn.at' fun o e => hk₂ _ o (by simpa using hJC) e) (hk₂ _ _ (by simpa using hJD) hd))
theorem flat_outer (hh : A.handled = none) (hkind : scope.kind = .function) (hz : scope.names.lookup z = some .local) (hx : scope.names.lookup x = some .local) (hzd : (z == ("__debug__" : Str)) = false) (hxd : (x == ("__debug__" : Str)) = false) {I l D C : Addr} {vs : List Value} {rows : List (List Value)} {m' : Str → Option Value}
    (hlI : l ≠ I) (hlD : l ≠ D) (hlC : l ≠ C) (hDI : D ≠ I) (hCI : C ≠ I) (hCD : C ≠ D) (hlen : vs.length = rows.length) (hsz : rows.flatten.length ≤ 500)
    (hv : ∀ (i : Nat) v, vs[i]? = some v → ∃ T us, v = .ref T ∧ rows[i]? = some us ∧ s.heap.IsTuple T us.toArray ∧ T ≠ I ∧ T ≠ C ∧ T ≠ D)
    (hit : s.heap.IsListIter I l 0) (hl : s.heap.IsList l vs.toArray) (hC : s.heap.Ns C m') (hD : s.heap.get? D = some (LCg.lst []))
    (hR : ∀ h' tk m'', Kept [I, C, D] s.heap h' → h'.Ns C m'' → h'.get? D = some (LCg.lst rows.flatten) → R (.ok .next) { s with heap := h', toks := tk }) :
    codeAny (model prog w) A (.compLoop (flatE x z px pz pz' px' iter scope pos) 0 (.ref I) (.ref D) (compEnvC scope cl C env)) R s := by
  have W := Walks.list (prog := prog) (w := w) hh I l hlI vs.toArray
  rw [show vs.toArray.size = vs.length from List.size_toArray] at W
  refine codeAny_loop rfl (fun k s' => ∃ h' tk i m'', s' = { s with heap := h', toks := tk } ∧ i ≤ vs.length ∧ k = vs.length + 1 - i ∧ Kept [I, C, D] s.heap h' ∧ (h'.IsListIter I l i ∧ h'.IsList l vs.toArray) ∧ h'.Ns C m'' ∧ h'.get? D = some (LCg.lst (rows.take i).flatten)) (fun k s' hI => ?_) (vs.length + 1)
    ⟨s.heap, s.toks, 0, m', rfl, Nat.zero_le _, rfl, fun _ _ _ e => e, ⟨hit, hl⟩, hC, by simpa using hD⟩
  show wpAny _ A ((compTurn (flatE x z px pz pz' px' iter scope pos) 0 (.ref I) (.ref D) (compEnvC scope cl C env)).onRaise (fun x => do noteFrame x (compEnvC scope cl C env); theTreesLotGoes x)) _ _ s'
  refine wpAny_noted ?_
  rw [flat_turn0]
  obtain ⟨h', tk, i, m'', rfl, hi, rfl, hk, hst, hn, hd⟩ := hI
  refine wpAny_bind (wpAny_standAt (wpAny_bind ?_))
  by_cases hlt : i < vs.length
  · refine W.item i _ _ _ hlt hst fun v h₂ tk₂ hPv hst₂ hk₂ => ?_
    obtain ⟨T, us, rfl, hus, hT, t1, t2, t3⟩ := hv i v (by simpa using hPv)
    refine wpAny_bind (wpAny_of_eq rfl ?_)
    refine wpAny_bind (wpAny_assign_Name (wpAny_storeName_local (lookup_relabel_local hx) (hn.at' fun o e => hk₂ _ o (by simpa using hCI) e) (fun h₃ hn₃ hs₃ => ?_) (by simp [compEnvC, relabel, hkind])))
    refine wpAny_bind (wpAny_Name (wpAny_loadName_local (v := .ref T) (by simp [compEnvC, relabel, hkind]) (lookup_relabel_local hx) hn₃ (by simp) ?_) hxd)
    refine wpAny_bind (wpAny_standAt (wpAny_bind (wpAny_of_eq rfl (wpAny_bind (wpAny_holding ?_)))))
    have k3 : Kept [I, C, D] s.heap h₃ := fun b o hb e => by
      have h1 : b ≠ I ∧ b ≠ C ∧ b ≠ D := by simpa using hb
      exact hs₃.extBut b o h1.2.1 (hk₂ b o (by simpa using h1.1) (hk b o hb e))
    have hT₃ : h₃.IsTuple T us.toArray := by
      obtain ⟨o, e, r⟩ := hT
      exact ⟨o, k3 T o (by simpa using ⟨t1, t2, t3⟩) e, r⟩
    have hd₃ : h₃.get? D = some (LCg.lst (rows.take i).flatten) := hs₃.extBut _ _ (Ne.symm hCD) (hk₂ _ _ (by simpa using hDI) hd)
    have ltT : T < h₃.objs.size := by obtain ⟨o, e, _⟩ := hT₃; exact Heap.lt_size e
    have ltC : C < h₃.objs.size := hn₃.lt
    have ltD : D < h₃.objs.size := Heap.lt_size hd₃
    refine wpAny_pyIter_tuple hT₃ ?_
    refine wpAny_bind (wpAny_runOwn ?_)
    have up : ∀ b o, h₃.get? b = some o → (h₃.push { cls := .type "tuple_iterator", data := .fields #[.ref T, .int 0 0] }).get? b = some o := fun b o e => Heap.get?_push_of_some _ e
    have loop := flat_inner (A := A.mark none) (prog := prog) (w := w) (x := x) (z := z) (px := px) (pz := pz) (pz' := pz') (px' := px') (iter := iter) (scope := scope) (pos := pos) (cl := cl) (env := env) (J := h₃.objs.size) (T := T) (D := D) (C := C) (us := us) (ys := (rows.take i).flatten)
      (s := { s with heap := h₃.push { cls := .type "tuple_iterator", data := .fields #[.ref T, .int 0 0] }, toks := tk₂ + 1 })
      (R := fun r s' => match r with
        | .ok f => wpAny (model prog w) A (again (.compLoop (flatE x z px pz pz' px' iter scope pos) 0 (.ref I) (.ref D) (compEnvC scope cl C env))) (fun fin s' => match fin with | .done f => R (.ok f) s' | .again c' => c' = .compLoop (flatE x z px pz pz' px' iter scope pos) 0 (.ref I) (.ref D) (compEnvC scope cl C env) ∧ ∃ m, m < vs.length + 1 - i ∧ (∃ h' tk i m'', s' = { s with heap := h', toks := tk } ∧ i ≤ vs.length ∧ m = vs.length + 1 - i ∧ Kept [I, C, D] s.heap h' ∧ (h'.IsListIter I l i ∧ h'.IsList l vs.toArray) ∧ h'.Ns C m'' ∧ h'.get? D = some (LCg.lst (rows.take i).flatten))) (notedBy (model prog w) A (compEnvC scope cl C env) fun e s' => R (.error e) s') s'
        | .error e => cameBackBy (model prog w) A (compEnvC scope cl C env) (notedBy (model prog w) A (compEnvC scope cl C env) fun e s' => R (.error e) s') e s')
      hh hkind hz hzd (Nat.ne_of_lt ltT) (Nat.ne_of_lt ltD) (Nat.ne_of_lt ltC) t3 t2 hCD ?_ ⟨_, Heap.get?_push_size _ rfl, rfl, rfl⟩ (by obtain ⟨o, e, r⟩ := hT₃; exact ⟨o, up _ _ e, r⟩) (hn₃.at' fun o e => up _ _ e) (up _ _ hd₃) ?_
    · exact flat_start1 loop (wpAny_pyIter_tupleiter (t := T) (i := 0) ⟨_, Heap.get?_push_size _ rfl, rfl, rfl⟩ loop)
    · have e1 : rows.flatten = (rows.take i).flatten ++ us ++ (rows.drop (i + 1)).flatten := by
        conv => lhs; rw [← List.take_append_drop (i + 1) rows]
        rw [List.take_add_one, hus]
        simp
      rw [e1] at hsz
      simp only [List.length_append] at hsz
      omega
    · intro h₅ tk₅ m₅ k5 n5 d5
      have go : ∀ b o, b ≠ C → b ≠ D → h₃.get? b = some o → h₅.get? b = some o := fun b o hc hd e => k5 b o (by simpa using ⟨Nat.ne_of_lt (Heap.lt_size e), hc, hd⟩) (up b o e)
      refine wpAny_pure ⟨rfl, vs.length + 1 - (i + 1), by omega, h₅, tk₅, i + 1, m₅, rfl, hlt, rfl, ?_, ?_, n5, ?_⟩
      · intro b o hb e
        have h1 : b ≠ I ∧ b ≠ C ∧ b ≠ D := by simpa using hb
        exact go b o h1.2.1 h1.2.2 (k3 b o hb e)
      · refine W.frame _ _ _ hst₂ fun b hb o e => ?_
        have hb' : b ≠ C ∧ b ≠ D := by
          rcases List.mem_cons.mp hb with rfl | hb
          · exact ⟨Ne.symm hCI, Ne.symm hDI⟩
          · rw [List.mem_singleton.mp hb]; exact ⟨hlC, hlD⟩
        exact go b o hb'.1 hb'.2 (hs₃.extBut b o hb'.1 e)
      · rw [List.take_add_one, hus]
        simpa using d5
  · obtain rfl : i = vs.length := Nat.le_antisymm hi (Nat.not_lt.mp hlt)
    refine W.done _ _ _ hst fun h₂ tk₂ hk₂ => ?_
    rw [hlen, List.take_length] at hd
    refine wpAny_pure (hR h₂ tk₂ m'' (fun b o hb e => hk₂ b o (by simpa using (by simpa using hb : b ≠ I ∧ b ≠ C ∧ b ≠ D).1) (hk b o hb e)) (hn.at' fun o e => hk₂ _ o (by simpa using hCI) e) (hk₂ _ _ (by simpa using hDI) hd))
theorem lts {h : Heap} {a : Addr} {o : Obj} (e : h.get? a = some o) : @LT.lt Nat _ a h.objs.size := Heap.lt_size e
theorem nea {a b : Nat} (h : ¬ a = b) : @Ne Addr a b := h
/-- what the comprehension's source must be -/
def FlatSrc (h₀ : Heap) (L : Addr) (m : Str → Option Value) (Λ : Ldg) (y : Str) (rows : List (List Value)) (Q : Flow → Shared → Prop) (xv : Value) (s₁ : Shared) : Prop :=
  ∃ l vs ep, xv = .ref l ∧ Fr h₀ L s₁.heap m ∧ News h₀ L s₁.heap Λ ∧ (l, listObj vs ep) ∈ Λ ∧ vs.length = rows.length ∧ (∀ (i : Nat) v, vs[i]? = some v → ∃ T us, v = .ref T ∧ rows[i]? = some us ∧ (T, tupObj us) ∈ Λ) ∧
    ∀ D h tk, Fr h₀ L h (fun z => if z = y then some (.ref D) else m z) → News h₀ L h ((D, LCg.lst rows.flatten) :: Λ) → (∀ p ∈ Λ, p.1 < D) → Q .next { s₁ with heap := h, toks := tk }
theorem Assign_flat {E : Value → Shared → Prop} {h₀ : Heap} {L : Addr} {m : Str → Option Value} {Λ : Ldg} {y : Str} {py spos : Pos} {rows : List (List Value)} {Q : Flow → Shared → Prop} (_F₀ : Fr h₀ L s.heap m) (hh : A.handled = none) (hLe : env.locals = L)
    (hsw : swapsWith (flatE x z px pz pz' px' iter scope pos) (some (.Name y py)) spos.line env = pure true)
    (hclos : closureFor scope env = pure cl) (hcell : ∀ z ∈ scope.names, z.2 ≠ .cell) (hkind : scope.kind = .function)
    (hnames : ∀ z ∈ scope.names, z.2 = .local → scope.names.lookup z.1 = some .local) (hx : scope.names.lookup x = some .local) (hz : scope.names.lookup z = some .local) (hzd : (z == ("__debug__" : Str)) = false) (hxd : (x == ("__debug__" : Str)) = false)
    (hy : env.kindOf y = some .local) (hp : (env.scope.kind == .class || (env.scope.kind == .module && env.locals != env.globals)) = false) (hsz : rows.flatten.length ≤ 500)
    (h : wpAny (model prog w) A (eval iter env) (FlatSrc h₀ L m Λ y rows Q) E s)
    (hs : ∀ x, foldedSetIterable iter env x = pure x := by intro _; rfl) :
    wpAny (model prog w) A (exec (.Assign [.Name y py] (flatE x z px pz pz' px' iter scope pos) spos) env) Q E s := by
  subst hLe
  rw [exec_Assign_Name_used _ _ _ _ hsw]
  refine wpAny_bind (wpAny_standAt (wpAny_bind ?_))
  show wpAny _ A (do let _ ← comprehension (flatE x z px pz pz' px' iter scope pos) scope env _ (newList []) false (eval iter env) (some (assign (.Name y py) env))) _ _ s
  refine wpAny_bind (wpAny_mono (wpAny_comprehension_free (use := some (assign (.Name y py) env)) (Q := fun _ s' => Q .next s') rfl hs hclos hkind hnames
    (wpAny_mono h (fun xv s₁ h₁ => ?_) fun _ _ e => e)) (fun _ s' hq => wpAny_pure (wpAny_pure hq)) fun _ _ e => e)
  obtain ⟨l, vs, ep, rfl, F, N, hl, hlen, hrows, fin⟩ := h₁
  have hls : s₁.heap.IsList l vs.toArray := ⟨_, (N _ hl).1, rfl, ep, rfl⟩
  have hlt := lts (N _ hl).1
  refine wpAny_pyIter_list hls ?_
  refine wpAny_newObj_type (wpAny_newFunctionEnv hcell (by intro y hy; simp at hy) (fun h₁ hns₁ hsb₁ => ?_) hkind)
  dsimp only at hns₁ hsb₁ ⊢
  generalize hH1 : s₁.heap.push { cls := .type "list_iterator", data := .fields #[.ref l, .int 0 0] } = H1 at hns₁ hsb₁ ⊢
  generalize hH2 : H1.push { cls := .type "list", dict := none, data := .seq ([] : List Value).toArray } = H2 at hns₁ hsb₁ ⊢
  have z1 : H1.objs.size = s₁.heap.objs.size + 1 := by rw [← hH1, Heap.size_push]
  have z2 : H2.objs.size = s₁.heap.objs.size + 1 + 1 := by rw [← hH2, Heap.size_push, z1]
  have old1 : ∀ b o, H1.get? b = some o → h₁.get? b = some o := fun b o e => hsb₁.extBut b o (nea (by have := lts e; omega)) (Heap.get?_push_of_some _ (hH2 ▸ Heap.get?_push_of_some _ e))
  have old : ∀ b o, s₁.heap.get? b = some o → h₁.get? b = some o := fun b o e => old1 b o (hH1 ▸ Heap.get?_push_of_some _ e)
  have hacc : h₁.get? H1.objs.size = some (LCg.lst []) := hsb₁.extBut _ _ (nea (by omega)) (Heap.get?_push_of_some _ (hH2 ▸ Heap.get?_push_size _ rfl))
  have hiter : h₁.IsListIter s₁.heap.objs.size l 0 := ⟨_, old1 _ _ (hH1 ▸ Heap.get?_push_size _ rfl), rfl, rfl⟩
  have F1 := F.keeps old
  have N1 := N.grown old
  have ltL : @LT.lt Nat _ env.locals s₁.heap.objs.size := F.ns.lt
  have nw : ∀ a, s₁.heap.objs.size ≤ a → h₀.get? a = none := fun a ha => Heap.get?_none_of_le (Nat.le_trans F.above (Nat.le_trans (Nat.le_of_lt ltL) ha))
  have loop : ∀ s₃ : Shared, s₃ = { s₁ with heap := h₁, toks := s₁.toks + ([] : List (Str × Value)).length } →
      codeAny (model prog w) A (.compLoop (flatE x z px pz pz' px' iter scope pos) 0 (.ref s₁.heap.objs.size) (.ref H1.objs.size) (compEnvC scope cl H2.objs.size env))
        (compPost (model prog w) A E (some (assign (.Name y py) env)) (fun _ s' => Q .next s') (.ref H1.objs.size) H2.objs.size) s₃ := by
    rintro s₃ rfl
    refine flat_outer hh hkind hz hx hzd hxd (l := l) (vs := vs) (rows := rows) (nea (by omega)) (nea (by omega)) (nea (by omega)) (nea (by omega)) (nea (by omega)) (nea (by omega)) hlen hsz ?_ hiter (hls.at fun o e => old _ _ e) hns₁ hacc ?_
    · intro i v hv
      obtain ⟨T, us, e1, e2, e3⟩ := hrows i v hv
      have := lts (N _ e3).1
      exact ⟨T, us, e1, e2, ⟨_, (N1 _ e3).1, rfl, 0, rfl⟩, nea (by omega), nea (by omega), nea (by omega)⟩
    · intro h' tk m'' k n d
      have k' : ∀ b o, s₁.heap.get? b = some o → h'.get? b = some o := fun b o e => k b o (by have := lts e; simp only [List.mem_cons, List.not_mem_nil, or_false, not_or]; exact ⟨nea (by omega), nea (by omega), nea (by omega)⟩) (old b o e)
      show wpAny _ A (assign (.Name y py) env (.ref H1.objs.size)) _ _ _
      refine wpAny_assign_Name (wpAny_storeName_local hy (F.keeps k').ns (fun h₂ hn₂ hs₂ => ?_) hp)
      have hL₀ : h₀.get? env.locals = none := Heap.get?_none_of_le F.above
      have F₂ : Fr h₀ env.locals h₂ (fun z => if z = y then some (.ref H1.objs.size) else m z) := ⟨hn₂, fun b o e => hs₂.extBut b o (fun q => by rw [q, hL₀] at e; cases e) ((F.keeps k').keep b o e), F.above⟩
      have nCL : H2.objs.size ≠ env.locals := nea (by omega)
      refine ⟨m'', n.sameBut hs₂ nCL, fun h'' hs'' => fin _ h'' _ (F₂.change hs'' nCL (nw _ (by omega))) (fun p hp => ?_) fun p hp => ?_⟩
      · have z : h₂.get? p.1 = some p.2 ∧ p.1 ≠ H2.objs.size ∧ p.1 ≠ env.locals ∧ h₀.get? p.1 = none := by
          rcases List.mem_cons.mp hp with rfl | hp
          · exact ⟨hs₂.extBut _ _ (nea (by show ¬ H1.objs.size = _; omega)) d, nea (by show ¬ H1.objs.size = _; omega), nea (by show ¬ H1.objs.size = _; omega), nw _ (by show _ ≤ H1.objs.size; omega)⟩
          · have := lts (N p hp).1
            exact ⟨hs₂.extBut _ _ (N p hp).2.1 (k' _ _ (N p hp).1), nea (by omega), (N p hp).2⟩
        exact ⟨hs''.extBut _ _ z.2.1 z.1, z.2.2⟩
      · have := lts (N p hp).1
        show @LT.lt Nat _ p.1 H1.objs.size
        omega
  refine codeAny_compStart_list (loop _ rfl) (wpAny_pyIter_listiter hiter (loop _ rfl))
end
end Mine
namespace Mine
open PySem PySem.Calls PySem.W PyProof.Rows PySem.Flt PySem.Builtin PySem.Builtin.ObjectAttr
theorem strs_at {vs : List Value} {xs : List Str} (h : StrsAre vs xs) : ∀ (i : Nat) (x : Str), xs[i]? = some x → ∃ t, vs[i]? = some (.str x t) := by
  induction h with
  | nil => intro i x e; cases e
  | cons y t _ ih =>
    intro i x e
    cases i with
    | zero => simp at e; subst e; exact ⟨t, rfl⟩
    | succ i => simpa using ih i x (by simpa using e)
theorem strs_len {vs : List Value} {xs : List Str} (h : StrsAre vs xs) : vs.length = xs.length := by
  induction h with
  | nil => rfl
  | cons y t _ ih => simp [ih]
theorem ne_news {h₀ h : Heap} {L : Addr} {Λ : Ldg} {x q : Addr × Obj} (_ : News h₀ L h (x :: Λ)) (l : ∀ q ∈ Λ, q.1 < x.1) (hq : q ∈ Λ) : x.1 ≠ q.1 := Nat.ne_of_gt (l q hq)
/-- a statement kept from being run -/
structure Box (P : Prop) : Prop where
  out : P
/-- where the law's body stands -/
structure At (w : World) (p : Program) (loose : List Str) (mean : ExcName → Option Value) (mg mb : Str → Option Value) (dp un : Nat) (L : Addr) (outer : List Env) (A₀ : Around) (base g : Heap) (h : Heap) (m : Str → Option Value) (Λ : Ldg) : Prop where
  B : Below A₀ base outer g
  F : Fr g L h m
  X : (Mine.hd.heap_39 w.params).In g
  N : News g L h Λ
  T : Top p loose mean mg mb g
  hC : ∀ q ∈ (G1 w p loose mean mg mb).tabs, CodeHd base q.1 q.2
  tab : TabOk (G1 w p loose mean mg mb).sp Λ
  hd : dp + 50 < recursionLimit
  hu : un + 250 < cLine
/-- how the law's body ends -/
def Fini (sp : List (Addr × Str)) (g : Heap) (L : Addr) (gs : Array GenState) (os : OsState) (fl : Flow) (s' : Shared) : Prop :=
  fl = .ret (.bool true) ∧ s'.gens = gs ∧ s'.os = os ∧ ∃ m' Λ', Fr g L s'.heap m' ∧ News g L s'.heap Λ' ∧ TabOk sp Λ'
/-- the four pairs, as they lie -/
def Pairs4 (Λ : Ldg) (l : Addr) : Prop := ∃ T1 T2 T3 T4 t1 t2 t3 t4 t5 t6 t7 t8, (l, listObj [.ref T1, .ref T2, .ref T3, .ref T4] 0) ∈ Λ ∧ (T1, tupObj [.str (Str.ofString "aba") t1, .str (Str.ofString "D") t2]) ∈ Λ ∧ (T2, tupObj [.str (Str.ofString "bab") t3, .str (Str.ofString "D") t4]) ∈ Λ ∧ (T3, tupObj [.str (Str.ofString "aD") t5, .str (Str.ofString "Db") t6]) ∈ Λ ∧ (T4, tupObj [.str (Str.ofString "bD") t7, .str (Str.ofString "Da") t8]) ∈ Λ
theorem pairs_of {h₀ h : Heap} {L l T1 T2 T3 T4 : Addr} {t1 t2 t3 t4 t5 t6 t7 t8 : Tok} {Λ : Ldg} (N : News h₀ L h ((l, listObj [.ref T1, .ref T2, .ref T3, .ref T4] 0) :: (T4, tupObj [.str (Str.ofString "bD") t7, .str (Str.ofString "Da") t8]) :: (T3, tupObj [.str (Str.ofString "aD") t5, .str (Str.ofString "Db") t6]) :: (T2, tupObj [.str (Str.ofString "bab") t3, .str (Str.ofString "D") t4]) :: (T1, tupObj [.str (Str.ofString "aba") t1, .str (Str.ofString "D") t2]) :: Λ)) :
    ∃ Λ', News h₀ L h Λ' ∧ (∀ p ∈ Λ, p ∈ Λ') ∧ Pairs4 Λ' l :=
  ⟨_, N, fun _ h => .tail _ (.tail _ (.tail _ (.tail _ (.tail _ h)))), T1, T2, T3, T4, t1, t2, t3, t4, t5, t6, t7, t8, .head _, .tail _ (.tail _ (.tail _ (.tail _ (.head _)))), .tail _ (.tail _ (.tail _ (.head _))), .tail _ (.tail _ (.head _)), .tail _ (.head _)⟩
theorem Pairs4.pairs {Λ : Ldg} {l : Addr} (x : Pairs4 Λ l) : IsPairs Λ l ps4 := by
  obtain ⟨T1, T2, T3, T4, t1, t2, t3, t4, t5, t6, t7, t8, h0, h1, h2, h3, h4⟩ := x
  refine ⟨_, _, h0, rfl, ?_⟩
  intro k q hq
  match k, hq with
  | 0, rfl => exact ⟨_, _, _, rfl, h1⟩
  | 1, rfl => exact ⟨_, _, _, rfl, h2⟩
  | 2, rfl => exact ⟨_, _, _, rfl, h3⟩
  | 3, rfl => exact ⟨_, _, _, rfl, h4⟩
theorem Pairs4.mono {Λ Λ' : Ldg} {l : Addr} (x : Pairs4 Λ l) (hs : ∀ p ∈ Λ, NT p.2 → NI p.2 → p ∈ Λ') : Pairs4 Λ' l := by
  obtain ⟨T1, T2, T3, T4, t1, t2, t3, t4, t5, t6, t7, t8, h0, h1, h2, h3, h4⟩ := x
  exact ⟨T1, T2, T3, T4, t1, t2, t3, t4, t5, t6, t7, t8, hs _ h0 (.of_cls (by nofun)) (.of_data (by nofun)), hs _ h1 (.of_cls (by nofun)) (.of_data (by nofun)), hs _ h2 (.of_cls (by nofun)) (.of_data (by nofun)), hs _ h3 (.of_cls (by nofun)) (.of_data (by nofun)), hs _ h4 (.of_cls (by nofun)) (.of_data (by nofun))⟩
/-- each pair in turn: the pieces that the finds make are what replace makes -/
def ChainOk : Str → List (Str × Str) → Prop
  | _, [] => True
  | x, q :: qs => x.length ≤ 8 ∧ RepOk x [q] ∧ pcGo x q.2 (fun j => nextOf x j [q]) (x.length + 1) (Str.ofString "") x.length x.length = repl1 x q ∧ ChainOk (repl1 x q) qs
abbrev homeOf (x : Str) : Str := homeGo (2 * x.length) x
abbrev prodOf (x : Str) : Quad := prodTo x x.cps.size
/-- what is to be known of the words, plainly -/
structure Facts (good : Str → Prop) : Prop where
  g8 : ∀ x, good x → x.length = 8
  gm : ∀ x i k, good x → 0 ≤ i → i < 6 → good (movedF x i k)
  w0 : ∀ ns : List Int, ns.length = 8 → good (Txt.join (Str.ofString "") (ns.map fun a => Txt.item (Str.ofString "ab") (a.fmod 2)))
  ga : ∀ x, good x → x.cps.all (· < 128) = true
  ch : ∀ x, good x → ChainOk x ps4
  rep : ∀ x, good x → RepOk x ps4
  hm : ∀ x, good x → HomeOk (2 * x.length) x
  hl : ∀ x, good x → (homeOf x).length ≤ 8
  ha : ∀ x, good x → (homeOf x).cps.all (· < 128) = true
  pr : ∀ x, good x → prodOf (homeOf x) = prodOf x
  inn : ∀ x, good x → ∀ y ∈ [Str.ofString "D", Str.ofString "aba", Str.ofString "bab"], (Builtin.Str.occurrences (Txt.lstripChars (homeOf x) (Str.ofString "D")) y 0 (Txt.lstripChars (homeOf x) (Str.ofString "D")).length 1).isEmpty = true
  r8 : ∀ x, good x → 3 * (((homeOf x).length : Int) - ((Txt.lstripChars (homeOf x) (Str.ofString "D")).length : Int)) + ((Txt.lstripChars (homeOf x) (Str.ofString "D")).length : Int) = 8
  rl : ∀ x, good x → (Txt.lstripChars (homeOf x) (Str.ofString "D")).length ≤ 8
  ff : ∀ x, good x → FFOk ps4 (2 * x.length) x
  fh : ∀ x, good x → ffGo ps4 (2 * x.length) x = homeOf x
  iff : ∀ x y, good x → good y → (homeOf x == homeOf y) = (prodOf x == prodOf y)
end Mine
namespace Mine
open PySem PySem.Calls PySem.W PyProof.Rows PySem.Flt PySem.Builtin PySem.Builtin.ObjectAttr
theorem offLW1 : True := by w_top off; trivial
theorem fillW : PySem.Challenge.rw_ph0008_01.prog = PySem.Challenge.rw_ph0008_01.prog ∧ Mine.hd.heap_39 = Mine.hd.heap_39 := by k_fill; exact ⟨rfl, rfl⟩
local macro_rules | `(tactic| walk_at "exec For") => `(tactic| refine hold_in ?_)
local macro_rules | `(tactic| walk_at "call ref") => `(tactic| refine hold_in ?_)
def Quads (Λ : Ldg) (pv : List Value) (zs : List Quad) : Prop := pv.length = zs.length ∧ ∀ (k : Nat) z, zs[k]? = some z → ∃ v, pv[k]? = some v ∧ IsQuad Λ v z
theorem IsQuad.mono {Λ Λ' : Ldg} {v : Value} {z : Quad} (x : IsQuad Λ v z) (hs : ∀ T us, (T, tupObj us) ∈ Λ → (T, tupObj us) ∈ Λ') : IsQuad Λ' v z := by
  obtain ⟨T, t1, t2, t3, t4, e, h⟩ := x
  exact ⟨T, t1, t2, t3, t4, e, hs _ _ h⟩
theorem Quads.mono {Λ Λ' : Ldg} {pv : List Value} {zs : List Quad} (x : Quads Λ pv zs) (hs : ∀ T us, (T, tupObj us) ∈ Λ → (T, tupObj us) ∈ Λ') : Quads Λ' pv zs :=
  ⟨x.1, fun k z e => let ⟨v, e1, e2⟩ := x.2 k z e; ⟨v, e1, e2.mono hs⟩⟩
theorem law_s5 (w p loose mean mg mb) {oc od osl name qual params body scope dV kV doc pm an cdv0 ct} (ho : (Mine.hd.heap_39 w.params).lookup 89 = some ⟨oc, od, .func (fnOf name qual params body scope dV kV doc pm an cdv0 ct), osl⟩)
    (dp un : Nat) (gd : Option (List Code)) (L fa : Addr) (cd : Value) (cl : List (Str × Addr)) (outer : List Env) (A₀ : Around) (base g : Heap) (m : Str → Option Value) (Λ : Ldg) (s : Shared) (E : Value → Shared → Prop)
    (at0 : At w p loose mean mg mb dp un L outer A₀ base g s.heap m Λ)
    (good : Str → Prop) (FA : Facts good)
    (W : Addr) (vs : List Value) (ep : Nat) (ws : List Str) (hW : (W, listObj vs ep) ∈ Λ) (hmW : m "words" = some (.ref W)) (hS : StrsAre vs ws) (hn : ws.length = 6) (hgw : ∀ x ∈ ws, good x)
    (pl : Addr) (hmp : m "pairs" = some (.ref pl)) (hpl : Pairs4 Λ pl)
    (Ha Pa : Addr) (hv : List Value) (he : Nat) (pv : List Value) (pe : Nat) (hmH : m "homes" = some (.ref Ha)) (hmP : m "products" = some (.ref Pa)) (hH : (Ha, listObj hv he) ∈ Λ) (hP : (Pa, listObj pv pe) ∈ Λ) (hHs : StrsAre hv (ws.map homeOf)) (hPs : Quads Λ pv (ws.map prodOf)) :
    wpAny (model PySem.Challenge.rw_ph0008_01.prog w) (ktrTop dp un gd "law" scope L fa cd cl outer) (execs (body.drop 10) (envX "law" scope L fa cd cl)) (Fini (G1 w p loose mean mg mb).sp g L s.gens s.os) E s := by
  rw [show (Mine.hd.heap_39 w.params).lookup 89 = some ⟨_, _, .func (fnOf _ _ _ _ _ _ _ _ _ _ _ _), _⟩ from rfl] at ho
  cases ho
  have hg8 := FA.g8
  have hff := FA.ff
  have hfh := FA.fh
  have hiff := FA.iff
  obtain ⟨B, F, X, N, T, hC, tab, hd, hu⟩ := at0
  replace F := fr_says [("words", .ref W), ("pairs", .ref pl), ("homes", .ref Ha), ("products", .ref Pa)] F (by simp [hmW, hmp, hmH, hmP])
  dsimp only [List.drop]
  refine execs_take 1 ?_
  dsimp only [List.take, List.drop]
  refine wpAny_execs_cons ?_
  refine wpAny_For ?_
  k_steps
  rename Fr _ _ _ _ => F1; rename News _ _ _ _ => N1
  rename IsRange _ _ _ _ _ _ _ _ => hr
  replace hr : IsRange _ _ 0 ((6 : Nat) : Int) 1 _ _ _ := hr
  have FR : ∀ m : Str → Option Value, (m "words" = some (.ref W) ∧ m "pairs" = some (.ref pl) ∧ m "homes" = some (.ref Ha) ∧ m "products" = some (.ref Pa)) → ∀ p ∈ ([("words", .ref W), ("pairs", .ref pl), ("homes", .ref Ha), ("products", .ref Pa)] : List (Str × Value)), m p.1 = some p.2 := by
    rintro m ⟨a, b, c, d⟩
    simp [a, b, c, d]
  refine iter_rangeK (fun f s' h => h) rfl F1 N1 tab [] (fun _ h => nomatch h) hr (by decide) (fun _ _ => go_name) (fun i m Λ' => m "words" = some (.ref W) ∧ m "pairs" = some (.ref pl) ∧ m "homes" = some (.ref Ha) ∧ m "products" = some (.ref Pa)) (fun _ _ _ _ _ h => h) ⟨rfl, rfl, rfl, rfl⟩ ?_ ?_
  · rintro i v m₁ Λ₁ s₁ E' ⟨h1, tk1, rfl⟩ hi ⟨tv, rfl⟩ hm hT hsub F2 N2
    replace F2 := fr_says _ F2 (FR _ hm)
    k_steps
    refine hold_out ?_
    refine wpAny_For ?_
    k_steps
    rename Fr _ _ _ _ => F3; rename News _ _ _ _ => N3
    rename IsRange _ _ _ _ _ _ _ _ => hr2
    refine iter_rangeK (fun f s' h => h) rfl F3 N3 hT [] (fun _ h => nomatch h) hr2 (by omega) (fun _ _ => go_name) (fun j m Λ' => (m "words" = some (.ref W) ∧ m "pairs" = some (.ref pl) ∧ m "homes" = some (.ref Ha) ∧ m "products" = some (.ref Pa)) ∧ m "i" = some (.int i tv)) (fun _ _ _ _ _ h => h) ⟨⟨rfl, rfl, rfl, rfl⟩, rfl⟩ ?_ ?_
    · rintro j v m₂ Λ₂ s₂ E'' ⟨h2, tk2, rfl⟩ hj ⟨tj, rfl⟩ ⟨hm2, hmi⟩ hT2 hsub2 F4 N4
      replace F4 := fr_says [("words", .ref W), ("pairs", .ref pl), ("homes", .ref Ha), ("products", .ref Pa), ("i", .int i tv)] F4 (by simp [hm2, hmi])
      have K2 : Keep [] Λ Λ₂ := hsub.trans hsub2
      have up : ∀ p ∈ Λ, NT p.2 → p ∈ Λ₂ := fun p h k => K2 p h k (fun h => nomatch h)
      have hH2 := up _ hH (.of_cls (by nofun))
      have hP2 := up _ hP (.of_cls (by nofun))
      have hPs2 := hPs.mono fun T us h => up _ h (.of_cls (by nofun))
      obtain ⟨x, hx⟩ : ∃ x, ws[i]? = some x := ⟨ws[i]'(by omega), by simp⟩
      obtain ⟨y, hy⟩ : ∃ y, ws[j]? = some y := ⟨ws[j]'(by omega), by simp⟩
      obtain ⟨tx, hvx⟩ := strs_at hHs i (homeOf x) (by rw [List.getElem?_map, hx]; rfl)
      obtain ⟨ty, hvy⟩ := strs_at hHs j (homeOf y) (by rw [List.getElem?_map, hy]; rfl)
      obtain ⟨vx, pvx, Tx, x1, x2, x3, x4, rfl, hTx⟩ := hPs2.2 i (prodOf x) (by rw [List.getElem?_map, hx]; rfl)
      obtain ⟨vy, pvy, Ty, y1, y2, y3, y4, rfl, hTy⟩ := hPs2.2 j (prodOf y) (by rw [List.getElem?_map, hy]; rfl)
      have hiff' := hiff x y (hgw x (List.mem_of_getElem? hx)) (hgw y (List.mem_of_getElem? hy))
      k_steps
      rename Fr _ _ _ _ => F5; rename News _ _ _ _ => N5
      refine kim_list N5 hH2 rfl rfl (by omega) (by omega) (x := .str (homeOf x) tx) (by simpa using hvx) ?_
      k_steps
      refine kim_list N5 hH2 rfl rfl (by omega) (by omega) (x := .str (homeOf y) ty) (by simpa using hvy) ?_
      k_steps
      refine kim_list N5 hP2 rfl rfl (by omega) (by omega) (x := .ref Tx) (by simpa using pvx) ?_
      k_steps
      refine kim_list N5 hP2 rfl rfl (by omega) (by omega) (x := .ref Ty) (by simpa using pvy) ?_
      k_steps
      · rename (_ = true) => hb
        replace hb : ((homeOf x == homeOf y) != (prodOf x == prodOf y)) = true := hb
        rw [hiff'] at hb
        simp at hb
      · exact TurnEndK.next (by k_asm) (by k_asm) hT2 .refl ⟨⟨rfl, rfl, rfl, rfl⟩, rfl⟩
    · intro m' Λ' h' tk F4 N4 T4 S4 hm4
      k_steps
      exact TurnEndK.next F4 N4 T4 S4 hm4.1
  · intro m' Λ' h' tk F2 N2 T2 S3 hm
    replace F2 := fr_says _ F2 (FR _ hm)
    refine wpAny_execs_nil ?_
    show Hold _
    refine hold_out ?_
    have K2 : Keep [] Λ Λ' := S3
    have up : ∀ p ∈ Λ, NT p.2 → p ∈ Λ' := fun p h k => K2 p h k (fun h => nomatch h)
    have hW2 := up _ hW (.of_cls (by nofun))
    have hH2 := up _ hH (.of_cls (by nofun))
    have hvl := strs_len hS
    have hhl := strs_len hHs
    rw [List.length_map] at hhl
    obtain ⟨x, hx⟩ : ∃ x, ws[5]? = some x := ⟨ws[5]'(by omega), by simp⟩
    obtain ⟨tx, hvx⟩ := strs_at hS 5 x hx
    obtain ⟨ty, hvy⟩ := strs_at hHs 5 (homeOf x) (by rw [List.getElem?_map, hx]; rfl)
    have gx := hgw x (List.mem_of_getElem? hx)
    have hpl2 := hpl.mono fun p h k _ => up p h k
    k_steps
    rename Fr _ _ _ _ => F3; rename News _ _ _ _ => N3
    refine kim_back N3 hW2 rfl rfl (by decide) (by omega) (by decide) (x := .str x tx) (by rw [show ((-1 : Int) + (vs.length : Int)).toNat = 5 by omega]; exact hvx) ?_
    k_steps
    refine hold_out ?_
    refine law_find_by_find w p loose mean mg mb x tx pl ps4 (by decide) (by rw [hg8 x gx]; omega) (hff x gx) _ _ _ _ _ _ _ _ _ _ ⟨⟨gd, _, _, _, _, _, outer, A₀, base, rfl, B, rfl, hC⟩, F3, X, N3, T, T2⟩ hpl2.pairs (by omega) (by omega) ?_
    rintro v6 Λ6 h6 tk6 c6 S6 ⟨t9, rfl⟩
    rw [hfh x gx]
    have F6 := c6.F
    have N6 := c6.N
    have T6 := c6.tab
    have hH6 := S6.keep _ hH2 (.of_cls (by nofun))
    clear c6 F3 N3
    k_steps
    refine kim_back N6 hH6 rfl rfl (by decide) (by omega) (by decide) (x := .str (homeOf x) ty) (by rw [show ((-1 : Int) + (hv.length : Int)).toNat = 5 by omega]; exact hvy) ?_
    k_steps
    exact ⟨by simp, rfl, rfl, _, _, F6, N6, T6⟩
end Mine
namespace Mine
open PySem PySem.Calls PySem.W PyProof.Rows PySem.Flt PySem.Builtin PySem.Builtin.ObjectAttr
theorem offLV1 : True := by w_top off; trivial
theorem fillV : PySem.Challenge.rw_ph0008_01.prog = PySem.Challenge.rw_ph0008_01.prog ∧ Mine.hd.heap_39 = Mine.hd.heap_39 := by k_fill; exact ⟨rfl, rfl⟩
local macro_rules | `(tactic| walk_at "exec For") => `(tactic| refine hold_in ?_)
local macro_rules | `(tactic| walk_at "call ref") => `(tactic| refine hold_in ?_)
theorem Quads.snoc {Λ : Ldg} {pv : List Value} {zs : List Quad} {v : Value} {z : Quad} (x : Quads Λ pv zs) (h : IsQuad Λ v z) : Quads Λ (pv ++ [v]) (zs ++ [z]) := by
  refine ⟨by simp [x.1], fun k z' e => ?_⟩
  rcases Nat.lt_or_ge k zs.length with hk | hk
  · rw [List.getElem?_append_left hk] at e
    obtain ⟨v', e1, e2⟩ := x.2 k z' e
    exact ⟨v', by rw [List.getElem?_append_left (by rw [x.1]; exact hk)]; exact e1, e2⟩
  · rw [List.getElem?_append_right hk] at e
    have hk0 : k - zs.length = 0 := by
      rcases Nat.eq_zero_or_pos (k - zs.length) with h0 | h0
      · exact h0
      · rw [List.getElem?_eq_none (by simp only [List.length_singleton]; omega)] at e; cases e
    rw [hk0] at e
    simp at e
    subst e
    exact ⟨v, by rw [List.getElem?_append_right (by rw [x.1]; exact hk), x.1, hk0]; rfl, h⟩
theorem lists_of {h₀ h : Heap} {L a b c : Addr} {o : Obj} {m : Str → Option Value} {Λ : Ldg} {R : Prop} (N : News h₀ L h ((c, o) :: (b, listObj [] 0) :: (a, listObj [] 0) :: Λ)) (_ : Fr h₀ L h m) (l1 : ∀ p ∈ Λ, p.1 < a) (l2 : a < b ∧ R) (e1 : m "homes" = some (.ref a)) (e2 : m "products" = some (.ref b)) :
    ∃ Ha Pa Λ', m "homes" = some (.ref Ha) ∧ m "products" = some (.ref Pa) ∧ News h₀ L h Λ' ∧ (∀ p ∈ Λ, p ∈ Λ' ∧ p.1 ∉ [Ha, Pa]) ∧ (Ha, listObj [] 0) ∈ Λ' ∧ (Pa, listObj [] 0) ∈ Λ' ∧ Ha ≠ Pa :=
  ⟨a, b, _, e1, e2, N, fun p hp => ⟨.tail _ (.tail _ (.tail _ hp)), by
    have q := l1 p hp
    simp only [List.mem_cons, List.not_mem_nil, or_false, not_or]
    exact ⟨Nat.ne_of_lt q, Nat.ne_of_lt (Nat.lt_trans q l2.1)⟩⟩, .tail _ (.tail _ (.head _)), .tail _ (.head _), Nat.ne_of_lt l2.1⟩
theorem tup_off {h₀ h : Heap} {L a T : Addr} {us ys : List Value} {n : Nat} {Λ : Ldg} (N : News h₀ L h Λ) (ha : (a, listObj ys n) ∈ Λ) (hT : (T, tupObj us) ∈ Λ) : T ≠ a := by
  intro e
  subst e
  have := news_inj N ha hT
  have q : Value.type "list" = Value.type "tuple" := congrArg Obj.cls this
  exact absurd q (by decide)
theorem law_s4 (w p loose mean mg mb) {oc od osl name qual params body scope dV kV doc pm an cdv0 ct} (ho : (Mine.hd.heap_39 w.params).lookup 89 = some ⟨oc, od, .func (fnOf name qual params body scope dV kV doc pm an cdv0 ct), osl⟩)
    (dp un : Nat) (gd : Option (List Code)) (L fa : Addr) (cd : Value) (cl : List (Str × Addr)) (outer : List Env) (A₀ : Around) (base g : Heap) (m : Str → Option Value) (Λ : Ldg) (s : Shared) (E : Value → Shared → Prop)
    (at0 : At w p loose mean mg mb dp un L outer A₀ base g s.heap m Λ)
    (good : Str → Prop) (FA : Facts good)
    (W : Addr) (vs : List Value) (ep : Nat) (ws : List Str) (hW : (W, listObj vs ep) ∈ Λ) (hmW : m "words" = some (.ref W)) (hS : StrsAre vs ws) (hn : ws.length = 6) (hgw : ∀ x ∈ ws, good x)
    (pl fl : Addr) (hmp : m "pairs" = some (.ref pl)) (hmf : m "flat" = some (.ref fl)) (hpl : Pairs4 Λ pl) (hfl : IsFlat Λ fl) :
    wpAny (model PySem.Challenge.rw_ph0008_01.prog w) (ktrTop dp un gd "law" scope L fa cd cl outer) (execs (body.drop 8) (envX "law" scope L fa cd cl)) (Fini (G1 w p loose mean mg mb).sp g L s.gens s.os) E s := by
  rw [show (Mine.hd.heap_39 w.params).lookup 89 = some ⟨_, _, .func (fnOf _ _ _ _ _ _ _ _ _ _ _ _), _⟩ from rfl] at ho
  cases ho
  have hg8 := FA.g8
  have hga := FA.ga
  have hhm := FA.hm
  have hhl := FA.hl
  have hha := FA.ha
  have hpr := FA.pr
  have hin := FA.inn
  have hr8' := FA.r8
  have hrl := FA.rl
  obtain ⟨B, F, X, N, T, hC, tab, hd, hu⟩ := at0
  replace F := fr_says [("words", .ref W), ("pairs", .ref pl), ("flat", .ref fl)] F (by simp [hmW, hmp, hmf])
  dsimp only [List.drop]
  refine execs_take 1 ?_
  dsimp only [List.take, List.drop]
  k_steps
  show Hold _
  refine hold_out ?_
  rename Fr _ _ _ _ => F1; rename News _ _ _ _ => N1
  obtain ⟨Ha, Pa, Λ1, eH, eP, N1', in1, iH, iP, nHP⟩ := lists_of N1 F1 (by assumption) (by assumption) rfl rfl
  replace F1 := fr_says [("homes", .ref Ha), ("products", .ref Pa), ("words", .ref W), ("pairs", .ref pl), ("flat", .ref fl)] F1 (by simp only [List.mem_cons, List.not_mem_nil, or_false, forall_eq_or_imp, forall_eq]; exact ⟨eH, eP, rfl, rfl, rfl⟩)
  clear N1
  have tab1 := tab.sub fun p h => (in1 p h).1
  refine execs_take 1 ?_
  dsimp only [List.take, List.drop]
  refine wpAny_execs_cons ?_
  refine wpAny_For ?_
  k_steps
  have hvl := strs_len hS
  refine iter_listK (fun f s' h => h) rfl F1 N1' tab1 [Ha, Pa] ?_ (in1 _ hW).2 (in1 _ hW).1 (fun s' I i v Q' E' hi hv hq => wpAny_of_eq go_name hq) (fun i m Λ' => m "homes" = some (.ref Ha) ∧ m "products" = some (.ref Pa) ∧ m "words" = some (.ref W) ∧ m "pairs" = some (.ref pl) ∧ m "flat" = some (.ref fl) ∧ ∃ hv he pv pe, (Ha, listObj hv he) ∈ Λ' ∧ (Pa, listObj pv pe) ∈ Λ' ∧ StrsAre hv ((ws.take i).map homeOf) ∧ Quads Λ' pv ((ws.take i).map prodOf)) ?_ ?_ ?_ ?_
  · intro a ha
    rcases List.mem_cons.mp ha with rfl | ha
    · exact Heap.lt_size (N1' _ iH).1
    · rw [List.mem_singleton.mp ha]; exact Heap.lt_size (N1' _ iP).1
  · rintro i m Λ Λ' hs ⟨a1, a2, a3, a4, a5, hv, he, pv, pe, b1, b2, b3, b4⟩
    exact ⟨a1, a2, a3, a4, a5, hv, he, pv, pe, hs _ b1 (.of_data (by nofun)), hs _ b2 (.of_data (by nofun)), b3, b4.mono fun T us h => hs _ h (.of_data (by nofun))⟩
  · exact ⟨rfl, rfl, rfl, rfl, rfl, [], 0, [], 0, iH, iP, .nil, rfl, fun k z e => by cases e⟩
  · rintro i v m₁ Λ₁ s₁ E' ⟨h1, tk1, rfl⟩ hi hv ⟨a1, a2, a3, a4, a5, hv₁, he, pv, pe, b1, b2, b3, b4⟩ hT hsub F2 N2
    replace F2 := fr_says [("homes", .ref Ha), ("products", .ref Pa), ("words", .ref W), ("pairs", .ref pl), ("flat", .ref fl)] F2 (by simp [a1, a2, a3, a4, a5])
    obtain ⟨x, hx⟩ : ∃ x, ws[i]? = some x := ⟨ws[i]'(by omega), by simp [hvl ▸ hi]⟩
    obtain ⟨t, hvx⟩ := strs_at hS i x hx
    rw [hv] at hvx
    cases hvx
    have gx := hgw x (List.mem_of_getElem? hx)
    have hflat : IsFlat Λ₁ fl := by
      obtain ⟨u1, u2, u3, u4, u5, u6, u7, u8, fep, h⟩ := hfl
      exact ⟨u1, u2, u3, u4, u5, u6, u7, u8, fep, hsub _ (in1 _ h).1 (.of_cls (by nofun)) (in1 _ h).2⟩
    k_steps
    rename Fr _ _ _ _ => F3; rename News _ _ _ _ => N3
    refine hold_out ?_
    refine law_home w p loose mean mg mb x t fl (by rw [hg8 x gx]; omega) (hhm x gx) _ _ _ _ _ _ _ _ _ _ ⟨⟨gd, _, _, _, _, _, outer, A₀, base, rfl, B, rfl, hC⟩, F3, X, N3, T, hT⟩ hflat (by omega) (by omega) ?_
    rintro v4 Λ4 h4 tk4 c4 S4 ⟨t4, rfl⟩
    have F4 := c4.F
    have N4 := c4.N
    have tab4 := c4.tab
    clear c4 F3 N3
    k_steps
    rename Fr _ _ _ _ => F5; rename News _ _ _ _ => N5
    refine hold_out ?_
    refine law_product w p loose mean mg mb x t (by rw [hg8 x gx]; omega) (hga x gx) _ _ _ _ _ _ _ _ _ _ ⟨⟨gd, _, _, _, _, _, outer, A₀, base, rfl, B, rfl, hC⟩, F5, X, N5, T, tab4⟩ trivial (by omega) (by omega) ?_
    rintro v6 Λ6 h6 tk6 c6 S6 ⟨TP, q1, q2, q3, q4, rfl, hTP⟩
    have F6 := c6.F
    have N6 := c6.N
    have tab6 := c6.tab
    clear c6 F5 N5
    have hH8 : (homeGo (2 * x.length) x).length ≤ 8 := hhl x gx
    have hr8 : 3 * (((homeGo (2 * x.length) x).length : Int) - ((Txt.lstripChars (homeGo (2 * x.length) x) (Str.ofString "D")).length : Int)) + ((Txt.lstripChars (homeGo (2 * x.length) x) (Str.ofString "D")).length : Int) = 8 := hr8' x gx
    have hR8 : (Txt.lstripChars (homeGo (2 * x.length) x) (Str.ofString "D")).length ≤ 8 := hrl x gx
    k_steps
    · exfalso; omega
    rename Fr _ _ _ _ => F7; rename News _ _ _ _ => N7
    have S7 := stepN N7 (by assumption)
    refine hold_out ?_
    refine law_product w p loose mean mg mb (homeGo (2 * x.length) x) t4 hH8 (hha x gx) _ _ _ _ _ _ _ _ _ _ ⟨⟨gd, _, _, _, _, _, outer, A₀, base, rfl, B, rfl, hC⟩, F7, X, N7, T, tab6.sub fun _ h => .tail _ h⟩ trivial (by omega) (by omega) ?_
    rintro v8 Λ8 h8 tk8 c8 S8 ⟨TQ, r1, r2, r3, r4, rfl, hTQ⟩
    have F8 := c8.F
    have N8 := c8.N
    have tab8 := c8.tab
    clear c8 F7 N7
    have hTP8 := (S7.trans S8).keep _ hTP (.of_cls (by nofun))
    have hpq : prodTo (homeGo (2 * x.length) x) (homeGo (2 * x.length) x).cps.size = prodTo x x.cps.size := hpr x gx
    rw [hpq] at hTQ
    generalize hzz : prodTo x x.cps.size = zz at hTQ hTP8
    obtain ⟨z1, z2, z3, z4⟩ := zz
    dsimp only at hTQ hTP8
    have S48 := S4.trans (S6.trans (S7.trans S8))
    have b1' := S48.keep _ b1 (.of_cls (by nofun))
    have b2' := S48.keep _ b2 (.of_cls (by nofun))
    have b4' := b4.mono fun T us h => S48.keep _ h (.of_cls (by nofun))
    have hil : i < 6 := by omega
    have hhvl := strs_len b3
    rw [List.length_map, List.length_take] at hhvl
    have hpvl := b4.1
    rw [List.length_map, List.length_take] at hpvl
    have i1 := hin x gx (Str.ofString "D") (.head _)
    have i2 := hin x gx (Str.ofString "aba") (.tail _ (.head _))
    have i3 := hin x gx (Str.ofString "bab") (.tail _ (.tail _ (.head _)))
    k_steps
    refine append_led F8 N8 tab8 b1' (by omega) ?_
    intro h9 Λ9 F9 N9 tab9 K9 b1'' keep9
    have hTP9 := keep9 _ hTP8 (tup_off N8 b1' hTP8)
    have b2'' := keep9 _ b2' (Ne.symm nHP)
    have b4'' := b4'.mono fun T us h => keep9 _ h (tup_off N8 b1' h)
    k_steps
    refine append_led F9 N9 tab9 b2'' (by omega) ?_
    intro h10 Λ10 F10 N10 tab10 K10 b2x keep10
    have hTP10 := keep10 _ hTP9 (tup_off N9 b2'' hTP9)
    have b1x := keep10 _ b1'' nHP
    have b4x := b4''.mono fun T us h => keep10 _ h (tup_off N9 b2'' h)
    k_steps
    have KK : Keep [Ha, Pa] Λ₁ Λ10 := fun p hp hn hm => by
      simp only [List.mem_cons, List.not_mem_nil, or_false, not_or] at hm
      exact keep10 p (keep9 p (S48.keep p hp hn) hm.1) hm.2
    refine TurnEndK.next (by k_asm) (by k_asm) tab10 KK ?_
    refine ⟨rfl, rfl, rfl, rfl, rfl, _, _, _, _, b1x, b2x, ?_, ?_⟩
    · rw [List.take_add_one, hx, List.map_append]
      exact kct_snoc b3
    · rw [List.take_add_one, hx, List.map_append]
      refine b4x.snoc ⟨TP, q1, q2, q3, q4, rfl, ?_⟩
      show (TP, tupObj [.int (prodTo x x.cps.size).1 q1, .int (prodTo x x.cps.size).2.1 q2, .int (prodTo x x.cps.size).2.2.1 q3, .int (prodTo x x.cps.size).2.2.2 q4]) ∈ _
      rw [hzz]
      exact hTP10
  · intro m' Λ' h' tk F2 N2 T2 S3 ⟨a1, a2, a3, a4, a5, hv₁, he, pv, pe, b1, b2, b3, b4⟩
    refine wpAny_execs_nil ?_
    show Hold _
    refine hold_out ?_
    have KM : ∀ p ∈ Λ, NT p.2 → p.1 ∉ [Ha, Pa] → p ∈ Λ' := fun p h k n => S3 p (in1 p h).1 k n
    have nin : ∀ p ∈ Λ, p.1 ∉ [Ha, Pa] := fun p h => (in1 p h).2
    have up : ∀ p ∈ Λ, NT p.2 → p ∈ Λ' := fun p h k => KM p h k (nin p h)
    rw [hvl, List.take_length] at b3 b4
    exact law_s5 w p loose mean mg mb rfl dp un gd L fa cd cl outer A₀ base g m' Λ' _ E ⟨B, F2, X, N2, T, hC, T2, hd, hu⟩ good FA W vs ep ws (up _ hW (.of_cls (by nofun))) a3 hS hn hgw pl a4 (hpl.mono fun p h k _ => up p h k) Ha Pa hv₁ he pv pe a1 a2 b1 b2 b3 b4
end Mine
namespace Mine
open PySem PySem.Calls PySem.W PyProof.Rows PySem.Flt PySem.Builtin PySem.Builtin.ObjectAttr
theorem offLU1 : True := by w_top off; trivial
theorem fillU : PySem.Challenge.rw_ph0008_01.prog = PySem.Challenge.rw_ph0008_01.prog ∧ Mine.hd.heap_39 = Mine.hd.heap_39 := by k_fill; exact ⟨rfl, rfl⟩
local macro_rules | `(tactic| walk_at "exec For") => `(tactic| refine hold_in ?_)
local macro_rules | `(tactic| walk_at "call ref") => `(tactic| refine hold_in ?_)
theorem law_s3 (w p loose mean mg mb) {oc od osl name qual params body scope dV kV doc pm an cdv0 ct} (ho : (Mine.hd.heap_39 w.params).lookup 89 = some ⟨oc, od, .func (fnOf name qual params body scope dV kV doc pm an cdv0 ct), osl⟩)
    (dp un : Nat) (gd : Option (List Code)) (L fa : Addr) (cd : Value) (cl : List (Str × Addr)) (outer : List Env) (A₀ : Around) (base g : Heap) (m : Str → Option Value) (Λ : Ldg) (s : Shared) (E : Value → Shared → Prop)
    (at0 : At w p loose mean mg mb dp un L outer A₀ base g s.heap m Λ)
    (good : Str → Prop) (FA : Facts good)
    (W : Addr) (vs : List Value) (ep : Nat) (ws : List Str) (hW : (W, listObj vs ep) ∈ Λ) (hmW : m "words" = some (.ref W)) (hS : StrsAre vs ws) (hn : ws.length = 6) (hgw : ∀ x ∈ ws, good x)
    (pl fl : Addr) (hmp : m "pairs" = some (.ref pl)) (hmf : m "flat" = some (.ref fl)) (hpl : Pairs4 Λ pl) (hfl : IsFlat Λ fl) :
    wpAny (model PySem.Challenge.rw_ph0008_01.prog w) (ktrTop dp un gd "law" scope L fa cd cl outer) (execs (body.drop 7) (envX "law" scope L fa cd cl)) (Fini (G1 w p loose mean mg mb).sp g L s.gens s.os) E s := by
  rw [show (Mine.hd.heap_39 w.params).lookup 89 = some ⟨_, _, .func (fnOf _ _ _ _ _ _ _ _ _ _ _ _), _⟩ from rfl] at ho
  cases ho
  have hg8 := FA.g8
  have hch := FA.ch
  have hrep := FA.rep
  obtain ⟨B, F, X, N, T, hC, tab, hd, hu⟩ := at0
  replace F := fr_says [("words", .ref W), ("pairs", .ref pl), ("flat", .ref fl)] F (by simp [hmW, hmp, hmf])
  dsimp only [List.drop]
  refine execs_take 1 ?_
  dsimp only [List.take, List.drop]
  refine wpAny_execs_cons ?_
  refine wpAny_For ?_
  have hvl := strs_len hS
  obtain ⟨x0, hx0⟩ : ∃ x, ws[0]? = some x := ⟨ws[0]'(by omega), by simp⟩
  obtain ⟨x5, hx5⟩ : ∃ x, ws[5]? = some x := ⟨ws[5]'(by omega), by simp⟩
  obtain ⟨ta, hva⟩ := strs_at hS 0 x0 hx0
  obtain ⟨tb, hvb⟩ := strs_at hS 5 x5 hx5
  k_steps
  refine kim_list N hW rfl rfl (by decide) (by decide) (x := .str x0 ta) hva ?_
  k_steps
  refine kim_back N hW rfl rfl (by decide) (by omega) (by decide) (x := .str x5 tb) (by rw [show ((-1 : Int) + (vs.length : Int)).toNat = 5 by omega]; exact hvb) ?_
  k_steps
  rename Fr _ _ _ _ => F1; rename News _ _ _ _ => N1
  have g0 := hgw x0 (List.mem_of_getElem? hx0)
  have g5 := hgw x5 (List.mem_of_getElem? hx5)
  have S1 := stepN N1 (by assumption)
  have nW := ne_news N1 (by assumption) hW
  refine iter_tupleK (vs := [.str x0 ta, .str x5 tb]) (fun f s' h => h) rfl F1 N1 (tab.sub fun _ h => .tail _ h) [] (fun _ h => nomatch h) (fun h => nomatch h) (.head _) (fun _ _ => go_name) (fun i m Λ' => m "words" = some (.ref W) ∧ m "pairs" = some (.ref pl) ∧ m "flat" = some (.ref fl) ∧ (W, listObj vs ep) ∈ Λ' ∧ Pairs4 Λ' pl ∧ IsFlat Λ' fl) ?_ ?_ ?_ ?_
  · rintro i m Λ Λ' hs ⟨a1, a2, a3, a4, a5, a6⟩
    exact ⟨a1, a2, a3, hs _ a4 (.of_data (by nofun)), a5.mono fun p h _ k => hs p h k, a6.nmono hs⟩
  · exact ⟨rfl, rfl, rfl, .tail _ hW, hpl.mono fun p h _ _ => .tail _ h, hfl.mono fun p h _ => .tail _ h⟩
  · rintro i v m₁ Λ₁ s₁ E' ⟨h1, tk1, rfl⟩ hi hv ⟨e1, e2, e3, e4, e5, e6⟩ hT hsub F2 N2
    replace F2 := fr_says [("words", .ref W), ("pairs", .ref pl), ("flat", .ref fl)] F2 (by simp [e1, e2, e3])
    obtain ⟨x, t, rfl, gx⟩ : ∃ x t, v = .str x t ∧ good x := by
      match i, hv with
      | 0, rfl => exact ⟨_, _, rfl, g0⟩
      | 1, rfl => exact ⟨_, _, rfl, g5⟩
    clear hv
    refine hold_in ?_
    refine hold_out ?_
    k_steps
    rename Fr _ _ _ _ => F3; rename News _ _ _ _ => N3
    refine hold_out ?_
    refine wpAny_For ?_
    k_steps
    have hps := e5.pairs
    obtain ⟨pvs, pep, hl, hlen, hpq⟩ := hps
    refine iter_listK (fun f s' h => h) rfl F3 N3 hT [] (fun _ h => nomatch h) (fun h => nomatch h) hl ?_ (fun i m Λ' => ∃ cur tc, m "words" = some (.ref W) ∧ m "pairs" = some (.ref pl) ∧ m "flat" = some (.ref fl) ∧ m "word" = some (.str x t) ∧ m "line" = some (.str cur tc) ∧ ChainOk cur (ps4.drop i) ∧ (ps4.drop i).foldl repl1 cur = ps4.foldl repl1 x) (fun _ _ _ _ _ h => h) ⟨x, t, rfl, rfl, rfl, rfl, rfl, hch x gx, rfl⟩ ?_ ?_
    · intro s' I i v Q' E' hi hv hq
      obtain ⟨k, hk⟩ := List.mem_iff_getElem?.mp hv
      have hkl : k < ps4.length := by rw [← hlen]; exact (List.getElem?_eq_some_iff.mp hk).1
      obtain ⟨T', t', t'', e, _⟩ := hpq k ps4[k] (List.getElem?_eq_getElem hkl)
      rw [hk] at e
      cases e
      exact wpAny_letOwnedTupleGo_listiter hi hq
    · rintro i v m₂ Λ₂ s₂ E'' ⟨h2, tk2, rfl⟩ hi hv ⟨cur, tc, a1, a2, a3, a4, a5, a6, a7⟩ hT2 hsub2 F4 N4
      replace F4 := fr_says [("words", .ref W), ("pairs", .ref pl), ("flat", .ref fl), ("word", .str x t), ("line", .str cur tc)] F4 (by simp [a1, a2, a3, a4, a5])
      obtain ⟨q, hq⟩ : ∃ q, ps4[i]? = some q := ⟨ps4[i]'(by omega), by simp [hlen ▸ hi]⟩
      obtain ⟨T', t', t'', hv', hT'⟩ := hpq i q hq
      rw [hv] at hv'
      cases hv'
      have hT4 := hsub2 _ hT' (.of_cls (by nofun)) (fun h => nomatch h)
      have hdr : ps4.drop i = q :: ps4.drop (i + 1) := by
        rw [List.drop_eq_getElem_cons (by rw [← hlen]; exact hi)]
        rw [List.getElem?_eq_getElem (by rw [← hlen]; exact hi)] at hq
        cases hq; rfl
      rw [hdr] at a6 a7
      obtain ⟨c1, c2, c3, c4⟩ := a6
      have c2' := c2
      have hq10 : q.2.length ≤ 10 := (by decide : ∀ q ∈ ps4, q.2.length ≤ 10) q (List.mem_of_getElem? hq)
      obtain ⟨l0, l1, l2, l3, _⟩ := c2'
      k_steps
      rename Fr _ _ _ _ => F5; rename News _ _ _ _ => N5
      refine hold_out ?_
      refine (law_replace w p loose mean mg mb cur tc).1 _ _ _ _ c2 _ _ _ _ _ _ _ _ _ _ ⟨⟨gd, _, _, _, _, _, outer, A₀, base, rfl, B, rfl, hC⟩, F5, X, N5, T, hT2⟩ trivial (by omega) (by omega) ?_
      rintro v6 Λ6 h6 tk6 c6 S6 ⟨t9, rfl⟩
      have F6 := c6.F
      have N6 := c6.N
      have tab6 := c6.tab
      clear c6 F5 N5
      k_steps
      rename Fr _ _ _ _ => F7; rename News _ _ _ _ => N7
      refine hold_out ?_
      refine law_pieces w p loose mean mg mb cur _ _ tc _ _ ⟨l1, l2⟩ c1 hq10 _ _ _ _ _ _ _ _ _ _ ⟨⟨gd, _, _, _, _, _, outer, A₀, base, rfl, B, rfl, hC⟩, F7, X, N7, T, tab6⟩ trivial (by omega) (by omega) ?_
      rintro v8 Λ8 h8 tk8 c8 S8 ⟨t10, rfl⟩
      have F8 := c8.F
      have N8 := c8.N
      have tab8 := c8.tab
      clear c8 F7 N7
      rw [c3]
      k_steps
      · rename (_ = true) => hb
        replace hb : (repl1 cur q != repl1 cur q) = true := hb
        simp at hb
      · refine TurnEndK.next (by k_asm) (by k_asm) tab8 (S6.trans S8).keepM ?_
        exact ⟨_, _, rfl, rfl, rfl, rfl, rfl, c4, a7⟩
    · intro m' Λ' h' tk F4 N4 T4 S4 ⟨cur, tc, a1, a2, a3, a4, a5, a6, a7⟩
      replace F4 := fr_says [("words", .ref W), ("pairs", .ref pl), ("flat", .ref fl), ("word", .str x t), ("line", .str cur tc)] F4 (by simp [a1, a2, a3, a4, a5])
      have e6' := e6.mono fun p h k => S4 p h k (fun h => nomatch h)
      rw [hlen, List.drop_length] at a7
      replace a7 : cur = ps4.foldl repl1 x := a7
      have hrx := hrep x gx
      obtain ⟨u1, u2, u3, u4, u5, u6, u7, u8, fep, hfl'⟩ := id e6'
      k_steps
      rename Fr _ _ _ _ => F5; rename News _ _ _ _ => N5
      refine hold_out ?_
      refine (law_replace w p loose mean mg mb x t).2 _ _ _ _ _ _ _ _ _ _ _ _ _ _ _ _ hrx _ _ _ _ _ _ _ _ _ _ ⟨⟨gd, _, _, _, _, _, outer, A₀, base, rfl, B, rfl, hC⟩, F5, X, N5, T, T4⟩ trivial (by omega) (by omega) ?_
      rintro v6 Λ6 h6 tk6 c6 S6 ⟨t9, rfl⟩
      have F6 := c6.F
      have N6 := c6.N
      have tab6 := c6.tab
      clear c6 F5 N5
      k_steps
      · rename (_ = true) => hb
        replace hb : (ps4.foldl repl1 x != cur) = true := hb
        rw [a7] at hb
        simp at hb
      · have K6 : Keep [] Λ₁ Λ6 := S4.trans S6.keepM
        refine TurnEndK.next (by k_asm) (by k_asm) tab6 K6 ?_
        exact ⟨rfl, rfl, rfl, K6 _ e4 (.of_cls (by nofun)) (fun h => nomatch h), e5.mono fun p h k _ => K6 p h k (fun h => nomatch h), e6'.mono S6.sub⟩
  · intro m' Λ' h' tk F2 N2 T2 S3 ⟨e1, e2, e3, e4, e5, e6⟩
    refine wpAny_execs_nil ?_
    show Hold _
    refine hold_out ?_
    exact law_s4 w p loose mean mg mb rfl dp un gd L fa cd cl outer A₀ base g m' Λ' _ E ⟨B, F2, X, N2, T, hC, T2, hd, hu⟩ good FA W vs ep ws e4 e1 hS hn hgw pl fl e2 e3 e5 e6
end Mine
namespace Mine
open PySem PySem.Calls PySem.W PyProof.Rows PySem.Flt PySem.Builtin PySem.Builtin.ObjectAttr
theorem offLT1 : True := by w_top off; trivial
theorem fillT : PySem.Challenge.rw_ph0008_01.prog = PySem.Challenge.rw_ph0008_01.prog ∧ Mine.hd.heap_39 = Mine.hd.heap_39 := by k_fill; exact ⟨rfl, rfl⟩
local macro_rules | `(tactic| walk_at "exec Assign cons ListComp") => `(tactic| refine hold_in ?_)
local macro_rules | `(tactic| walk_at "call ref") => `(tactic| refine hold_in ?_)
theorem law_s2 (w p loose mean mg mb) {oc od osl name qual params body scope dV kV doc pm an cdv0 ct} (ho : (Mine.hd.heap_39 w.params).lookup 89 = some ⟨oc, od, .func (fnOf name qual params body scope dV kV doc pm an cdv0 ct), osl⟩)
    (dp un : Nat) (gd : Option (List Code)) (L fa : Addr) (cd : Value) (cl : List (Str × Addr)) (outer : List Env) (A₀ : Around) (base g : Heap) (m : Str → Option Value) (Λ : Ldg) (s : Shared) (E : Value → Shared → Prop)
    (at0 : At w p loose mean mg mb dp un L outer A₀ base g s.heap m Λ)
    (good : Str → Prop) (FA : Facts good)
    (W : Addr) (vs : List Value) (ep : Nat) (ws : List Str) (hW : (W, listObj vs ep) ∈ Λ) (hmW : m "words" = some (.ref W)) (hS : StrsAre vs ws) (hn : ws.length = 6) (hgw : ∀ x ∈ ws, good x) :
    Box (wpAny (model PySem.Challenge.rw_ph0008_01.prog w) (ktrTop dp un gd "law" scope L fa cd cl outer) (execs (body.drop 5) (envX "law" scope L fa cd cl)) (Fini (G1 w p loose mean mg mb).sp g L s.gens s.os) E s) := by
  refine ⟨?_⟩
  rw [show (Mine.hd.heap_39 w.params).lookup 89 = some ⟨_, _, .func (fnOf _ _ _ _ _ _ _ _ _ _ _ _), _⟩ from rfl] at ho
  cases ho
  obtain ⟨B, F, X, N, T, hC, tab, hd, hu⟩ := at0
  replace F := fr_says [("words", .ref W)] F (by simp [hmW])
  dsimp only [List.drop]
  refine execs_take 2 ?_
  dsimp only [List.take, List.drop]
  refine wpAny_execs_cons ?_
  k_steps
  rename Fr _ _ _ _ => F1; rename News _ _ _ _ => N1
  refine hold_out ?_
  obtain ⟨Λ1, N1, sub1, hP⟩ := pairs_of N1
  have hP' := hP
  obtain ⟨T1, T2, T3, T4, t1, t2, t3, t4, t5, t6, t7, t8, h0, h1, h2, h3, h4⟩ := hP'
  refine Assign_flat (h₀ := g) (L := L) (Λ := Λ1) (rows := [[.str (Str.ofString "aba") t1, .str (Str.ofString "D") t2], [.str (Str.ofString "bab") t3, .str (Str.ofString "D") t4], [.str (Str.ofString "aD") t5, .str (Str.ofString "Db") t6], [.str (Str.ofString "bD") t7, .str (Str.ofString "Da") t8]]) F1 rfl rfl (by with_unfolding_all rfl) (by with_unfolding_all rfl) (by decide) rfl (by decide) rfl rfl (by decide) (by decide) rfl rfl (by simp) ?_
  k_steps
  refine ⟨_, _, _, rfl, F1, N1, h0, rfl, ?_, ?_⟩
  · intro i v hv
    match i, hv with
    | 0, rfl => exact ⟨_, _, rfl, rfl, h1⟩
    | 1, rfl => exact ⟨_, _, rfl, rfl, h2⟩
    | 2, rfl => exact ⟨_, _, rfl, rfl, h3⟩
    | 3, rfl => exact ⟨_, _, rfl, rfl, h4⟩
  intro D h5 tk5 F2 N2 lt2
  dsimp only
  refine wpAny_execs_nil ?_
  refine hold_out ?_
  refine law_s3 w p loose mean mg mb rfl dp un gd L fa cd cl outer A₀ base g _ _ _ E ⟨B, F2, X, N2, T, hC, tab.sub fun _ h => .tail _ (sub1 _ h), hd, hu⟩ good FA W vs ep ws (.tail _ (sub1 _ hW)) rfl hS hn hgw _ D rfl rfl (hP.mono fun p h _ _ => .tail _ h) ⟨t1, t2, t3, t4, t5, t6, t7, t8, 8, List.mem_cons.mpr (.inl (by rfl))⟩
end Mine
namespace Mine
open PySem PySem.Calls PySem.W PyProof.Rows PySem.Flt PySem.Builtin PySem.Builtin.ObjectAttr
theorem offLS1 : True := by w_top off; trivial
theorem fillS : PySem.Challenge.rw_ph0008_01.prog = PySem.Challenge.rw_ph0008_01.prog ∧ Mine.hd.heap_39 = Mine.hd.heap_39 := by k_fill; exact ⟨rfl, rfl⟩
local macro_rules | `(tactic| walk_at "call ref") => `(tactic| refine hold_in ?_)
theorem law_s1 (w p loose mean mg mb) {oc od osl name qual params body scope dV kV doc pm an cdv0 ct} (ho : (Mine.hd.heap_39 w.params).lookup 89 = some ⟨oc, od, .func (fnOf name qual params body scope dV kV doc pm an cdv0 ct), osl⟩)
    (dp un : Nat) (gd : Option (List Code)) (L fa : Addr) (cd : Value) (cl : List (Str × Addr)) (outer : List Env) (A₀ : Around) (base g : Heap) (m : Str → Option Value) (Λ : Ldg) (s : Shared) (E : Value → Shared → Prop)
    (at0 : At w p loose mean mg mb dp un L outer A₀ base g s.heap m Λ)
    (D : Addr) (ys : List Value) (ns : List Int) (hD : (D, LCg.lst ys) ∈ Λ) (hm : m "numbers" = some (.ref D)) (hI : IntsAre ys ns) (hn : ns.length = 8)
    (good : Str → Prop) (FA : Facts good)
    (W : Addr) (w0 : Str) (t0 : Tok) (e0 : Nat) (hW : (W, listObj [.str w0 t0] e0) ∈ Λ) (hmW : m "words" = some (.ref W)) (hw0 : good w0) :
    Box (wpAny (model PySem.Challenge.rw_ph0008_01.prog w) (ktrTop dp un gd "law" scope L fa cd cl outer) (execs (body.drop 4) (envX "law" scope L fa cd cl)) (Fini (G1 w p loose mean mg mb).sp g L s.gens s.os) E s) := by
  refine ⟨?_⟩
  rw [show (Mine.hd.heap_39 w.params).lookup 89 = some ⟨_, _, .func (fnOf _ _ _ _ _ _ _ _ _ _ _ _), _⟩ from rfl] at ho
  cases ho
  have hg8 := FA.g8
  have hgm := FA.gm
  obtain ⟨B, F, X, N, T, hC, tab, hd, hu⟩ := at0
  replace F := fr_says [("numbers", .ref D), ("words", .ref W)] F (by simp [hm, hmW])
  dsimp only [List.drop]
  refine execs_take 1 ?_
  dsimp only [List.take, List.drop]
  refine wpAny_execs_cons ?_
  refine wpAny_For ?_
  k_steps
  rename Fr _ _ _ _ => F1; rename News _ _ _ _ => N1
  rename IntsAre _ (List.take _ _) => hI5
  have nW := ne_news N1 (by assumption) hW
  have hl5 : (ns.take 5).length = 5 := by simp [hn]
  refine iter_listK (fun f s' h => h) rfl F1 N1 (tab.sub fun _ h => .tail _ h) [W] ?_ ?_ (.head _) (fun s' I i v Q' E' hi hv hq => wpAny_of_eq go_name hq) (fun i m Λ' => m "words" = some (.ref W) ∧ ∃ vs ep ws, (W, listObj vs ep) ∈ Λ' ∧ StrsAre vs ws ∧ ws.length = i + 1 ∧ ∀ x ∈ ws, good x) ?_ ?_ ?_ ?_
  · intro a ha
    rw [List.mem_singleton.mp ha]
    exact Heap.lt_size (N1 _ (.tail _ hW)).1
  · simpa using nW
  · rintro i m Λ Λ' hs ⟨a, vs, ep, ws, b, c⟩
    exact ⟨a, vs, ep, ws, hs _ b (.of_data (by nofun)), c⟩
  · exact ⟨rfl, _, _, [w0], .tail _ hW, .cons _ _ .nil, rfl, fun x hx => by rw [List.mem_singleton.mp hx]; exact hw0⟩
  · rintro i v m₁ Λ₁ s₁ E' ⟨h1, tk1, rfl⟩ hi hv ⟨e1, vs, ep, ws, e2, e3, e4, e5⟩ hT hsub F2 N2
    replace F2 := fr_says [("words", .ref W)] F2 (by simp [e1])
    obtain ⟨n, t, e, hn⟩ := IntsAre.at hI5 i v hv
    subst e
    obtain ⟨x, hx⟩ : ∃ x, ws[i]? = some x := ⟨ws[i]'(by omega), by simp⟩
    obtain ⟨tx, hvx⟩ := strs_at e3 i x hx
    have hvl := strs_len e3
    have gx := e5 x (List.mem_of_getElem? hx)
    k_steps
    rename Fr _ _ _ _ => F3; rename News _ _ _ _ => N3
    refine kim_back N3 e2 rfl rfl (by decide) (by omega) (by decide) (x := .str x tx) (by rw [show ((-1 : Int) + (vs.length : Int)).toNat = i by omega]; exact hvx) ?_
    k_steps
    refine hold_out ?_
    have b0 : 0 ≤ (n.fdiv 2).fmod 6 := Int.fmod_nonneg_of_pos _ (by decide)
    have b1 : (n.fdiv 2).fmod 6 < 6 := Int.fmod_lt_of_pos _ (by decide)
    refine law_moved w p loose mean mg mb x tx _ _ _ _ (hg8 x gx) ⟨b0, b1⟩ _ _ _ _ _ _ _ _ _ _ ⟨⟨gd, _, _, _, _, _, outer, A₀, base, rfl, B, rfl, hC⟩, F3, X, N3, T, hT⟩ trivial (by omega) (by omega) ?_
    rintro v4 Λ4 h4 tk4 c4 S4 ⟨t9, rfl⟩
    have gx' := hgm x _ ((n.fdiv 12).fmod 3) gx b0 b1
    have F4 := c4.F
    have N4 := c4.N
    have tab4 := c4.tab
    clear c4 F3 N3
    have e2' := S4.keep _ e2 (.of_cls (by nofun))
    k_steps
    have hle : i < 5 := by have := hI5.length; omega
    refine append_led F4 N4 tab4 e2' (by omega) ?_
    intro h5 Λ5 F5 N5 tab5 K5 e5' _
    k_steps
    refine TurnEndK.next (by k_asm) (by k_asm) tab5 (S4.keepM.trans K5) ?_
    refine ⟨rfl, _, _, ws ++ [movedF x ((n.fdiv 2).fmod 6) ((n.fdiv 12).fmod 3)], e5', kct_snoc e3, by simp [e4], ?_⟩
    intro y hy
    rcases List.mem_append.mp hy with hy | hy
    · exact e5 y hy
    · rw [List.mem_singleton.mp hy]; exact gx'
  · intro m' Λ' h' tk F2 N2 T2 S3 ⟨e1, vs, ep, ws, e2, e3, e4, e5⟩
    refine wpAny_execs_nil ?_
    show Hold _
    refine hold_out ?_
    have hl5v := hI5.length
    rw [hl5] at hl5v
    replace e4 : ws.length = 6 := by omega
    refine Box.out ?_
    exact law_s2 w p loose mean mg mb rfl dp un gd L fa cd cl outer A₀ base g m' Λ' _ E ⟨B, F2, X, N2, T, hC, T2, hd, hu⟩ good FA W vs ep ws e2 e1 e3 e4 e5
end Mine
namespace Mine
open PySem PySem.Calls PySem.W PyProof.Rows PySem.Flt PySem.Builtin PySem.Builtin.ObjectAttr
theorem offLR1 : True := by w_top off; trivial
theorem fillR : PySem.Challenge.rw_ph0008_01.prog = PySem.Challenge.rw_ph0008_01.prog ∧ Mine.hd.heap_39 = Mine.hd.heap_39 := by k_fill; exact ⟨rfl, rfl⟩
local macro_rules | `(tactic| walk_at "eval ListComp") => `(tactic| refine hold_in ?_)
theorem law_rest (w p loose mean mg mb) {oc od osl name qual params body scope dV kV doc pm an cdv0 ct} (ho : (Mine.hd.heap_39 w.params).lookup 89 = some ⟨oc, od, .func (fnOf name qual params body scope dV kV doc pm an cdv0 ct), osl⟩)
    (dp un : Nat) (gd : Option (List Code)) (L fa : Addr) (cd : Value) (cl : List (Str × Addr)) (outer : List Env) (A₀ : Around) (base g : Heap) (m : Str → Option Value) (Λ : Ldg) (s : Shared) (E : Value → Shared → Prop)
    (at0 : At w p loose mean mg mb dp un L outer A₀ base g s.heap m Λ) (good : Str → Prop) (FA : Facts good)
    (D : Addr) (ys : List Value) (ns : List Int) (hD : (D, LCg.lst ys) ∈ Λ) (hm : m "numbers" = some (.ref D)) (hI : IntsAre ys ns) (hn : ns.length = 8) :
    Box (wpAny (model PySem.Challenge.rw_ph0008_01.prog w) (ktrTop dp un gd "law" scope L fa cd cl outer) (execs (body.drop 3) (envX "law" scope L fa cd cl)) (Fini (G1 w p loose mean mg mb).sp g L s.gens s.os) E s) := by
  refine ⟨?_⟩
  rw [show (Mine.hd.heap_39 w.params).lookup 89 = some ⟨_, _, .func (fnOf _ _ _ _ _ _ _ _ _ _ _ _), _⟩ from rfl] at ho
  cases ho
  obtain ⟨B, F, X, N, T, hC, tab, hd, hu⟩ := at0
  replace F := fr_says [("numbers", .ref D)] F (by simp [hm])
  dsimp only [List.drop]
  refine execs_take 1 ?_
  dsimp only [List.take, List.drop]
  k_steps
  refine hold_out ?_
  refine LCg.ListComp_U (F₀ := F) (by with_unfolding_all rfl) (by decide) (by rfl) (by decide) (by rfl) ?_
  k_steps
  refine LCg.CompSrc.ledger (by rfl) F N hD (by rw [sizeLine_eq, List.size_toArray, hI.length]; omega) ?_
  intro g'
  refine kct_list (fun k => Txt.item (Str.ofString "ab") (k.fmod 2)) hI (fun k' t' I' oI' C' oC' D' m' ys' h' tk' E' hk' hC' hx' F' N' off' ne' hm' => ?_) ?_
  · k_steps
    exact ⟨_, _, Λ, rfl, F', N', off', .inr ⟨_, hD, rfl, _, rfl⟩, rfl, _, rfl⟩
  · intro ys2 hc2 hl2
    k_steps
    (try dsimp only)
    refine hold_out ?_
    rename Fr _ _ _ _ => F2; rename News _ _ _ _ => N2
    refine Box.out ?_
    exact law_s1 w p loose mean mg mb rfl dp un gd L fa cd cl outer A₀ base g _ _ _ E ⟨B, F2, X, N2, T, hC, tab.sub fun _ h => .tail _ (.tail _ h), hd, hu⟩ D ys ns (.tail _ (.tail _ hD)) rfl hI hn good FA _ _ _ 0 (List.mem_cons.mpr (.inl rfl)) rfl (FA.w0 ns hn)
end Mine
namespace Mine
open PySem PySem.Calls PySem.W PyProof.Rows PySem.Flt PySem.Builtin PySem.Builtin.ObjectAttr
theorem offL1 : True := by w_top off; trivial
theorem fillL : PySem.Challenge.rw_ph0008_01.prog = PySem.Challenge.rw_ph0008_01.prog ∧ Mine.hd.heap_39 = Mine.hd.heap_39 := by k_fill; exact ⟨rfl, rfl⟩
local macro_rules | `(tactic| walk_at "call builtin:sum") => `(tactic| (k_here; (with_reducible show wpAny _ _ (call (Value.builtin "sum") [Value.ref _]) _ _ _); (with_unfolding_all refine' sum_sliceN ?k1 ?k2 (List.Mem.head _) ?k3 rfl ?_; (case k1 => k_asm); (case k2 => k_asm); (case k3 => assumption); k_whole); intro h' tk' t' F' N'))
theorem tab_start {Λ : Ldg} {sp : List (Addr × Str)} (h : ∀ x ∈ sp, (x.1, tabObj #[]) ∈ Λ) : TabOk sp Λ :=
  fun x hx => ⟨#[], h x hx, trivial, fun pos v e => by simp [codeAmong] at e⟩
theorem fin (good : Str → Prop) (FA : Facts good) : PySem.Challenge.rw_ph0008_01.Holds := hd (by
  k_go0
  rename World => w9
  rename Shared => s1
  rename Below _ _ _ _ => B9
  rename Top _ _ _ _ _ _ => T9
  rename Frag.In _ _ => X9
  refine wpAny_mono (Q := Fini [(30, (("_law_hit" : Str) ++ ".<locals>.") ++ "<lambda>"), (44, (("_law_program" : Str) ++ ".<locals>.") ++ "<lambda>")] (ghostOf s1.heap [(34, 30), (48, 44)]) s1.heap.objs.size s1.gens s1.os) ?_ (fun f s' hf => ?_) (fun _ _ e => e)
  · refine execs_take 3 ?_
    dsimp only [List.take, List.drop]
    k_steps
    dsimp only
    refine hold_out ?_
    rename Fr _ _ _ _ => F9; rename News _ _ _ _ => N9
    refine Box.out ?_
    refine law_rest w9 _ _ _ _ _ rfl _ _ _ _ _ _ _ _ _ _ _ _ _ _ _ ⟨B9, F9, X9, N9, T9, ?a4, ?a5, ?a6, ?a7⟩ good FA _ _ _ (List.mem_cons.mpr (.inl rfl)) rfl (by assumption) rfl
    · intro q hq
      rcases List.mem_cons.mp hq with rfl | hq
      · assumption
      · rw [List.mem_singleton.mp hq]; assumption
    · refine tab_start fun x hx => ?_
      rcases List.mem_cons.mp hx with rfl | hx
      · k_mem
      · rw [List.mem_singleton.mp hx]; k_mem
    · decide
    · decide
  · obtain ⟨rfl, e1, e2, m9, Λ9, F9, N9, T9⟩ := hf
    refine ⟨?_, ?_⟩
    · refine goodW_bool F9 (e1.trans (by assumption)) (raisesW_false ?_) ?_ e2
      · wrow_none_raised
      · wrow_post
    · obtain ⟨p1, m1, _⟩ := T9 _ (.head _)
      obtain ⟨p2, m2, _⟩ := T9 _ (.tail _ (.head _))
      exact ⟨.of N9 m1, .of N9 m2, trivial⟩)
end Mine
namespace Mine
open PySem PySem.Calls PySem.W PyProof.Rows PySem.Flt PySem.Builtin PySem.Builtin.ObjectAttr
/-- replace, on lists -/
def repL (Y Z : List Nat) : Nat → List Nat → List Nat
  | _, [] => []
  | k + 1, _ :: r => repL Y Z k r
  | 0, c :: r => if Y.isPrefixOf (c :: r) then Z ++ repL Y Z (Y.length - 1) r else c :: repL Y Z 0 r
theorem repL_skip (Y Z : List Nat) : ∀ (l : List Nat) (k : Nat), repL Y Z k l = repL Y Z 0 (l.drop k)
  | [], k => by cases k <;> simp [repL]
  | c :: r, 0 => rfl
  | c :: r, k + 1 => by
    show repL Y Z k r = repL Y Z 0 (r.drop k)
    exact repL_skip Y Z r k
theorem repL_len {Y Z : List Nat} (h : Z.length ≤ Y.length) (hy : 1 ≤ Y.length) : ∀ (l : List Nat) (k : Nat), (repL Y Z k l).length ≤ l.length - k
  | [], k => by cases k <;> simp [repL]
  | c :: r, k + 1 => by
    have := repL_len h hy r k
    simp only [repL, List.length_cons]; omega
  | c :: r, 0 => by
    rw [repL]
    split
    · rename_i hp
      have hl := (List.isPrefixOf_iff_prefix.mp hp).length_le
      have := repL_len h hy r (Y.length - 1)
      simp only [List.length_append, List.length_cons] at hl ⊢; omega
    · have := repL_len h hy r 0
      simp only [List.length_cons]; omega
theorem repL_free {X Y Z : List Nat} : ∀ (n a : Nat), a + n ≤ X.length → (∀ k, a ≤ k → k < a + n → ¬ Y.isPrefixOf (X.drop k) = true) → repL Y Z 0 (X.drop a) = (X.drop a).take n ++ repL Y Z 0 (X.drop (a + n))
  | 0, a, _, _ => by simp
  | n + 1, a, hl, h => by
    have ha := h a (Nat.le_refl a) (by omega)
    have e : X.drop a = X[a]'(by omega) :: X.drop (a + 1) := List.drop_eq_getElem_cons (by omega)
    have ih := repL_free (X := X) (Y := Y) (Z := Z) n (a + 1) (by omega) (fun k h1 h2 => h k (by omega) (by omega))
    rw [e] at ha ⊢
    rw [repL, if_neg ha, ih, List.take_succ_cons, show a + (n + 1) = a + 1 + n by omega]
    rfl
theorem repL_glue {x y : Str} (Z : List Nat) (hy : 1 ≤ y.length) : ∀ (cuts : List Nat) (a f : Nat), ChainG x y x.length a cuts f → a ≤ x.length → (∀ k, f ≤ k → ¬ Occ x y k) → glueTo (tl x) Z y.length a cuts x.length = repL (tl y) Z 0 ((tl x).drop a)
  | [], a, f, h, ha, ht => by
    have hf : f = a := h
    subst hf
    have := repL_free (X := tl x) (Y := tl y) (Z := Z) (x.length - f) f (by rw [tl_len]; omega) (fun k h1 _ => fun hp => ht k h1 ((occ_iff hy k).mpr hp))
    rw [this, show f + (x.length - f) = x.length by omega]
    have e0 : (tl x).drop x.length = [] := List.drop_of_length_le (by rw [tl_len]; omega)
    rw [e0]
    simp [glueTo, repL]
  | c :: r, a, f, h, ha, ht => by
    obtain ⟨h1, h2, h3, h4⟩ := h
    have hb := h2.1
    have ih := repL_glue Z hy r (c + y.length) f h4 hb ht
    have hp := (occ_iff hy c).mp h2
    have := repL_free (X := tl x) (Y := tl y) (Z := Z) (c - a) a (by rw [tl_len]; omega) (fun k g1 g2 => fun hp => h3 k g1 (by omega) ((occ_iff hy k).mpr hp))
    rw [this, show a + (c - a) = c by omega]
    have e : (tl x).drop c = (tl x)[c]'(by rw [tl_len]; omega) :: (tl x).drop (c + 1) := List.drop_eq_getElem_cons (by rw [tl_len]; omega)
    show _ ++ Z ++ glueTo (tl x) Z y.length (c + y.length) r x.length = _
    rw [ih, List.append_assoc]
    congr 1
    rw [e] at hp
    conv => rhs; rw [e]
    rw [repL, if_pos hp, repL_skip (tl y) Z _ ((tl y).length - 1), List.drop_drop, tl_len, show c + 1 + (y.length - 1) = c + y.length by omega]
theorem rep_eq (x y z : Str) (hy : 1 ≤ y.length) : tl (repl1 x (y, z)) = repL (tl y) (tl z) 0 (tl x) := by
  obtain ⟨f, h1, h2⟩ := StrLaws.occ_tight x y hy
  show tl (Txt.join z (Txt.split x y)) = _
  rw [repl_tl x y z hy, repL_glue (tl z) hy _ 0 f h1 (Nat.zero_le _) h2, List.drop_zero]
theorem rep_len {x : Str} {q : Str × Str} (h : q.2.length ≤ q.1.length) (hy : 1 ≤ q.1.length) : (repl1 x q).length ≤ x.length := by
  obtain ⟨y, z⟩ := q
  have e := congrArg List.length (rep_eq x y z hy)
  have := repL_len (Y := tl y) (Z := tl z) (by rw [tl_len, tl_len]; exact h) (by rw [tl_len]; exact hy) (tl x) 0
  rw [← e, tl_len, tl_len] at this
  omega
abbrev Slim (ps : List (Str × Str)) : Prop := ∀ q ∈ ps, q.2.length ≤ q.1.length ∧ 1 ≤ q.1.length ∧ q.1.length ≤ 8
theorem ps4_slim : Slim ps4 := by decide +kernel
theorem slim_len : ∀ {ps : List (Str × Str)} {x : Str}, Slim ps → (ps.foldl repl1 x).length ≤ x.length
  | [], _, _ => Nat.le_refl _
  | q :: r, x, h => by
    obtain ⟨h1, h2, h3⟩ := h q (.head _)
    exact Nat.le_trans (slim_len (ps := r) fun q hq => h q (.tail _ hq)) (rep_len h1 h2)
theorem slim_rep : ∀ {ps : List (Str × Str)} {x : Str}, Slim ps → x.length ≤ 8 → RepOk x ps
  | [], _, _, _ => trivial
  | q :: r, x, h, hx => by
    obtain ⟨h1, h2, h3⟩ := h q (.head _)
    exact ⟨by omega, by omega, by omega, by omega, slim_rep (ps := r) (fun q hq => h q (.tail _ hq)) (Nat.le_trans (rep_len h1 h2) hx)⟩
theorem slim_home : ∀ (k : Nat) {x : Str}, x.length ≤ 8 → HomeOk k x
  | 0, _, _ => trivial
  | k + 1, x, hx => ⟨hx, slim_rep ps4_slim hx, fun _ => slim_home k (Nat.le_trans (slim_len ps4_slim) hx)⟩
theorem home_len : ∀ (k : Nat) (x : Str), (homeGo k x).length ≤ x.length
  | 0, _ => Nat.le_refl _
  | k + 1, x => by
    rw [homeGo]
    split
    · exact Nat.le_refl _
    · exact Nat.le_trans (home_len k _) (slim_len ps4_slim)
theorem nextOf_one (x y z : Str) : NxOk x y (fun j => nextOf x j [(y, z)]) := by
  intro a ha
  show (nextStep x a none (y, z) = none ∧ _) ∨ ∃ c g, _ ∧ _ ∧ _ ∧ nextStep x a none (y, z) = _
  rcases find3_spec x y a ha with ⟨e, h⟩ | ⟨c, e, h1, h2, h3⟩
  · exact .inl ⟨nextStep_neg (.inl (by show ¬ 0 ≤ Txt.find3 x y a; rw [e]; decide)), h⟩
  · refine .inr ⟨c, z, h1, h2, h3, ?_⟩
    rw [nextStep_pos (by show 0 ≤ Txt.find3 x y a; rw [e]; omega) (fun r h => by cases h)]
    show some (Txt.find3 x y a, Txt.find3 x y a + (y.length : Int), z) = _
    rw [e]
theorem chain_ok : ∀ {ps : List (Str × Str)} {x : Str}, Slim ps → x.length ≤ 8 → ChainOk x ps
  | [], _, _, _ => trivial
  | q :: r, x, h, hx => by
    obtain ⟨h1, h2, h3⟩ := h q (.head _)
    obtain ⟨y, z⟩ := q
    exact ⟨hx, slim_rep (fun q hq => by rw [List.mem_singleton.mp hq]; exact ⟨h1, h2, h3⟩) hx, pieces_eq z (nextOf_one x y z) h2, chain_ok (ps := r) (fun q hq => h q (.tail _ hq)) (Nat.le_trans (rep_len h1 h2) hx)⟩
end Mine
namespace Mine
open PySem PySem.Calls PySem.W PyProof.Rows PySem.Flt PySem.Builtin PySem.Builtin.ObjectAttr
abbrev mk (l : List Nat) : Str := ⟨l.toArray⟩
theorem mk_tl (x : Str) : mk (tl x) = x := str_ext rfl
def pl4 : List (List Nat × List Nat) := [([97, 98, 97], [68]), ([98, 97, 98], [68]), ([97, 68], [68, 98]), ([98, 68], [68, 97])]
def foldL (l : List Nat) : List Nat := pl4.foldl (fun l q => repL q.1 q.2 0 l) l
def homeL : Nat → List Nat → List Nat
  | 0, l => l
  | k + 1, l => if foldL l = l then l else homeL k (foldL l)
theorem ps4_pl4 : ps4 = pl4.map fun q => (mk q.1, mk q.2) := by decide +kernel
theorem fold_eq_ps : ∀ (pl : List (List Nat × List Nat)) (x : Str), (∀ q ∈ pl, 1 ≤ q.1.length) → tl ((pl.map fun q => (mk q.1, mk q.2)).foldl repl1 x) = pl.foldl (fun l q => repL q.1 q.2 0 l) (tl x)
  | [], _, _ => rfl
  | q :: r, x, h => by
    show tl ((r.map fun q => (mk q.1, mk q.2)).foldl repl1 (repl1 x (mk q.1, mk q.2))) = _
    rw [fold_eq_ps r _ fun q hq => h q (.tail _ hq), rep_eq x (mk q.1) (mk q.2) (by rw [← tl_len]; exact h q (.head _))]
    rfl
theorem fold_eq (x : Str) : tl (ps4.foldl repl1 x) = foldL (tl x) := by
  rw [ps4_pl4, fold_eq_ps pl4 x (by decide)]; rfl
theorem home_eq : ∀ (k : Nat) (x : Str), tl (homeGo k x) = homeL k (tl x)
  | 0, _ => rfl
  | k + 1, x => by
    rw [homeGo, homeL, ← fold_eq]
    by_cases h : ps4.foldl repl1 x = x
    · rw [if_pos (by simpa using h), if_pos (by rw [h])]
    · rw [if_neg (by simpa using h), if_neg fun e => h (str_ext e), home_eq k]
def prodStepL (z : Quad) (c : Nat) : Quad :=
  if c = 97 then (z.1, z.1 + z.2.1, z.2.2.1, z.2.2.1 + z.2.2.2)
  else if c = 98 then (z.1 - z.2.1, z.2.1, z.2.2.1 - z.2.2.2, z.2.2.2)
  else (- z.2.1, z.1, - z.2.2.2, z.2.2.1)
def prodL (l : List Nat) : Quad := l.foldl prodStepL (1, 0, 0, 1)
theorem one_eq (c d : Nat) : ((⟨#[c]⟩ : Str) == mk [d]) = decide (c = d) := by
  by_cases h : c = d
  · subst h; simp
  · rw [decide_eq_false h]
    simp only [beq_eq_false_iff_ne, ne_eq]
    intro e
    have := congrArg tl e
    simp [tl] at this
    exact h this
theorem prodStep_eq (c : Nat) (z : Quad) : prodStep ⟨#[c]⟩ z = prodStepL z c := by
  unfold prodStep prodStepL
  rw [show Str.ofString "a" = mk [97] from rfl, show Str.ofString "b" = mk [98] from rfl, one_eq, one_eq]
  simp only [decide_eq_true_eq]
theorem prod_eq (x : Str) : ∀ i, i ≤ x.length → prodTo x i = ((tl x).take i).foldl prodStepL (1, 0, 0, 1)
  | 0, _ => rfl
  | i + 1, h => by
    have hi : i < (tl x).length := by rw [tl_len]; omega
    have hc : x.cps[i]? = some (tl x)[i] := by simp [tl]
    rw [prodTo_succ hc, prodStep_eq, prod_eq x i (by omega), List.take_add_one, List.getElem?_eq_getElem hi, List.foldl_append]
    rfl
theorem prodOf_eq (x : Str) : prodOf x = prodL (tl x) := by
  show prodTo x x.length = _
  rw [prod_eq x _ (Nat.le_refl _), List.take_of_length_le (by rw [tl_len]; exact Nat.le_refl _)]
  rfl
/-- find, on lists -/
def findL (Y : List Nat) : List Nat → Nat → Option Nat
  | [], _ => none
  | c :: r, i => if Y.isPrefixOf (c :: r) then some i else findL Y r (i + 1)
theorem findL_spec {X Y : List Nat} (hy : 1 ≤ Y.length) : ∀ (n a : Nat), a + n = X.length → (findL Y (X.drop a) a = none ∧ ∀ k, a ≤ k → ¬ Y.isPrefixOf (X.drop k) = true) ∨ ∃ c, findL Y (X.drop a) a = some c ∧ a ≤ c ∧ Y.isPrefixOf (X.drop c) = true ∧ ∀ k, a ≤ k → k < c → ¬ Y.isPrefixOf (X.drop k) = true
  | 0, a, h => by
    refine .inl ⟨by rw [List.drop_of_length_le (by omega)]; rfl, fun k hk hp => ?_⟩
    rw [List.drop_of_length_le (by omega)] at hp
    have := (List.isPrefixOf_iff_prefix.mp hp).length_le
    simp only [List.length_nil] at this; omega
  | n + 1, a, h => by
    have e : X.drop a = X[a]'(by omega) :: X.drop (a + 1) := List.drop_eq_getElem_cons (by omega)
    by_cases hp : Y.isPrefixOf (X.drop a) = true
    · refine .inr ⟨a, ?_, Nat.le_refl a, hp, fun k h1 h2 => by omega⟩
      rw [e] at hp ⊢
      rw [findL, if_pos hp]
    · have e2 : findL Y (X.drop a) a = findL Y (X.drop (a + 1)) (a + 1) := by
        rw [e] at hp ⊢
        rw [findL, if_neg hp]
      have step : ∀ k, a ≤ k → k = a ∨ a + 1 ≤ k := fun k hk => by omega
      rw [e2]
      rcases findL_spec (X := X) hy n (a + 1) (by omega) with ⟨h1, h2⟩ | ⟨c, h1, h2, h3, h4⟩
      · refine .inl ⟨h1, fun k hk => ?_⟩
        rcases step k hk with rfl | hk
        · exact hp
        · exact h2 k hk
      · refine .inr ⟨c, h1, by omega, h3, fun k hk hlt => ?_⟩
        rcases step k hk with rfl | hk
        · exact hp
        · exact h4 k hk hlt
theorem find3_eq {x y : Str} {a : Nat} (hy : 1 ≤ y.length) (ha : a ≤ x.length) : Txt.find3 x y a = match findL (tl y) ((tl x).drop a) a with | none => -1 | some c => (c : Int) := by
  have hy' : 1 ≤ (tl y).length := by rw [tl_len]; exact hy
  rcases find3_spec x y a ha with ⟨e, h⟩ | ⟨c, e, h1, h2, h3⟩
  · rcases findL_spec (X := tl x) hy' (x.length - a) a (by rw [tl_len]; omega) with ⟨e', _⟩ | ⟨c', e', k1, k2, k3⟩
    · rw [e, e']
    · exact absurd ((occ_iff hy c').mpr k2) (h c' k1)
  · rcases findL_spec (X := tl x) hy' (x.length - a) a (by rw [tl_len]; omega) with ⟨e', k⟩ | ⟨c', e', k1, k2, k3⟩
    · exact absurd ((occ_iff hy c).mp h2) (k c h1)
    · have : c' = c := by
        rcases Nat.lt_trichotomy c' c with l | l | l
        · exact absurd ((occ_iff hy c').mpr k2) (h3 c' k1 l)
        · exact l
        · exact absurd ((occ_iff hy c).mp h2) (k3 c h1 l)
      rw [e, e', this]
abbrev NF := Option (Nat × Nat × List Nat)
def emb : NF → Option (Int × Int × Str)
  | none => none
  | some (i, j, g) => some ((i : Int), (j : Int), mk g)
theorem emb_some (i j : Nat) (g : List Nat) : emb (some (i, j, g)) = some ((i : Int), (j : Int), mk g) := rfl
def nextStepL (X : List Nat) (a : Nat) (b : NF) (q : List Nat × List Nat) : NF := match findL q.1 (X.drop a) a with
  | none => b
  | some k => match b with
    | none => some (k, k + q.1.length, q.2)
    | some r => if k < r.1 then some (k, k + q.1.length, q.2) else some r
def nextL (X : List Nat) (pl : List (List Nat × List Nat)) (a : Nat) : NF := pl.foldl (nextStepL X a) none
theorem nextStep_eq {x : Str} {a : Nat} (ha : a ≤ x.length) (b : NF) (q : List Nat × List Nat) (hq : 1 ≤ q.1.length) : nextStep x a (emb b) (mk q.1, mk q.2) = emb (nextStepL (tl x) a b q) := by
  have hf : Txt.find3 x (mk q.1) a = _ := find3_eq (y := mk q.1) (by rw [← tl_len]; exact hq) ha
  rw [show tl (mk q.1) = q.1 from rfl] at hf
  unfold nextStepL
  cases e : findL q.1 ((tl x).drop a) a with
  | none =>
    rw [e] at hf
    exact nextStep_neg (.inl (by show ¬ 0 ≤ Txt.find3 x (mk q.1) a; rw [hf]; decide))
  | some k =>
    rw [e] at hf
    dsimp only at hf ⊢
    have h0 : 0 ≤ Txt.find3 x (mk q.1) a := by rw [hf]; exact Int.natCast_nonneg k
    have hl : ((mk q.1).length : Int) = (q.1.length : Int) := by rw [← tl_len]
    have pos : ∀ b, (∀ r, b = some r → Txt.find3 x (mk q.1) a < r.1) → nextStep x a b (mk q.1, mk q.2) = emb (some (k, k + q.1.length, q.2)) := fun b hb => by
      have := nextStep_pos (x := x) (j := (a : Int)) (b := b) (q := (mk q.1, mk q.2)) h0 hb
      dsimp only at this
      rw [this, emb_some, hf, hl, Int.natCast_add]
    cases b with
    | none => exact pos _ (fun r h => by cases h)
    | some r =>
      obtain ⟨i, j, g⟩ := r
      dsimp only
      by_cases hk : k < i
      · rw [if_pos hk]
        refine pos _ (fun r h => ?_)
        rw [emb_some] at h
        cases h
        rw [hf]
        exact Int.ofNat_lt.mpr hk
      · rw [if_neg hk]
        refine nextStep_neg (.inr ⟨_, rfl, ?_⟩)
        dsimp only
        rw [hf]
        exact fun h => hk (Int.ofNat_lt.mp h)
theorem next_eq {x : Str} {a : Nat} (ha : a ≤ x.length) : ∀ (pl : List (List Nat × List Nat)) (b : NF), (∀ q ∈ pl, 1 ≤ q.1.length) → (pl.map fun q => (mk q.1, mk q.2)).foldl (nextStep x a) (emb b) = emb (pl.foldl (nextStepL (tl x) a) b)
  | [], _, _ => rfl
  | q :: r, b, h => by
    show (r.map fun q => (mk q.1, mk q.2)).foldl (nextStep x a) (nextStep x a (emb b) (mk q.1, mk q.2)) = _
    rw [nextStep_eq ha b q (h q (.head _)), next_eq ha r _ fun q hq => h q (.tail _ hq)]
    rfl
theorem next4_eq {x : Str} {a : Nat} (ha : a ≤ x.length) : nextOf x a ps4 = emb (nextL (tl x) pl4 a) := by
  rw [ps4_pl4]
  exact next_eq ha pl4 none (by decide)
def lastL (X : List Nat) : Nat → Nat → NF → NF
  | 0, _, f => f
  | k + 1, a, f => match nextL X pl4 a with
    | none => f
    | some (i, j, g) => lastL X k j (some (i, j, g))
def ffL : Nat → List Nat → List Nat
  | 0, l => l
  | k + 1, l => match lastL l (l.length + 1) 0 none with
    | none => l
    | some (i, j, g) => ffL k (l.take i ++ g ++ l.drop j)
theorem ps4_pos : ∀ q ∈ ps4, 0 < q.1.length := fun q hq => (ps4_slim q hq).2.1
theorem last_eq {x : Str} : ∀ (k a : Nat) (f : NF), a ≤ x.length → revGo (fun j => nextOf x j ps4) x.length k a (emb f) = emb (lastL (tl x) k a f)
  | 0, _, _, _ => rfl
  | k + 1, a, f, ha => by
    rw [revGo, lastL]
    have hg := nextOf_goes (x := x) ps4_pos (a : Int)
    dsimp only at hg
    rw [next4_eq ha] at hg ⊢
    cases e : nextL (tl x) pl4 a with
    | none => rfl
    | some r =>
      obtain ⟨i, j, g⟩ := r
      rw [e] at hg
      have := hg i j (mk g) (by omega) rfl
      show (if (i : Int) < x.length ∧ (j : Int) ≤ x.length then revGo _ _ k (j : Int) (emb (some (i, j, g))) else _) = _
      rw [if_pos (by omega), last_eq k j _ (by omega)]
theorem nextOf_mem {x : Str} {s : Int} : ∀ (ps : List (Str × Str)) (b : Option (Int × Int × Str)), (∀ i j g, b = some (i, j, g) → ∃ q ∈ ps4, j = i + q.1.length ∧ g = q.2) → (∀ q ∈ ps, q ∈ ps4) → ∀ i j g, ps.foldl (nextStep x s) b = some (i, j, g) → ∃ q ∈ ps4, j = i + q.1.length ∧ g = q.2
  | [], _, h, _ => h
  | q :: r, b, h, hs => by
    refine nextOf_mem r _ ?_ fun q hq => hs q (.tail _ hq)
    intro i j g e
    unfold nextStep at e
    split at e
    · cases e; exact ⟨q, hs q (.head _), rfl, rfl⟩
    · exact h i j g e
theorem revGo_inv {γ : Type} {nx : Int → Option (Int × Int × γ)} {N : Nat} (hg : Goes nx N) {col : Int} (P : Int → Int → γ → Prop) (hP : ∀ s i j g, 0 ≤ s → nx s = some (i, j, g) → P i j g) : ∀ (k : Nat) (s : Int) (f : Option (Int × Int × γ)), 0 ≤ s → (∀ i j g, f = some (i, j, g) → P i j g) → ∀ i j g, revGo nx col k s f = some (i, j, g) → P i j g
  | 0, _, _, _, h => h
  | k + 1, s, f, hs, h => by
    rw [revGo]
    cases e : nx s with
    | none => exact h
    | some r =>
      obtain ⟨i, j, g⟩ := r
      dsimp only
      split
      · have := hg s i j g hs e
        exact revGo_inv hg P hP k j _ (by omega) (fun i' j' g' e' => by cases e'; exact hP s _ _ _ hs e)
      · exact h
theorem last_some {x : Str} {i j : Int} {g : Str} (h : lastOf x ps4 x.length = some (i, j, g)) : 0 ≤ i ∧ i < j ∧ j ≤ x.length ∧ (g.length : Int) ≤ j - i ∧ g.length ≤ 8 := by
  have hg := nextOf_goes (x := x) ps4_pos
  refine revGo_inv hg (fun i j g => 0 ≤ i ∧ i < j ∧ j ≤ x.length ∧ (g.length : Int) ≤ j - i ∧ g.length ≤ 8) ?_ _ 0 none (Int.le_refl 0) (fun _ _ _ h => by cases h) i j g h
  intro s i j g hs e
  have h1 := hg s i j g hs e
  obtain ⟨q, hq, h2, h3⟩ := nextOf_mem ps4 none (fun _ _ _ h => by cases h) (fun q h => h) i j g e
  have := ps4_slim q hq
  subst h3
  omega
theorem cut_tl {x g : Str} {i j : Nat} (hi : i ≤ x.length) (hj : j ≤ x.length) : tl (Txt.slice x none (some (i : Int)) ++ g ++ Txt.slice x (some (j : Int)) none) = (tl x).take i ++ tl g ++ (tl x).drop j := by
  rw [tl_append, tl_append, slice_to x hi, slice_from x hj]
theorem ff_eq : ∀ (k : Nat) (x : Str), tl (ffGo ps4 k x) = ffL k (tl x)
  | 0, _ => rfl
  | k + 1, x => by
    rw [ffGo, ffL]
    have e : lastOf x ps4 x.length = emb (lastL (tl x) ((tl x).length + 1) 0 none) := by
      rw [tl_len]
      exact last_eq (x.length + 1) 0 none (Nat.zero_le _)
    have hs := @last_some x
    rw [e] at hs ⊢
    cases e2 : lastL (tl x) ((tl x).length + 1) 0 none with
    | none => rfl
    | some r =>
      obtain ⟨i, j, g⟩ := r
      rw [e2] at hs
      have := hs (i := i) (j := j) (g := mk g) rfl
      show tl (ffGo ps4 k (Txt.slice x none (some (i : Int)) ++ mk g ++ Txt.slice x (some (j : Int)) none)) = _
      rw [ff_eq k, cut_tl (by omega) (by omega)]
theorem ff_ok : ∀ (k : Nat) (x : Str), x.length ≤ 8 → FFOk ps4 k x
  | 0, _, _ => trivial
  | k + 1, x, hx => by
    refine ⟨hx, ?_⟩
    cases e : lastOf x ps4 x.length with
    | none => trivial
    | some r =>
      obtain ⟨i, j, g⟩ := r
      obtain ⟨h1, h2, h3, h4, h5⟩ := last_some e
      refine ⟨h5, ff_ok k _ ?_⟩
      obtain ⟨a, rfl⟩ := Int.eq_ofNat_of_zero_le h1
      obtain ⟨b, rfl⟩ := Int.eq_ofNat_of_zero_le (show 0 ≤ j by omega)
      have := congrArg List.length (cut_tl (g := g) (i := a) (j := b) (x := x) (by omega) (by omega))
      rw [tl_len] at this
      simp only [List.length_append, List.length_take, List.length_drop, tl_len] at this
      show (Txt.slice x none (some (a : Int)) ++ g ++ Txt.slice x (some (b : Int)) none).length ≤ 8
      omega
end Mine
namespace Mine
open PySem PySem.Calls PySem.W PyProof.Rows PySem.Flt PySem.Builtin PySem.Builtin.ObjectAttr
def words : Nat → List (List Nat)
  | 0 => [[]]
  | n + 1 => (words n).map (97 :: ·) ++ (words n).map (98 :: ·)
theorem words_mem : ∀ (l : List Nat), (∀ c ∈ l, c = 97 ∨ c = 98) → l ∈ words l.length
  | [], _ => .head _
  | c :: r, h => by
    have ih := words_mem r fun c hc => h c (.tail _ hc)
    show _ ∈ (words r.length).map (97 :: ·) ++ (words r.length).map (98 :: ·)
    rcases h c (.head _) with rfl | rfl
    · exact List.mem_append_left _ (List.mem_map_of_mem ih)
    · exact List.mem_append_right _ (List.mem_map_of_mem ih)
/-- the homes, each by its product -/
def homesTab : List (Quad × List Nat) :=
  [((-15, 4, -4, 1), [97, 97, 97, 97, 98, 98, 98, 98]),
  ((-14, 3, -5, 1), [97, 97, 97, 98, 98, 98, 98, 98]),
  ((-14, 5, -3, 1), [97, 97, 97, 97, 97, 98, 98, 98]),
  ((-11, -8, -4, -3), [97, 97, 97, 98, 98, 98, 98, 97]),
  ((-11, -7, -3, -2), [97, 97, 97, 97, 98, 98, 98, 97]),
  ((-11, 2, -6, 1), [97, 97, 98, 98, 98, 98, 98, 98]),
  ((-11, 3, 7, -2), [98, 97, 97, 97, 98, 98, 98, 98]),
  ((-11, 4, 8, -3), [98, 97, 97, 97, 97, 98, 98, 98]),
  ((-11, 6, -2, 1), [97, 97, 97, 97, 97, 97, 98, 98]),
  ((-9, -7, -5, -4), [97, 97, 98, 98, 98, 98, 98, 97]),
  ((-9, -4, -2, -1), [97, 97, 97, 97, 97, 98, 98, 97]),
  ((-9, 2, 4, -1), [98, 97, 97, 98, 98, 98, 98, 98]),
  ((-9, 5, 7, -4), [98, 97, 97, 97, 97, 97, 98, 98]),
  ((-8, -13, -3, -5), [97, 97, 97, 98, 98, 98, 97, 97]),
  ((-8, -5, 5, 3), [98, 97, 97, 97, 98, 98, 98, 97]),
  ((-8, 3, 13, -5), [98, 98, 97, 97, 97, 98, 98, 98]),
  ((-7, -12, -4, -7), [97, 97, 98, 98, 98, 98, 97, 97]),
  ((-7, -10, -2, -3), [97, 97, 97, 97, 98, 98, 97, 97]),
  ((-7, -5, 3, 2), [98, 97, 97, 98, 98, 98, 98, 97]),
  ((-7, -3, 5, 2), [98, 97, 97, 97, 97, 98, 98, 97]),
  ((-7, 2, 10, -3), [98, 98, 97, 97, 98, 98, 98, 98]),
  ((-7, 4, 12, -7), [98, 98, 97, 97, 97, 97, 98, 98]),
  ((-6, 1, -7, 1), [97, 98, 98, 98, 98, 98, 98, 98]),
  ((-6, 7, -1, 1), [97, 97, 97, 97, 97, 97, 97, 98]),
  ((-5, -13, -3, -8), [97, 97, 98, 98, 98, 97, 97, 97]),
  ((-5, -12, -2, -5), [97, 97, 97, 98, 98, 97, 97, 97]),
  ((-5, -8, 2, 3), [98, 97, 97, 98, 98, 98, 97, 97]),
  ((-5, -7, 3, 4), [98, 97, 97, 97, 98, 98, 97, 97]),
  ((-5, -4, -6, -5), [97, 98, 98, 98, 98, 98, 98, 97]),
  ((-5, -3, 7, 4), [98, 98, 97, 97, 98, 98, 98, 97]),
  ((-5, -2, 8, 3), [98, 98, 97, 97, 97, 98, 98, 97]),
  ((-5, 1, -1, 0), [68, 98, 98, 98, 98, 98]),
  ((-5, 2, 12, -5), [98, 98, 98, 97, 97, 98, 98, 98]),
  ((-5, 3, 13, -8), [98, 98, 98, 97, 97, 97, 98, 98]),
  ((-5, 6, 4, -5), [98, 97, 97, 97, 97, 97, 97, 98]),
  ((-4, -7, -5, -9), [97, 98, 98, 98, 98, 98, 97, 97]),
  ((-4, -3, -1, -1), [68, 98, 98, 98, 98, 97]),
  ((-4, 1, 3, -1), [68, 97, 98, 98, 98, 98]),
  ((-4, 5, 7, -9), [98, 98, 97, 97, 97, 97, 97, 98]),
  ((-3, -10, -2, -7), [97, 97, 98, 98, 97, 97, 97, 97]),
  ((-3, -8, -4, -11), [97, 98, 98, 98, 98, 97, 97, 97]),
  ((-3, -7, 1, 2), [98, 97, 97, 98, 98, 97, 97, 97]),
  ((-3, -5, -1, -2), [68, 98, 98, 98, 97, 97]),
  ((-3, -4, 4, 5), [98, 98, 97, 97, 98, 98, 97, 97]),
  ((-3, -2, 2, 1), [68, 97, 98, 98, 98, 97]),
  ((-3, -1, 7, 2), [98, 98, 98, 97, 97, 98, 98, 97]),
  ((-3, 1, 5, -2), [68, 97, 97, 98, 98, 98]),
  ((-3, 2, 10, -7), [98, 98, 98, 98, 97, 97, 98, 98]),
  ((-3, 4, 8, -11), [98, 98, 98, 97, 97, 97, 97, 98]),
  ((-2, -7, -3, -11), [97, 98, 98, 98, 97, 97, 97, 97]),
  ((-2, -5, -1, -3), [68, 98, 98, 97, 97, 97]),
  ((-2, -3, 1, 1), [68, 97, 98, 98, 97, 97]),
  ((-2, -1, 3, 1), [68, 97, 97, 98, 98, 97]),
  ((-2, 1, 5, -3), [68, 97, 97, 97, 98, 98]),
  ((-2, 3, 7, -11), [98, 98, 98, 98, 97, 97, 97, 98]),
  ((-1, -4, -2, -9), [97, 98, 98, 97, 97, 97, 97, 97]),
  ((-1, -3, -1, -4), [68, 98, 97, 97, 97, 97]),
  ((-1, -2, 0, -1), [68, 68, 97, 97]),
  ((-1, -1, 1, 0), [68, 68, 98, 97]),
  ((-1, 0, 2, -1), [68, 68, 98, 98]),
  ((-1, 1, 3, -4), [68, 97, 97, 97, 97, 98]),
  ((-1, 2, 4, -9), [98, 98, 98, 98, 98, 97, 97, 98]),
  ((0, -1, 1, -1), [68, 68, 97, 98]),
  ((0, 1, -1, -5), [68, 97, 97, 97, 97, 97]),
  ((1, -4, 0, 1), [98, 97, 97, 98, 98, 97, 97, 98]),
  ((1, -3, 1, -2), [68, 98, 98, 97, 97, 98]),
  ((1, -2, 2, -3), [68, 98, 97, 97, 97, 98]),
  ((1, -1, 3, -2), [68, 98, 97, 97, 98, 98]),
  ((1, 0, -8, 1), [98, 98, 98, 98, 98, 98, 98, 98]),
  ((1, 0, 4, 1), [97, 98, 98, 97, 97, 98, 98, 97]),
  ((1, 1, -7, -6), [98, 98, 98, 98, 98, 98, 98, 97]),
  ((1, 2, -6, -11), [98, 98, 98, 98, 98, 98, 97, 97]),
  ((1, 3, -5, -14), [98, 98, 98, 98, 98, 97, 97, 97]),
  ((1, 4, -4, -15), [98, 98, 98, 98, 97, 97, 97, 97]),
  ((1, 5, -3, -14), [98, 98, 98, 97, 97, 97, 97, 97]),
  ((1, 6, -2, -11), [98, 98, 97, 97, 97, 97, 97, 97]),
  ((1, 7, -1, -6), [98, 97, 97, 97, 97, 97, 97, 97]),
  ((1, 8, 0, 1), [97, 97, 97, 97, 97, 97, 97, 97]),
  ((2, -7, 1, -3), [97, 97, 97, 98, 98, 97, 97, 98]),
  ((2, -5, 3, -7), [97, 98, 98, 98, 98, 97, 97, 98]),
  ((2, -3, 5, -7), [97, 98, 98, 97, 97, 97, 97, 98]),
  ((2, -1, 7, -3), [97, 98, 98, 97, 97, 98, 98, 98]),
  ((3, -8, 2, -5), [97, 97, 98, 98, 98, 97, 97, 98]),
  ((3, -5, 5, -8), [97, 98, 98, 98, 97, 97, 97, 98]),
  ((3, -2, 8, -5), [97, 98, 98, 97, 97, 97, 98, 98]),
  ((4, -7, 3, -5), [97, 97, 98, 98, 97, 97, 97, 98]),
  ((4, -3, 7, -5), [97, 98, 98, 98, 97, 97, 98, 98]),
  ((5, -4, 4, -3), [97, 97, 98, 98, 97, 97, 98, 98])]
def restOk (h : List Nat) : Bool :=
  ([Str.ofString "D", Str.ofString "aba", Str.ofString "bab"].all fun y => (Str.occurrences (Txt.lstripChars (mk h) (Str.ofString "D")) y 0 (Txt.lstripChars (mk h) (Str.ofString "D")).length 1).isEmpty) &&
  decide (3 * (((mk h).length : Int) - ((Txt.lstripChars (mk h) (Str.ofString "D")).length : Int)) + ((Txt.lstripChars (mk h) (Str.ofString "D")).length : Int) = 8) && h.all (· < 128)
theorem tab_ok1 : (homesTab.all fun e => decide (prodL e.2 = e.1)) = true := by decide +kernel
theorem tab_ok2 : (homesTab.all fun e => restOk e.2) = true := by decide +kernel
def wordOk (l : List Nat) : Bool := (homesTab.lookup (prodL l) == some (homeL 16 l)) && (ffL 16 l == homeL 16 l)
theorem words_ok : ((words 8).all wordOk) = true := by decide +kernel
end Mine
namespace Mine
open PySem PySem.Calls PySem.W PyProof.Rows PySem.Flt PySem.Builtin PySem.Builtin.ObjectAttr
def ab (l : List Nat) : Prop := ∀ c ∈ l, c = 97 ∨ c = 98
theorem ab_append {a b : List Nat} (h : ab a) (k : ab b) : ab (a ++ b) := fun c hc => (List.mem_append.mp hc).elim (h c) (k c)
theorem ab_take {a : List Nat} (h : ab a) (n : Nat) : ab (a.take n) := fun c hc => h c (List.mem_of_mem_take hc)
theorem ab_drop {a : List Nat} (h : ab a) (n : Nat) : ab (a.drop n) := fun c hc => h c (List.mem_of_mem_drop hc)
theorem ab_one {c : Nat} (h : c = 97 ∨ c = 98) : ab [c] := fun d hd => by rw [List.mem_singleton.mp hd]; exact h
def good (x : Str) : Prop := x.length = 8 ∧ ab (tl x)
theorem lookup_mem {α β : Type} [BEq α] [LawfulBEq α] : ∀ {l : List (α × β)} {k : α} {v : β}, l.lookup k = some v → (k, v) ∈ l
  | [], _, _, h => by cases h
  | (a, b) :: r, k, v, h => by
    rw [List.lookup_cons] at h
    split at h
    · rename_i e
      cases h
      rw [eq_of_beq e]; exact .head _
    · exact .tail _ (lookup_mem h)
theorem good_facts {x : Str} (h : good x) : (prodL (tl x), homeL 16 (tl x)) ∈ homesTab ∧ homesTab.lookup (prodL (tl x)) = some (homeL 16 (tl x)) ∧ ffL 16 (tl x) = homeL 16 (tl x) := by
  have hm := words_mem (tl x) h.2
  rw [tl_len, h.1] at hm
  have := List.all_eq_true.mp words_ok _ hm
  unfold wordOk at this
  rw [Bool.and_eq_true] at this
  have h1 := eq_of_beq this.1
  exact ⟨lookup_mem h1, h1, eq_of_beq this.2⟩
theorem home_tl {x : Str} (h : good x) : tl (homeOf x) = homeL 16 (tl x) := by
  show tl (homeGo (2 * x.length) x) = _
  rw [home_eq, h.1]
theorem all_of {α : Type} {l : List α} {p : α → Bool} (h : l.all p = true) : ∀ e ∈ l, p e = true := List.all_eq_true.mp h
theorem tab1 (e : Quad × List Nat) (h : e ∈ homesTab) : prodL e.2 = e.1 := by
  have := all_of tab_ok1 e h
  exact of_decide_eq_true this
theorem tab2 (e : Quad × List Nat) (h : e ∈ homesTab) : restOk e.2 = true := by
  have := all_of tab_ok2 e h
  exact this
theorem good_tab {x : Str} (h : good x) : prodL (tl (homeOf x)) = prodL (tl x) ∧ restOk (tl (homeOf x)) = true := by
  obtain ⟨h1, _⟩ := good_facts h
  rw [home_tl h]
  have a := tab1 _ h1
  have b := tab2 _ h1
  exact ⟨a, b⟩
theorem item_tl {x : Str} {i : Nat} (hi : i < x.length) : ∃ c, Txt.item x (i : Int) = mk [c] ∧ c ∈ tl x ∧ (tl x)[i]? = some c := by
  have hl : i < (tl x).length := by rw [tl_len]; exact hi
  refine ⟨(tl x)[i], ?_, List.getElem_mem hl, List.getElem?_eq_getElem hl⟩
  exact item_meets (i := (i : Int)) (by omega) (by rw [Int.toNat_natCast]; simp [tl])
theorem sum_good {a b c : Str} (hl : a.length + b.length + c.length = 8) (ha : ab (tl a)) (hb : ab (tl b)) (hc : ab (tl c)) : good (a ++ b ++ c) := by
  refine ⟨?_, ?_⟩
  · rw [← tl_len, tl_append, tl_append, List.length_append, List.length_append, tl_len, tl_len, tl_len]; exact hl
  · rw [tl_append, tl_append]; exact ab_append (ab_append ha hb) hc
theorem good_moved {x : Str} {i k : Int} (h : good x) (h0 : 0 ≤ i) (h6 : i < 6) : good (movedF x i k) := by
  obtain ⟨n, rfl⟩ := Int.eq_ofNat_of_zero_le h0
  have hn : n < 6 := by omega
  have h8 := h.1
  have hx := h.2
  have P : ∀ m : Nat, m ≤ 8 → tl (Txt.slice x none (some (m : Int))) = (tl x).take m ∧ tl (Txt.slice x (some (m : Int)) none) = (tl x).drop m := fun m hm => ⟨slice_to x (by omega), slice_from x (by omega)⟩
  have L : ∀ m : Nat, m ≤ 8 → (Txt.slice x none (some (m : Int))).length = m ∧ (Txt.slice x (some (m : Int)) none).length = 8 - m := fun m hm => by
    rw [← tl_len, ← tl_len, (P m hm).1, (P m hm).2, List.length_take, List.length_drop, tl_len]; omega
  have A : ∀ m : Nat, m ≤ 8 → ab (tl (Txt.slice x none (some (m : Int)))) ∧ ab (tl (Txt.slice x (some (m : Int)) none)) := fun m hm => by
    rw [(P m hm).1, (P m hm).2]; exact ⟨ab_take hx m, ab_drop hx m⟩
  obtain ⟨c, hc, cm, _⟩ := item_tl (x := x) (i := n) (by omega)
  obtain ⟨d, hd, dm, _⟩ := item_tl (x := x) (i := n + 1) (by omega)
  obtain ⟨e, he, em, _⟩ := item_tl (x := x) (i := 0) (by omega)
  unfold movedF
  rw [show ((n : Int) + 3) = ((n + 3 : Nat) : Int) by omega, show ((n : Int) + 2) = ((n + 2 : Nat) : Int) by omega, show ((n : Int) + 1) = ((n + 1 : Nat) : Int) by omega]
  split
  · have : (if (Txt.slice x (some (n : Int)) (some ((n + 3 : Nat) : Int)) == Str.ofString "aba") = true then Str.ofString "bab" else Str.ofString "aba").length = 3 ∧ ab (tl (if (Txt.slice x (some (n : Int)) (some ((n + 3 : Nat) : Int)) == Str.ofString "aba") = true then Str.ofString "bab" else Str.ofString "aba")) := by
      split
      · exact ⟨by decide +kernel, by rw [show tl (Str.ofString "bab") = [98, 97, 98] from rfl]; unfold ab; decide⟩
      · exact ⟨by decide +kernel, by rw [show tl (Str.ofString "aba") = [97, 98, 97] from rfl]; unfold ab; decide⟩
    refine sum_good ?_ (A n (by omega)).1 this.2 (A (n + 3) (by omega)).2
    rw [(L n (by omega)).1, this.1, (L (n + 3) (by omega)).2]; omega
  · split
    · have : (if (Txt.item x (n : Int) == Str.ofString "a") = true then Str.ofString "b" else Str.ofString "a").length = 1 ∧ ab (tl (if (Txt.item x (n : Int) == Str.ofString "a") = true then Str.ofString "b" else Str.ofString "a")) := by
        split
        · exact ⟨by decide +kernel, by rw [show tl (Str.ofString "b") = [98] from rfl]; exact ab_one (.inr rfl)⟩
        · exact ⟨by decide +kernel, by rw [show tl (Str.ofString "a") = [97] from rfl]; exact ab_one (.inl rfl)⟩
      refine sum_good ?_ (A n (by omega)).1 this.2 (A (n + 1) (by omega)).2
      rw [(L n (by omega)).1, this.1, (L (n + 1) (by omega)).2]; omega
    · split
      · have e0 : Txt.slice x (some 1) none ++ Txt.item x 0 = Txt.slice x (some ((1 : Nat) : Int)) none ++ Txt.item x ((0 : Nat) : Int) := rfl
        rw [e0, he]
        refine ⟨?_, ?_⟩
        · rw [← tl_len, tl_append, List.length_append, tl_len, (L 1 (by omega)).2]; rfl
        · rw [tl_append]; exact ab_append (A 1 (by omega)).2 (ab_one (hx e em))
      · rw [hc, hd]
        refine ⟨?_, ?_⟩
        · rw [← tl_len, tl_append, tl_append, tl_append, List.length_append, List.length_append, List.length_append, tl_len, tl_len (Txt.slice x (some ((n + 2 : Nat) : Int)) none), (L n (by omega)).1, (L (n + 2) (by omega)).2]
          show n + 1 + 1 + (8 - (n + 2)) = 8
          omega
        · rw [tl_append, tl_append, tl_append]
          exact ab_append (ab_append (ab_append (A n (by omega)).1 (ab_one (hx d dm))) (ab_one (hx c cm))) (A (n + 2) (by omega)).2
theorem join_nil_tl : ∀ l : List Str, tl (Str.join (Str.ofString "") l) = (l.map tl).flatten
  | [] => rfl
  | [x] => by show tl x = _; simp
  | x :: y :: r => by
    show tl (x ++ Str.ofString "" ++ Str.join (Str.ofString "") (y :: r)) = _
    rw [tl_append, tl_append, join_nil_tl (y :: r), show tl (Str.ofString "") = [] from rfl]
    simp
theorem join_ones (f : Int → Nat) (g : Int → Str) (h : ∀ a, g a = mk [f a]) (ns : List Int) : tl (Txt.join (Str.ofString "") (ns.map g)) = ns.map f := by
  show tl (Str.glued _ _) = _
  rw [StrLaws.glued_eq_join, join_nil_tl, List.map_map]
  induction ns with
  | nil => rfl
  | cons a r ih =>
    rw [List.map_cons, List.flatten_cons, ih, List.map_cons]
    show tl (g a) ++ _ = _
    rw [h]; rfl
theorem pick_ab (a : Int) : Txt.item (Str.ofString "ab") (a.fmod 2) = mk [if a.fmod 2 = 0 then 97 else 98] := by
  have h0 : 0 ≤ a.fmod 2 := Int.fmod_nonneg_of_pos _ (by decide)
  have h1 : a.fmod 2 < 2 := Int.fmod_lt_of_pos _ (by decide)
  rcases (by omega : a.fmod 2 = 0 ∨ a.fmod 2 = 1) with e | e
  · rw [e]; rfl
  · rw [e]; rfl
theorem good_first (ns : List Int) (h : ns.length = 8) : good (Txt.join (Str.ofString "") (ns.map fun a => Txt.item (Str.ofString "ab") (a.fmod 2))) := by
  have e := join_ones (fun a => if a.fmod 2 = 0 then 97 else 98) _ pick_ab ns
  refine ⟨?_, ?_⟩
  · rw [← tl_len, e, List.length_map, h]
  · rw [e]
    intro c hc
    obtain ⟨a, _, rfl⟩ := List.mem_map.mp hc
    split
    · exact .inl rfl
    · exact .inr rfl
theorem all_tl (x : Str) (p : Nat → Bool) : x.cps.all p = (tl x).all p := by simp [tl]
theorem facts : Facts good where
  g8 x h := h.1
  gm x i k h h0 h6 := good_moved h h0 h6
  w0 ns h := good_first ns h
  ga x h := by
    rw [all_tl, List.all_eq_true]
    intro c hc
    rcases h.2 c hc with rfl | rfl <;> rfl
  ch x h := chain_ok ps4_slim (by rw [h.1]; decide)
  rep x h := slim_rep ps4_slim (by rw [h.1]; decide)
  hm x h := slim_home _ (by rw [h.1]; decide)
  hl x h := Nat.le_trans (home_len _ _) (by rw [h.1]; decide)
  ha x h := by
    have := (good_tab h).2
    unfold restOk at this
    rw [Bool.and_eq_true] at this
    rw [all_tl]; exact this.2
  pr x h := by
    show prodOf (homeOf x) = prodOf x
    rw [prodOf_eq, prodOf_eq]; exact (good_tab h).1
  inn x h y hy := by
    have := (good_tab h).2
    unfold restOk at this
    rw [Bool.and_eq_true, Bool.and_eq_true, mk_tl] at this
    exact List.all_eq_true.mp this.1.1 y hy
  r8 x h := by
    have := (good_tab h).2
    unfold restOk at this
    rw [Bool.and_eq_true, Bool.and_eq_true, mk_tl] at this
    exact of_decide_eq_true this.1.2
  rl x h := by
    have := (good_tab h).2
    unfold restOk at this
    rw [Bool.and_eq_true, Bool.and_eq_true, mk_tl] at this
    have h2 := of_decide_eq_true this.1.2
    have h3 : (homeOf x).length ≤ 8 := Nat.le_trans (home_len _ _) (by rw [h.1]; decide)
    omega
  ff x h := ff_ok _ x (by rw [h.1]; decide)
  fh x h := by
    apply str_ext
    rw [ff_eq, home_tl h, h.1]
    exact (good_facts h).2.2
  iff x y hx hy := by
    have px := (good_tab hx).1
    have py := (good_tab hy).1
    have lx := (good_facts hx).2.1
    have ly := (good_facts hy).2.1
    by_cases h : homeOf x = homeOf y
    · have : prodOf x = prodOf y := by rw [prodOf_eq, prodOf_eq, ← px, ← py, h]
      rw [h, this]; simp
    · have : prodOf x ≠ prodOf y := fun e => h (by
        rw [prodOf_eq, prodOf_eq] at e
        rw [e, ly] at lx
        apply str_ext
        rw [home_tl hx, home_tl hy]
        exact (Option.some.inj lx).symm)
      rw [beq_false_of_ne h, beq_false_of_ne this]
end Mine
theorem PySem.Challenge.cw_ph0008_01_holds : PySem.Challenge.rw_ph0008_01.Holds :=
  Mine.fin _ Mine.facts
