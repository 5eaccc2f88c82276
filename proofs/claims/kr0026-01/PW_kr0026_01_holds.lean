import PyProof.Rows.All
import Wide.All
import OpenK.AllK
import Wide.FinOn
import PySem.Challenge.RW_kr0026_01
open PySem PySem.W PyProof.Rows
set_option Elab.async false
namespace Mine
set_option maxRecDepth 100000 in
set_option maxHeartbeats 8000000 in
open_top hd for PySem.Challenge.rw_kr0026_01
end Mine

open PySem PySem.W PySem.Calls PyProof.Rows
set_option Elab.async false
set_option maxRecDepth 100000
namespace Mine
/-- the written part of the top -/
noncomputable abbrev KK (w : PySem.World) : Frag := hd.heap_39 w.params
/-- what is known of the top, on a heap that never changes -/
structure Wd (w : PySem.World) (mg mb : Str → Option Value) (W₀ : Heap) : Prop where
  X : (hd.heap_39 w.params).In W₀
  T : TopRead hd.view_39 (looseW hd.view_39 []) mg mb W₀

theorem Wd.up {w mg mb W₀ h} (D : Wd w mg mb W₀) (k : ∀ b o, W₀.get? b = some o → h.get? b = some o) : Wd w mg mb h := ⟨D.X.keeps k, D.T.keeps k⟩

section
variable {prog : Program} {w : PySem.World} {A : Around} {s : Shared} {K : Frag} {E : Value → Shared → Prop} {Q : Value → Shared → Prop}
  {name qual : Str} {params : Arguments} {body : List Stmt} {scope : Scope} {dV kV doc pm cdv ct oc : Value} {an od : Option Addr} {osl : Array (Option Value)} {f : Addr} {args : List Value} {binds : List (Str × Value)}
theorem enter (X : K.In s.heap) (hlim : s.heap.NoLimit) (ho : K.lookup f = some ⟨oc, od, .func (fnOf name qual params body scope dV kV doc pm an cdv ct), osl⟩) (hcd : codeIn K cdv qual = true) (hroom : A.depth < recursionLimit)
    (hbind : bindArgs (fnOf name qual params body scope dV kV doc pm an cdv ct) ⟨args, []⟩ = pure binds) (hloc : (binds.all fun x => decide (scope.names.lookup x.1 = some .local)) = true)
    (h : ∀ h₁, Fr s.heap s.heap.objs.size h₁ (fun y => binds.reverse.lookup y) →
      wpAny (model prog w) (A.deeper (envOf qual scope s.heap.objs.size f cdv)) (execs body (envOf qual scope s.heap.objs.size f cdv))
        (fun fl s' => Q (match fl with | .ret v => v | _ => .none) s')
        (fun e s' => wpAny (model prog w) (A.deeper (envOf qual scope s.heap.objs.size f cdv)) (leaving (envOf qual scope s.heap.objs.size f cdv) e) (fun _ s'' => E e s'') (fun e' s'' => E e' s'') s')
        { s with heap := h₁, toks := s.toks + binds.length })
    (hcell : ∀ x ∈ scope.names, x.2 ≠ .cell := by decide) (hco : scope.isCoroutine = false := by rfl) (hgen : scope.isGenerator = false := by rfl) (hk : scope.kind = .function := by rfl) :
    wpAny (model prog w) A (call (.ref f) args) Q E s := by
  refine wpAny_call (codeAny_call_def (fd := fnOf name qual params body scope dV kV doc pm an cdv ct) (body := body) (binds := binds) hroom (X _ _ ho) rfl hlim (codeRec_of X hcd) rfl (BindsTo.of_eq hbind) hcell (locs hloc) (fun h₁ hns hk₁ => ?_) hco hgen hk)
  exact h h₁ ⟨hns, hk₁, Nat.le_refl _⟩
end

/-- a heap that keeps another one's objects -/
abbrev Kp (h h' : Heap) : Prop := ∀ b o, h.get? b = some o → h'.get? b = some o

end Mine

open PySem PySem.W PySem.Calls PyProof.Rows
set_option Elab.async false
set_option maxRecDepth 100000
namespace Mine

/-- the 18 classes' names -/
def cn : List String := ["object", "BaseException", "Exception", "ArithmeticError", "ZeroDivisionError", "LookupError", "KeyError", "IndexError", "ValueError", "UnicodeError", "RuntimeError", "RecursionError", "KeyboardInterrupt", "Warning", "UserWarning", "int", "bool", "str"]
/-- the law's own table: what stands above a class, itself first -/
def abv : List (List Nat) := [[0], [1, 0], [2, 1, 0], [3, 2, 1, 0], [4, 3, 2, 1, 0], [5, 2, 1, 0], [6, 5, 2, 1, 0], [7, 5, 2, 1, 0], [8, 2, 1, 0], [9, 8, 2, 1, 0], [10, 2, 1, 0], [11, 10, 2, 1, 0], [12, 1, 0], [13, 2, 1, 0], [14, 13, 2, 1, 0], [15, 0], [16, 15, 0], [17, 0]]
def below (i j : Nat) : Bool := (abv.getD i []).contains j
def cname (i : Nat) : String := cn.getD i ""

theorem sub_tab : ∀ i, i < 18 → ∀ j, j < 18 → isSubtype (.type (cname i)) (.type (cname j)) = pure (below i j) := by
  have h : (List.range 18).all (fun i => (List.range 18).all fun j => match fastBuiltinMro (cname i) with | some mro => (mro.contains (.type (cname j))) == below i j | none => false) = true := by decide +kernel
  intro i hi j hj
  have h1 := List.all_eq_true.mp (List.all_eq_true.mp h i (List.mem_range.mpr hi)) j (List.mem_range.mpr hj)
  rw [isSubtype_type]
  revert h1
  cases fastBuiltinMro (cname i) with
  | none => intro h; cases h
  | some mro => intro h; rw [← beq_iff_eq.mp h]

/-- a plain built-in class -/
structure Cls (D : String) : Prop where
  mt : typeOf (.type D) = pure (.type "type")
  stub : opaqueClassAbove (.type D) = pure none
  nb : (((fastFind? D).elim [] (·.bases)).map Value.type).length ≤ sizeLine
  base : isSubtype (.type "type") (.type (".".intercalate ("object.__class__".cutAt '.').dropLast)) = pure true
theorem cls_of {D : String} (h1 : kitMeta D = true) (h2 : Manifest.isStub D = false) (h3 : ((fastFind? D).elim [] (·.bases)).length ≤ 100) : Cls D where
  nb := by rw [List.length_map, sizeLine_eq]; omega
  mt := kitMeta_of h1
  stub := by unfold opaqueClassAbove; dsimp only; rw [h2]; rfl
  base := by rw [F.owner_object_class, isSubtype_type]; kernel_rfl
theorem cls_tab : ∀ i, i < 18 → Cls (cname i) := by
  have h : (List.range 18).all (fun i => (kitMeta (cname i) && !Manifest.isStub (cname i)) && decide (((fastFind? (cname i)).elim [] (·.bases)).length ≤ 100)) = true := by decide +kernel
  intro i hi
  have h1 := List.all_eq_true.mp h i (List.mem_range.mpr hi)
  rw [Bool.and_eq_true, Bool.and_eq_true] at h1
  exact cls_of h1.1.1 (by simpa using h1.1.2) (of_decide_eq_true h1.2)


section
variable {prog : Program} {w : PySem.World} {A : Around} {E : Value → Shared → Prop} {h : Heap} {g : Array GenState} {d : Drawn} {t : Nat} {os : OsState} {D : String}
theorem inEmpty (h : Heap) : Frag.In [] h := fun _ _ e => by cases e
theorem tcls_get {R : Result → Shared → Prop} (C : Cls D) (hq : R (.ok (.ret (.type "type"))) ⟨h, g, d, t, os⟩) :
    codeAny (model prog w) A (.call (.builtin "getset_descriptor.__get__") ⟨[.builtin "object.__class__", .type D, .type "type"], []⟩) R ⟨h, g, d, t, os⟩ := by
  have hT : (⟨h, g, d, t, os⟩ : Shared).TypeIs (.type D) "type" := C.mt
  have hT5 : (⟨h, g, d, t, os⟩ : Shared).TypeIs (.builtin "object.__class__") "getset_descriptor" := F.typeOf_object_class
  have f8 := C.base
  refine codeAny_call_builtin F.slot_gs_get.plain F.entry_gs_get (F.slot_gs_get.check _ _ _ _ _ _ _ _ hT5 (F.args_gs_get _ _ _) ?_)
  repeat (any_goals (first | assumption | wp_step))
  refine ⟨Code.quiet_builtin _ (by decide +kernel), codeAny_builtin F.entry_object_class ?_⟩
  repeat (any_goals (first | assumption | wp_step))
/-- an attribute of a built-in class that its type's own descriptor gives -/
theorem tattr {name : Str} {r : CFound} {Q : Option Value → Shared → Prop} (C : Cls D) (e : findCls [] (.type D) (.type "type") name = some r)
    (hq : wpAny (model prog w) A.in1 r.run (fun fin s' => match fin with | .done (.ret v) => handedIn v = true ∧ Q (some v) s' | _ => False) (fun _ _ => False) ⟨h, g, d, t + 1, os⟩) : wpAny (model prog w) A (getAttr? (.type D) name) Q E ⟨h, g, d, t, os⟩ := by
  unfold getAttr? getAttrBy?
  refine wpAny_bind (wpAny_mkText (wpAny_bind (wpAny_attempt (wpAny_holding (wpAny_bind (wpAny_of_eq C.mt (wpAny_bind (wpAny_of_eq (KF.slot_tga.lookup) ?_))))))))
  dsimp only
  rw [show (onTheHeap (.type "type") && Value.builtin "type.__getattribute__" == Value.builtin "object.__getattribute__") = false from rfl, if_neg (by decide)]
  refine wpAny_bind (wpAny_of_eq (show hookBefore (.type "type") = pure none from rfl) (wpAny_bind (wpAny_attempt (wpAny_holding ?_))))
  unfold callGetattribute
  rw [show (false && onTheHeap (Value.builtin "type.__getattribute__")) = false from rfl, if_neg (by decide)]
  unfold boundAndCalled
  rw [KF.slot_tga.bind]
  refine wpAny_bind (wpAny_pure ?_)
  show wpAny _ _ (call (.builtin "type.__getattribute__") [.type D, .str name t]) _ _ _
  refine wpAny_call ?_
  refine codeAny_call_builtin KF.slot_tga.plain KF.entry_tga ?_
  refine @check_slot (model prog w) _ _ ⟨h, g, d, t + 1, os⟩ "type.__getattribute__" "type" "__getattribute__" (.type D) [.str name t] [] _ (by decide +kernel) (by decide +kernel) ((Looks.of_pure C.mt).andThen (Looks.of_pure (by rw [isSubtype_type]; kernel_rfl))) (KF.args_tga _ _) ?_
  refine tga_run (s := ⟨h, g, d, t + 1, os⟩) (K := []) (inEmpty _) (Looks.of_pure C.stub) (Looks.of_pure C.mt) e (wpAny_mono hq (fun fin s' z => ?_) fun _ _ z => z.elim)
  rcases fin with (_ | _ | _ | _) | _ <;> first | exact z.elim | skip
  show wpAny _ _ (handedOut _) _ _ _
  rw [handedOut_of z.1]
  exact wpAny_pure (wpAny_pure z.2)
theorem tcls_attr {Q : Option Value → Shared → Prop} (C : Cls D) (hq : Q (some (.type "type")) ⟨h, g, d, t + 1, os⟩) : wpAny (model prog w) A (getAttr? (.type D) "__class__") Q E ⟨h, g, d, t, os⟩ := by
  refine tattr C (r := .get (.builtin "getset_descriptor.__get__") (.builtin "object.__class__") (.type D) (.type "type")) (by kernel_rfl) ?_
  show wpAny _ _ (_ >>= _) _ _ _
  exact wpAny_bind (wpAny_holding (wpAny_call (tcls_get C (wpAny_pure ⟨rfl, hq⟩))))
theorem kitx_cls {K : Frag} (C : Cls D) : KitX K (.type D) (.type "type") (fun _ => True) :=
  kitx_of (fun _ _ _ => Looks.of_pure C.mt) (fun {_ _ _ _ _ s} _ k => by obtain ⟨h, g, d, t, os⟩ := s; exact tcls_attr C k)
end

-- one object of ValueError
namespace VE
theorem lk_class : typeLookup (.type "ValueError") "__class__" = pure (some (.builtin "object.__class__")) := by rw [typeLookup_type, builtinLookup_eq_fast]; kernel_rfl
theorem sub_owner : isSubtype (.type "ValueError") (.type (".".intercalate ("object.__class__".cutAt '.').dropLast)) = pure true := by
  rw [F.owner_object_class, isSubtype_type]; kernel_rfl
section
variable {prog : Program} {w : PySem.World} {A : Around} {E : Value → Shared → Prop} {h : Heap} {g : Array GenState} {d : Drawn} {t : Nat} {os : OsState} {a : Addr} {o : Obj}
theorem class_get {R : Result → Shared → Prop} (hx : h.get? a = some o) (hc : o.cls = .type "ValueError") (hq : R (.ok (.ret (.type "ValueError"))) ⟨h, g, d, t, os⟩) :
    codeAny (model prog w) A (.call (.builtin "getset_descriptor.__get__") ⟨[.builtin "object.__class__", .ref a, .type "ValueError"], []⟩) R ⟨h, g, d, t, os⟩ := by
  have hT : (⟨h, g, d, t, os⟩ : Shared).TypeIs (.ref a) "ValueError" := ⟨_, hx, hc⟩
  have hT5 : (⟨h, g, d, t, os⟩ : Shared).TypeIs (.builtin "object.__class__") "getset_descriptor" := F.typeOf_object_class
  have f8 := sub_owner
  refine codeAny_call_builtin F.slot_gs_get.plain F.entry_gs_get (F.slot_gs_get.check _ _ _ _ _ _ _ _ hT5 (F.args_gs_get _ _ _) ?_)
  repeat (any_goals (first | assumption | wp_step))
  refine ⟨Code.quiet_builtin _ (by decide +kernel), codeAny_builtin F.entry_object_class ?_⟩
  repeat (any_goals (first | assumption | wp_step))
theorem class_entry {tk : Tok} {Q : Fin → Shared → Prop} (hx : h.get? a = some o) (hc : o.cls = .type "ValueError") (hq : Q (.done (.ret (.type "ValueError"))) ⟨h, g, d, t, os⟩) :
    wpAny (model prog w) A (Builtin.«object.__getattribute__» ⟨[.ref a, .str "__class__" tk], []⟩) Q E ⟨h, g, d, t, os⟩ := by
  have hT : (⟨h, g, d, t, os⟩ : Shared).TypeIs (.ref a) "ValueError" := ⟨_, hx, hc⟩
  have hT5 : (⟨h, g, d, t, os⟩ : Shared).TypeIs (.builtin "object.__class__") "getset_descriptor" := F.typeOf_object_class
  have f4 := lk_class
  have f5 := F.typeOf_object_class
  have f6 := F.slot_gs_get.lookup
  have f7 := F.slot_gs_set.lookup
  repeat (any_goals (first | assumption | wp_step))
  refine class_get hx hc ?_
  repeat (any_goals (first | assumption | wp_step))
theorem class_call {tk : Tok} {R : Result → Shared → Prop} (hx : h.get? a = some o) (hc : o.cls = .type "ValueError") (hq : R (.ok (.ret (.type "ValueError"))) ⟨h, g, d, t, os⟩) :
    codeAny (model prog w) A (.call (.builtin "BaseException.__getattribute__") ⟨[.ref a, .str "__class__" tk], []⟩) R ⟨h, g, d, t, os⟩ :=
  codeAny_call_builtin F.attr_ValueError.ga.plain F.entry_bexc_ga (F.attr_ValueError.ga.check _ _ _ _ _ _ _ _ (show (⟨h, g, d, t, os⟩ : Shared).TypeIs (.ref a) "ValueError" from ⟨_, hx, hc⟩) (F.args_bexc_ga _ _) (class_entry hx hc hq))
theorem class_by {tk : Tok} {Q : Value → Shared → Prop} (hx : h.get? a = some o) (hc : o.cls = .type "ValueError") (hq : Q (.type "ValueError") ⟨h, g, d, t, os⟩) : wpAny (model prog w) A (getAttrBy (.ref a) (.str "__class__" tk) false) Q E ⟨h, g, d, t, os⟩ := by
  have hT : (⟨h, g, d, t, os⟩ : Shared).TypeIs (.ref a) "ValueError" := ⟨_, hx, hc⟩
  have f2 := F.attr_ValueError.ga.lookup
  have f3 := F.attr_ValueError.ga.bind (.ref a)
  repeat (any_goals (first | assumption | wp_step))
  refine class_call hx hc ?_
  repeat (any_goals (first | assumption | wp_step))
theorem class_attr {Q : Option Value → Shared → Prop} (hx : h.get? a = some o) (hc : o.cls = .type "ValueError") (hq : Q (some (.type "ValueError")) ⟨h, g, d, t + 1, os⟩) : wpAny (model prog w) A (getAttr? (.ref a) "__class__") Q E ⟨h, g, d, t, os⟩ := by
  unfold getAttr? getAttrBy?
  repeat (any_goals (first | assumption | with_reducible apply class_by hx hc | wp_step))
end
theorem kitx {K : Frag} {a : Addr} : KitX K (.ref a) (.type "ValueError") (KitAt a "ValueError") :=
  kitx_of kitAt_ty (fun {_ _ _ _ _ s} p k => by obtain ⟨h, g, d, t, os⟩ := s; obtain ⟨o, h1, h2⟩ := p; exact class_attr h1 h2 k)
end VE
end Mine

open PySem PySem.W PySem.Calls PyProof.Rows
set_option Elab.async false
set_option maxRecDepth 100000
namespace Mine
/-- behind a refused class: everything else as it was, one note of first use in the statics -/
structure Noted (h h' : Heap) : Prop where
  keeps : ∀ b o, b ≠ cStatics → h.get? b = some o → h'.get? b = some o
  stat : ∃ o es n, h'.get? cStatics = some o ∧ o.cls = .none ∧ o.data = .dict es n ∧ ∀ e ∈ es, ∃ (D : String) (t : Tok), e.key = .str (Str.ofString s!"type.__bases__:{D}") t

namespace TB
theorem typeOf_bases : typeOf (.builtin "type.__bases__") = pure (.type "getset_descriptor") := by kernel_rfl
theorem owner : (".".intercalate ("type.__bases__".cutAt '.').dropLast) = "type" := by
  have e0 : "type.__bases__".cutAt '.' = ["type", "__bases__"] := by first | rfl | decide +kernel
  rw [e0]; decide +kernel
theorem sub_owner : isSubtype (.type "type") (.type (".".intercalate ("type.__bases__".cutAt '.').dropLast)) = pure true := by
  rw [owner, isSubtype_type]; kernel_rfl
theorem entry : entryFor table "type.__bases__" = some Builtin.«type.__bases__» := entryFor_of_tree (by kernel_rfl)
theorem sub_tuple : isSubtype (.type "tuple") (.type "tuple") = pure true := by rw [isSubtype_type]; kernel_rfl
end TB
section
variable {prog : Program} {w : PySem.World} {A : Around} {E : Value → Shared → Prop} {h : Heap} {g : Array GenState} {d : Drawn} {t : Nat} {os : OsState} {D : String}
theorem nsSet_first {M : Model} {s : Shared} {name : Str} {v : Value} {Q : Unit → Shared → Prop} (hs : s.heap.get? cStatics = some { cls := .none, data := .dict #[] })
    (hQ : ∀ h' tk, (∀ b o, b ≠ cStatics → s.heap.get? b = some o → h'.get? b = some o) → (∃ o es n, h'.get? cStatics = some o ∧ o.cls = .none ∧ o.data = .dict es n ∧ ∀ e ∈ es, ∃ t : Tok, e.key = .str name t) → Q () { s with heap := h', toks := tk }) :
    wpAny M A (nsSet cStatics name v) Q E s := by
  unfold nsSet strHash
  refine wpAny_bind (wpAny_bind (wpAny_askSetting (wpAny_pure (wpAny_bind (wpAny_mkText (wpAny_bind (wpAny_loadPart hs ?_)))))))
  dsimp only
  rw [if_neg (by simp [aRefKeyMayBeTheName_eq, aRefKeyMayBeTheNameByArray])]
  refine wpAny_updatePart hs (hQ _ _ (fun b o hb e => (Heap.get?_update_other _ _ (Ne.symm hb)).trans e) ?_)
  have e1 : ∀ hh key, Obj.putName name hh key v { cls := .none, data := .dict #[] } = { cls := .none, data := .dict #[⟨hh, key, v⟩] 1 } := fun hh key => by
    rw [Obj.putName_eq]; simp [Obj.putNameByArray]
  exact ⟨_, _, _, Heap.get?_update_self _ hs (by rw [e1]; rfl), by rw [e1], by rw [e1], fun e he => by simp at he; subst he; exact ⟨_, rfl⟩⟩
theorem bases_get {R : Result → Shared → Prop} (C : Cls D) (hs : h.get? cStatics = some { cls := .none, data := .dict #[] })
    (hq : ∀ T h' tk, Noted h h' → (∃ o, h'.get? T = some o ∧ o.cls = .type "tuple") → R (.ok (.ret (.ref T))) ⟨h', g, d, tk, os⟩) :
    codeAny (model prog w) A (.call (.builtin "getset_descriptor.__get__") ⟨[.builtin "type.__bases__", .type D, .type "type"], []⟩) R ⟨h, g, d, t, os⟩ := by
  have hT : (⟨h, g, d, t, os⟩ : Shared).TypeIs (.type D) "type" := C.mt
  have hT5 : (⟨h, g, d, t, os⟩ : Shared).TypeIs (.builtin "type.__bases__") "getset_descriptor" := TB.typeOf_bases
  have f8 := TB.sub_owner
  refine codeAny_call_builtin F.slot_gs_get.plain F.entry_gs_get (F.slot_gs_get.check _ _ _ _ _ _ _ _ hT5 (F.args_gs_get _ _ _) ?_)
  repeat (any_goals (first | assumption | wp_step))
  refine ⟨Code.quiet_builtin _ (by decide +kernel), codeAny_builtin TB.entry ?_⟩
  unfold Builtin.«type.__bases__»
  show wpAny _ _ (Builtin.keptObject (.type D) 0 "__bases__" (newTuple (((Manifest.find? D).elim [] (·.bases)).map .type))) _ _ _
  unfold Builtin.keptObject
  have hns : h.Ns cStatics (fun _ => none) := ⟨_, #[], 0, hs, rfl, fun _ h => by simp at h, fun _ => rfl⟩
  refine wpAny_bind (wpAny_nsGet (s := ⟨h, g, d, t, os⟩) hns ?_)
  refine wpAny_bind ?_
  unfold newTuple
  refine wpAny_newObj_type ?_ (by rw [find?_eq_fast]; show (List.map Value.type _).toArray.size ≤ sizeLine; rw [List.size_toArray]; exact C.nb)
  dsimp only
  refine wpAny_bind ?_
  refine nsSet_first (Heap.get?_push_of_some _ hs) fun h' tk hk hst => ?_
  have hlt : cStatics < h.objs.size := Heap.lt_size hs
  refine wpAny_pure (hq _ _ _ ⟨fun b o hb e => hk b o hb (Heap.get?_push_of_some _ e), ?_⟩ ?_)
  · obtain ⟨o, es, n, h1, h2, h3, h4⟩ := hst
    refine ⟨o, es, n, h1, h2, h3, fun e he => ?_⟩
    obtain ⟨t', h5⟩ := h4 e he
    exact ⟨D, t', h5⟩
  · exact ⟨_, hk _ _ (Nat.ne_of_gt hlt) (Heap.get?_push_size _ rfl), rfl⟩
theorem tcls_hasBases {Q : Bool → Shared → Prop} (C : Cls D) (hs : h.get? cStatics = some { cls := .none, data := .dict #[] })
    (hq : ∀ h' tk, Noted h h' → Q true ⟨h', g, d, tk, os⟩) : wpAny (model prog w) A (Builtin.Builtins.hasBases (.type D)) Q E ⟨h, g, d, t, os⟩ := by
  unfold Builtin.Builtins.hasBases
  refine wpAny_bind (tattr C (r := .get (.builtin "getset_descriptor.__get__") (.builtin "type.__bases__") (.type D) (.type "type")) (by kernel_rfl) ?_)
  show wpAny _ _ (_ >>= _) _ _ _
  refine wpAny_bind (wpAny_holding (wpAny_call (bases_get C hs fun T h' tk hn ho => wpAny_pure ⟨rfl, ?_⟩)))
  dsimp only
  exact wpAny_isInstance (T := "tuple") (b := true) ho TB.sub_tuple (hq _ _ hn)
end

/-- a value that is no class: its type, and what it lacks -/
structure NoCls (c : Value) (T : String) (H : Heap → Prop) : Prop where
  ty : ∀ (s : Shared), H s.heap → s.TypeIs c T
  nt : (Value.type T == Value.type "type") = false
  nu : (Value.type T == Value.type "types.UnionType") = false
  tup : isSubtype (.type T) (.type "tuple") = pure false
  it : ∀ {M : Model} {A : Around} {E : Value → Shared → Prop} {Q : Bool → Shared → Prop} {s : Shared}, H s.heap → Q false s → wpAny M A (isType c) Q E s
  sc : typeLookup (.type T) "__subclasscheck__" = pure none
  bs : ∀ {prog : Program} {w : PySem.World} {A : Around} {E : Value → Shared → Prop} {Q : Option Value → Shared → Prop} {s : Shared}, H s.heap → A.handled = none →
    (∀ h' tk, (∀ b o, s.heap.get? b = some o → h'.get? b = some o) → Q none { s with heap := h', toks := tk }) → wpAny (model prog w) A (getAttr? c "__bases__") Q E s
  keeps : ∀ h h' : Heap, H h → (∀ b o, b ≠ cStatics → h.get? b = some o → h'.get? b = some o) → H h'

section
variable {prog : Program} {w : PySem.World} {A : Around} {E : Value → Shared → Prop} {s : Shared} {c : Value} {T D : String} {H : Heap → Prop}
theorem issub_bad {k : Int} {u : Tok} {Q : Fin → Shared → Prop} (C : Cls D) (Z : NoCls c T H) (p : H s.heap) (hh : A.handled = none) (hu : A.units < cLine) (hs : s.heap.get? cStatics = some { cls := .none, data := .dict #[] })
    (hE : ∀ h' h'' tk e, Noted s.heap h' → Heap.NewExc h' h'' e "TypeError" → E (.ref e) { s with heap := h'', toks := tk }) :
    wpAny (model prog w) A (Builtin.«issubclass.nested» ⟨[.type D, c, .int k u], []⟩) Q E s := by
  obtain ⟨h, g, d, t, os⟩ := s
  dsimp only at p hs hE
  unfold Builtin.«issubclass.nested»
  have hT : (⟨h, g, d, t, os⟩ : Shared).TypeIs c T := Z.ty ⟨h, g, d, t, os⟩ p
  refine wpAny_bind (wpAny_typeOf hT ?_)
  rw [if_neg (by rw [Z.nt]; decide)]
  unfold Builtin.Builtins.unionMembers
  refine wpAny_bind (wpAny_bind (wpAny_typeOf hT ?_))
  rw [if_neg (by rw [Z.nu]; decide)]
  refine wpAny_pure (wpAny_bind (wpAny_isInstance hT Z.tup ?_))
  rw [if_neg (by decide)]
  refine wpAny_bind (wpAny_cRoom hu ?_)
  refine wpAny_bind ?_
  refine wpAny_callSpecial?_none hT Z.sc ?_
  dsimp only
  refine wpAny_bind ?_
  repeat (any_goals (first | assumption | wp_step))
  show wpAny _ _ (isType c) _ _ _
  refine Z.it (s := ⟨h, g, d, t, os⟩) p ?_
  rw [if_neg (by decide)]
  refine wpAny_bind (tcls_hasBases C hs fun h₁ tk₁ hn => ?_)
  dsimp only
  rw [if_neg (by decide)]
  have p₁ : H h₁ := Z.keeps _ _ p hn.keeps
  refine wpAny_bind ?_
  unfold Builtin.Builtins.hasBases
  refine wpAny_bind (Z.bs (s := ⟨h₁, g, d, tk₁, os⟩) p₁ hh fun h₂ tk₂ hk => ?_)
  refine wpAny_pure ?_
  dsimp only
  rw [if_pos (by decide)]
  refine wpAny_bind (wpAny_rule (wpAny_bind (wpAny_raiseTypeErrorWords hh fun h₃ tk₃ e hx => ?_)))
  exact hE h₂ h₃ _ e ⟨fun b o hb q => hk b o (hn.keeps b o hb q), by
    obtain ⟨o, es, n, q1, q2⟩ := hn.stat
    exact ⟨o, es, n, hk _ _ q1, q2⟩⟩ hx

theorem issub_ok {i j : Nat} {k : Int} {u : Tok} {Q : Fin → Shared → Prop} (hi : i < 18) (hj : j < 18) (h : Q (.done (.ret (.bool (below i j)))) s) :
    wpAny (model prog w) A (Builtin.«issubclass.nested» ⟨[.type (cname i), .type (cname j), .int k u], []⟩) Q E s := by
  unfold Builtin.«issubclass.nested»
  refine wpAny_bind (wpAny_of_eq (cls_tab j hj).mt ?_)
  rw [if_pos (by decide)]
  refine wpAny_bind ?_
  repeat (any_goals (first | assumption | wp_step))
  exact wpAny_of_eq (sub_tab i hi j hj) (wpAny_pure h)
end

-- the five things that are no class
theorem miss_bases {T : String} (h : (match fastLookup T "__bases__" with | some none => true | _ => false) = true) : typeLookup (.type T) "__bases__" = pure none := am_miss_of_fast h
section
variable {prog : Program} {w : PySem.World} {A : Around} {E : Value → Shared → Prop} {s : Shared}
set_option maxHeartbeats 2000000 in
theorem bs_none {Q : Option Value → Shared → Prop} (hh : A.handled = none) (hq : ∀ h' tk, (∀ b o, s.heap.get? b = some o → h'.get? b = some o) → Q none { s with heap := h', toks := tk }) :
    wpAny (model prog w) A (getAttr? .none "__bases__") Q E s := by
  obtain ⟨hp, g, d, tk, os⟩ := s
  have hmiss : typeLookup (.type "NoneType") "__bases__" = pure none := miss_bases (by decide +kernel)
  have hT : ∀ s' : Shared, s'.TypeIs (.none) "NoneType" := fun _ => rfl
  have f1 := sub_AttributeError
  have f3 := F.slot_NoneType_getattribute.lookup
  have f4 := F.slot_NoneType_getattribute.bind (.none)
  have f5 := am_none_getattr_none
  unfold getAttr? getAttrBy? getAttrBy
  repeat (any_goals (first | assumption | ((with_reducible show wpAny _ _ (call (Value.builtin "object.__getattribute__") _ _) _ _ _); refine call_meets F.slot_NoneType_getattribute (hT _) F.entry_object_getattribute (F.args_object_getattribute_2 _ _) (meets_getattribute_miss_none "__bases__" _ hmiss) ⟨hh, fun h' tk' e hx => ?_⟩) | wp_step))
  obtain ⟨t', u', he⟩ := hx.there
  show wpAny _ _ (getattributeRaised _ _ _ _ _ _ _) _ _ _
  unfold getattributeRaised
  repeat (any_goals (first | assumption | wp_step))
  exact hq h' tk' hx.keeps
set_option maxHeartbeats 2000000 in
theorem bs_int {n : Int} {t : Tok} {Q : Option Value → Shared → Prop} (hh : A.handled = none) (hq : ∀ h' tk, (∀ b o, s.heap.get? b = some o → h'.get? b = some o) → Q none { s with heap := h', toks := tk }) :
    wpAny (model prog w) A (getAttr? (.int n t) "__bases__") Q E s := by
  obtain ⟨hp, g, d, tk, os⟩ := s
  have hmiss : typeLookup (.type "int") "__bases__" = pure none := miss_bases (by decide +kernel)
  have hT : ∀ s' : Shared, s'.TypeIs (.int n t) "int" := fun _ => rfl
  have f1 := sub_AttributeError
  have f3 := F.slot_int_getattribute.lookup
  have f4 := F.slot_int_getattribute.bind (.int n t)
  have f5 := am_int_getattr_none
  unfold getAttr? getAttrBy? getAttrBy
  repeat (any_goals (first | assumption | ((with_reducible show wpAny _ _ (call (Value.builtin "int.__getattribute__") _ _) _ _ _); refine call_meets F.slot_int_getattribute (hT _) am_entry_int_getattribute (F.args_int_getattribute_2 _ _) (meets_getattribute_miss_int n t "__bases__" _ hmiss) ⟨hh, fun h' tk' e hx => ?_⟩) | wp_step))
  obtain ⟨t', u', he⟩ := hx.there
  show wpAny _ _ (getattributeRaised _ _ _ _ _ _ _) _ _ _
  unfold getattributeRaised
  repeat (any_goals (first | assumption | wp_step))
  exact hq h' tk' hx.keeps
set_option maxHeartbeats 2000000 in
theorem bs_str {x : Str} {t : Tok} {Q : Option Value → Shared → Prop} (hh : A.handled = none) (hq : ∀ h' tk, (∀ b o, s.heap.get? b = some o → h'.get? b = some o) → Q none { s with heap := h', toks := tk }) :
    wpAny (model prog w) A (getAttr? (.str x t) "__bases__") Q E s := by
  obtain ⟨hp, g, d, tk, os⟩ := s
  have hmiss : typeLookup (.type "str") "__bases__" = pure none := miss_bases (by decide +kernel)
  have hT : ∀ s' : Shared, s'.TypeIs (.str x t) "str" := fun _ => rfl
  have f1 := sub_AttributeError
  have f3 := F.slot_str_getattribute.lookup
  have f4 := F.slot_str_getattribute.bind (.str x t)
  have f5 := am_str_getattr_none
  unfold getAttr? getAttrBy? getAttrBy
  repeat (any_goals (first | assumption | ((with_reducible show wpAny _ _ (call (Value.builtin "object.__getattribute__") _ _) _ _ _); refine call_meets F.slot_str_getattribute (hT _) F.entry_object_getattribute (F.args_object_getattribute_2 _ _) (meets_getattribute_miss_str x t "__bases__" _ hmiss) ⟨hh, fun h' tk' e hx => ?_⟩) | wp_step))
  obtain ⟨t', u', he⟩ := hx.there
  show wpAny _ _ (getattributeRaised _ _ _ _ _ _ _) _ _ _
  unfold getattributeRaised
  repeat (any_goals (first | assumption | wp_step))
  exact hq h' tk' hx.keeps
set_option maxHeartbeats 2000000 in
theorem bs_list {a : Addr} {xs : Array Value} {k : Nat} {Q : Option Value → Shared → Prop} (hx : s.heap.get? a = some { cls := .type "list", data := .seq xs k }) (hh : A.handled = none) (hq : ∀ h' tk, (∀ b o, s.heap.get? b = some o → h'.get? b = some o) → Q none { s with heap := h', toks := tk }) :
    wpAny (model prog w) A (getAttr? (.ref a) "__bases__") Q E s := by
  obtain ⟨hp, g, d, tk, os⟩ := s
  have hmiss : typeLookup (.type "list") "__bases__" = pure none := miss_bases (by decide +kernel)
  have hT : ∀ tk', (⟨hp, g, d, tk', os⟩ : Shared).TypeIs (.ref a) "list" := fun _ => ⟨_, hx, rfl⟩
  have f1 := sub_AttributeError
  have f3 := F.slot_list_getattribute.lookup
  have f4 := F.slot_list_getattribute.bind (.ref a)
  have f5 := am_list_getattr_none
  unfold getAttr? getAttrBy? getAttrBy
  repeat (any_goals (first | assumption | exact hT _ | ((with_reducible show wpAny _ _ (call (Value.builtin "list.__getattribute__") _ _) _ _ _); refine call_meets F.slot_list_getattribute (hT _) am_entry_list_getattribute (F.args_list_getattribute_2 _ _) (meets_getattribute_miss_list a xs k #[] "__bases__" _ hmiss (by decide)) ⟨hx, hh, fun h' tk' e hx' => ?_⟩) | wp_step))
  obtain ⟨t', u', he⟩ := hx'.there
  show wpAny _ _ (getattributeRaised _ _ _ _ _ _ _) _ _ _
  unfold getattributeRaised
  repeat (any_goals (first | assumption | wp_step))
  exact hq h' tk' hx'.keeps
end
end Mine

open PySem PySem.W PySem.Calls PyProof.Rows
set_option Elab.async false
set_option maxRecDepth 100000
namespace Mine
section
variable {prog : Program} {w : PySem.World} {A : Around} {E : Value → Shared → Prop} {s : Shared}
theorem meets_miss_exc (a : Addr) (vs : Array Value) (u : Tok) (hmiss : typeLookup (.type "ValueError") "__bases__" = pure none) :
    Meets (Builtin.«object.__getattribute__» ⟨[.ref a, .str "__bases__" u], []⟩) (fun A R s => s.heap.get? a = some { cls := .type "ValueError", data := .fields vs } ∧ raisesAttr (.ref a) "__bases__" A R s) :=
  Meets.of_wp fun prog w A R s hs => by
    obtain ⟨hp, g, d, tk, os⟩ := s
    obtain ⟨hx, hs⟩ := hs
    have hT : (⟨hp, g, d, tk, os⟩ : Shared).TypeIs (.ref a) "ValueError" := ⟨_, hx, rfl⟩
    have hname : (["__module__", "__name__", "__qualname__", "__doc__", "__annotations__"] : List Str).contains ("__bases__" : Str) = false := by decide
    unfold Builtin.«object.__getattribute__»
    repeat (any_goals (first | assumption | wp_step))
    try simp only [hname, Bool.false_eq_true, if_false]
    repeat (any_goals (first | assumption | wp_step))
    exact wpAny_raiseAttrError hs.1 hs.2 (attrMsg_fits (by decide +kernel) (by decide +kernel))
theorem bs_exc {a : Addr} {vs : Array Value} {Q : Option Value → Shared → Prop} (hx : s.heap.get? a = some { cls := .type "ValueError", data := .fields vs }) (hh : A.handled = none) (hq : ∀ h' tk, (∀ b o, s.heap.get? b = some o → h'.get? b = some o) → Q none { s with heap := h', toks := tk }) :
    wpAny (model prog w) A (getAttr? (.ref a) "__bases__") Q E s := by
  obtain ⟨hp, g, d, tk, os⟩ := s
  have hmiss : typeLookup (.type "ValueError") "__bases__" = pure none := miss_bases (by decide +kernel)
  have hT : ∀ tk', (⟨hp, g, d, tk', os⟩ : Shared).TypeIs (.ref a) "ValueError" := fun _ => ⟨_, hx, rfl⟩
  have f1 := sub_AttributeError
  have f3 := F.attr_ValueError.ga.lookup
  have f4 := F.attr_ValueError.ga.bind (.ref a)
  have f5 := F.attrBase_ValueError.noGetattr
  unfold getAttr? getAttrBy? getAttrBy
  repeat (any_goals (first | assumption | exact hT _ | ((with_reducible show wpAny _ _ (call (Value.builtin "BaseException.__getattribute__") _ _) _ _ _); refine call_meets F.attr_ValueError.ga (hT _) F.entry_bexc_ga (F.args_bexc_ga _ _) (meets_miss_exc a vs _ hmiss) ⟨hx, hh, fun h' tk' e hx' => ?_⟩) | wp_step))
  obtain ⟨t', u', he⟩ := hx'.there
  show wpAny _ _ (getattributeRaised _ _ _ _ _ _ _) _ _ _
  unfold getattributeRaised
  repeat (any_goals (first | assumption | wp_step))
  exact hq h' tk' hx'.keeps
end
theorem no_sub {T : String} (h : (match fastLookup T "__subclasscheck__" with | some none => true | _ => false) = true) : typeLookup (.type T) "__subclasscheck__" = pure none := am_miss_of_fast h
theorem noCls_none : NoCls .none "NoneType" (fun _ => True) where
  ty := fun _ _ => rfl
  nt := by decide
  nu := by decide
  tup := by rw [isSubtype_type]; kernel_rfl
  it := fun _ h => wpAny_bind (wpAny_of_eq (show notAStandIn .none = pure () from rfl) (wpAny_pure h))
  sc := no_sub (by decide +kernel)
  bs := fun _ => bs_none
  keeps := fun _ _ _ _ => trivial
theorem noCls_int {n : Int} {t : Tok} : NoCls (.int n t) "int" (fun _ => True) where
  ty := fun _ _ => rfl
  nt := by decide
  nu := by decide
  tup := by rw [isSubtype_type]; kernel_rfl
  it := fun _ h => wpAny_bind (wpAny_of_eq (show notAStandIn (.int n t) = pure () from rfl) (wpAny_pure h))
  sc := no_sub (by decide +kernel)
  bs := fun _ => bs_int
  keeps := fun _ _ _ _ => trivial
theorem noCls_str {x : Str} {t : Tok} : NoCls (.str x t) "str" (fun _ => True) where
  ty := fun _ _ => rfl
  nt := by decide
  nu := by decide
  tup := by rw [isSubtype_type]; kernel_rfl
  it := fun _ h => wpAny_bind (wpAny_of_eq (show notAStandIn (.str x t) = pure () from rfl) (wpAny_pure h))
  sc := no_sub (by decide +kernel)
  bs := fun _ => bs_str
  keeps := fun _ _ _ _ => trivial
theorem not_statics {h : Heap} {a : Addr} {o : Obj} (hc : ∀ o, h.get? cStatics = some o → o.cls = .none) (e : h.get? a = some o) (ho : o.cls ≠ .none) : a ≠ cStatics := fun q => ho (hc o (q ▸ e))
theorem noCls_list {a : Addr} {xs : Array Value} {k : Nat} (hne : a ≠ cStatics) : NoCls (.ref a) "list" (fun h => h.get? a = some { cls := .type "list", data := .seq xs k }) where
  ty := fun _ p => ⟨_, p, rfl⟩
  nt := by decide
  nu := by decide
  tup := by rw [isSubtype_type]; kernel_rfl
  it := fun p h => wpAny_bind (wpAny_loadPart p (wpAny_pure h))
  sc := no_sub (by decide +kernel)
  bs := fun p => bs_list p
  keeps := fun _ _ p k => k a _ hne p
theorem noCls_exc {a : Addr} {vs : Array Value} (hne : a ≠ cStatics) : NoCls (.ref a) "ValueError" (fun h => h.get? a = some { cls := .type "ValueError", data := .fields vs }) where
  ty := fun _ p => ⟨_, p, rfl⟩
  nt := by decide
  nu := by decide
  tup := by rw [isSubtype_type]; kernel_rfl
  it := fun p h => wpAny_bind (wpAny_loadPart p (wpAny_pure h))
  sc := no_sub (by decide +kernel)
  bs := fun p => bs_exc p
  keeps := fun _ _ p k => k a _ hne p
end Mine

open PySem PySem.W PySem.Calls PyProof.Rows
set_option Elab.async false
set_option maxRecDepth 100000
namespace Mine
/-- a tree of things, by their numbers -/
inductive T where
  | leaf (n : Nat)
  | node (l : List T)

theorem T.ind {P : T → Prop} (hl : ∀ n, P (.leaf n)) (hn : ∀ l, (∀ t ∈ l, P t) → P (.node l)) : ∀ t, P t := by
  intro t
  refine T.rec (motive_1 := P) (motive_2 := fun l => ∀ t ∈ l, P t) hl (fun l ih => hn l ih) (fun t h => by cases h) (fun a l ha hl t ht => ?_) t
  rcases List.mem_cons.mp ht with rfl | ht
  · exact ha
  · exact hl t ht

abbrev seqOf (ty : String) (vs : List Value) (n : Nat) : Obj := { cls := .type ty, data := .seq vs.toArray n }

mutual
def TreeAt (h : Heap) (ty : String) (lf : Nat → Value → Prop) : T → Value → Prop
  | .leaf n, v => lf n v
  | .node l, v => ∃ a vs n, v = .ref a ∧ h.get? a = some (seqOf ty vs n) ∧ TreesAt h ty lf l vs
def TreesAt (h : Heap) (ty : String) (lf : Nat → Value → Prop) : List T → List Value → Prop
  | [], vs => vs = []
  | t :: ts, vs => ∃ v r, vs = v :: r ∧ TreeAt h ty lf t v ∧ TreesAt h ty lf ts r
end
mutual
def T.ht : T → Nat
  | .leaf _ => 0
  | .node l => T.htL l + 1
def T.htL : List T → Nat
  | [] => 0
  | t :: ts => max (T.ht t) (T.htL ts)
end
mutual
def T.leaves : T → List Nat
  | .leaf n => [n]
  | .node l => T.leavesL l
def T.leavesL : List T → List Nat
  | [] => []
  | t :: ts => T.leaves t ++ T.leavesL ts
end
-- a class, held against a tree of classes: none is TypeError
mutual
def pas (i : Nat) : T → Option Bool
  | .leaf j => if j < 18 then some (below i j) else none
  | .node l => pasL i l
def pasL (i : Nat) : List T → Option Bool
  | [] => some false
  | t :: ts => match pas i t with
    | some true => some true
    | some false => pasL i ts
    | none => none
end
-- _is_subtype itself
mutual
def isub (u : T) : T → Option Bool
  | .leaf i => if i < 18 then pas i u else some false
  | .node l => isubL u l
def isubL (u : T) : List T → Option Bool
  | [] => some true
  | t :: ts => match isub u t with
    | some true => isubL u ts
    | r => r
end
theorem T.ht_mem {t : T} : ∀ {l : List T}, t ∈ l → t.ht ≤ T.htL l
  | a :: l, h => by
    rw [T.htL]
    rcases List.mem_cons.mp h with rfl | h
    · omega
    · have := T.ht_mem h; omega

/-- one of the 23 things -/
def Thing (h : Heap) (i : Nat) (v : Value) : Prop :=
  (i < 18 ∧ v = .type (cname i)) ∨ (i = 18 ∧ v = .none) ∨ (i = 19 ∧ ∃ t, v = .int 5 t) ∨ (i = 20 ∧ ∃ t, v = .str (Str.ofString "KeyError") t) ∨
  (i = 21 ∧ ∃ a xs n, v = .ref a ∧ h.get? a = some { cls := .type "list", data := .seq xs n }) ∨ (i = 22 ∧ ∃ a vs, v = .ref a ∧ h.get? a = some { cls := .type "ValueError", data := .fields vs })

theorem Thing.mono {h h' : Heap} (k : ∀ b o, h.get? b = some o → h'.get? b = some o) {i : Nat} {v : Value} (x : Thing h i v) : Thing h' i v := by
  rcases x with x | x | x | x | ⟨e, a, xs, n, q, r⟩ | ⟨e, a, vs, q, r⟩
  · exact .inl x
  · exact .inr (.inl x)
  · exact .inr (.inr (.inl x))
  · exact .inr (.inr (.inr (.inl x)))
  · exact .inr (.inr (.inr (.inr (.inl ⟨e, a, xs, n, q, k _ _ r⟩))))
  · exact .inr (.inr (.inr (.inr (.inr ⟨e, a, vs, q, k _ _ r⟩))))

mutual
theorem TreeAt.mono {h h' : Heap} {ty : String} {lf lf' : Nat → Value → Prop} (k : ∀ b o, h.get? b = some o → o.cls = .type ty → h'.get? b = some o) (hl : ∀ n v, lf n v → lf' n v) : ∀ (t : T) (v : Value), TreeAt h ty lf t v → TreeAt h' ty lf' t v
  | .leaf n, v, x => by rw [TreeAt] at x ⊢; exact hl n v x
  | .node l, v, x => by
    rw [TreeAt] at x ⊢
    obtain ⟨a, vs, n, e, ho, r⟩ := x
    exact ⟨a, vs, n, e, k _ _ ho rfl, TreesAt.mono k hl l vs r⟩
theorem TreesAt.mono {h h' : Heap} {ty : String} {lf lf' : Nat → Value → Prop} (k : ∀ b o, h.get? b = some o → o.cls = .type ty → h'.get? b = some o) (hl : ∀ n v, lf n v → lf' n v) : ∀ (l : List T) (vs : List Value), TreesAt h ty lf l vs → TreesAt h' ty lf' l vs
  | [], vs, x => by rw [TreesAt] at x ⊢; exact x
  | t :: ts, vs, x => by
    rw [TreesAt] at x ⊢
    obtain ⟨v, r, e, x1, x2⟩ := x
    exact ⟨v, r, e, TreeAt.mono k hl t v x1, TreesAt.mono k hl ts r x2⟩
end

theorem entry_issub_nested : entryFor table "issubclass.nested" = some Builtin.«issubclass.nested» := entryFor_of_tree (by kernel_rfl)
theorem entry_issub : entryFor table "issubclass" = some Builtin.«issubclass» := entryFor_of_tree (by kernel_rfl)
theorem kind_issub_nested : builtinKind "issubclass.nested" = none := by decide +kernel
theorem plain_issub_nested : plainId "issubclass.nested" = true := by decide +kernel
theorem args_issub_nested (a b c : Value) : argsOk "issubclass.nested" ⟨[a, b, c], []⟩ := by unfold argsOk; kernel_rfl
theorem kind_issub : builtinKind "issubclass" = none := by decide +kernel
theorem plain_issub : plainId "issubclass" = true := by decide +kernel
theorem args_issub (a b : Value) : argsOk "issubclass" ⟨[a, b], []⟩ := by unfold argsOk; kernel_rfl

section
variable {prog : Program} {w : PySem.World}
/-- the refusal: what stands behind a TypeError out of issubclass -/
def Refused (s : Shared) (E : Value → Shared → Prop) : Prop := ∀ h' h'' tk e, Noted s.heap h' → Heap.NewExc h' h'' e "TypeError" → E (.ref e) { s with heap := h'', toks := tk }

theorem issub_leaf {A : Around} {E : Value → Shared → Prop} {Q : Fin → Shared → Prop} {s : Shared} {i j : Nat} {v : Value} {k : Int} {tk : Tok} (hi : i < 18) (x : Thing s.heap j v) (hh : A.handled = none) (hu : A.units < cLine)
    (hs : s.heap.get? cStatics = some { cls := .none, data := .dict #[] })
    (hQ : ∀ b, pas i (.leaf j) = some b → Q (.done (.ret (.bool b))) s) (hE : pas i (.leaf j) = none → Refused s E) :
    wpAny (model prog w) A (Builtin.«issubclass.nested» ⟨[.type (cname i), v, .int k tk], []⟩) Q E s := by
  rw [pas] at hQ hE
  have C := cls_tab i hi
  have bad : 18 ≤ j → Refused s E := fun hj => hE (by rw [if_neg (by omega)])
  rcases x with ⟨hj, rfl⟩ | ⟨e, rfl⟩ | ⟨e, t, rfl⟩ | ⟨e, t, rfl⟩ | ⟨e, a, xs, n, rfl, r⟩ | ⟨e, a, vs, rfl, r⟩
  · exact issub_ok hi hj (hQ _ (by rw [if_pos hj]))
  · exact issub_bad C noCls_none trivial hh hu hs (bad (by omega))
  · exact issub_bad C noCls_int trivial hh hu hs (bad (by omega))
  · exact issub_bad C noCls_str trivial hh hu hs (bad (by omega))
  · exact issub_bad C (noCls_list fun q => by rw [q, hs] at r; cases r) r hh hu hs (bad (by omega))
  · exact issub_bad C (noCls_exc fun q => by rw [q, hs] at r; cases r) r hh hu hs (bad (by omega))

theorem issub_items {i : Nat} {A : Around} {E : Value → Shared → Prop} {s : Shared} {k : Nat} (hs : s.heap.get? cStatics = some { cls := .none, data := .dict #[] }) : ∀ (l : List T) (vs : List Value) (Q : Option Fin × Unit → Shared → Prop),
    TreesAt s.heap "tuple" (Thing s.heap) l vs →
    (∀ t ∈ l, ∀ (E' : Value → Shared → Prop) (Q' : Fin → Shared → Prop) (v : Value) (tk : Tok), TreeAt s.heap "tuple" (Thing s.heap) t v → (∀ b, pas i t = some b → Q' (.done (.ret (.bool b))) s) → (pas i t = none → Refused s E') →
      wpAny (model prog w) A.in1 (Builtin.«issubclass.nested» ⟨[.type (cname i), v, .int (k + 1 : Nat) tk], []⟩) Q' E' s) →
    (∀ b, pasL i l = some b → Q (if b then some (.done (.ret (.bool true))) else none, ()) s) → (pasL i l = none → Refused s E) →
    wpAny (model prog w) A (forIn vs ((none : Option Fin), ()) fun c _ => do
      if ← truthy (← call (.builtin "issubclass.nested") [.type (cname i), c, rawInt ((k : Int) + 1)]) then
        let r ← ret (.bool true)
        pure (ForInStep.done (some r, ()))
      else pure (ForInStep.yield (none, ()))) Q E s
  | [], vs, Q, x, ih, hQ, hE => by
    rw [TreesAt] at x
    subst x
    exact wpAny_pure (hQ false (by rw [pasL]))
  | t :: ts, vs, Q, x, ih, hQ, hE => by
    rw [TreesAt] at x
    obtain ⟨v, r, rfl, x1, x2⟩ := x
    rw [List.forIn_cons]
    rw [pasL] at hQ hE
    refine wpAny_bind (wpAny_bind (Calls.call_function_entry kind_issub_nested plain_issub_nested entry_issub_nested (args_issub_nested _ _ _) ?_))
    refine ih t (List.mem_cons_self ..) _ _ v _ x1 (fun b e => ⟨_, rfl, ?_⟩) (fun e => hE (by rw [e]))
    rw [e] at hQ hE
    cases b with
    | true =>
      show wpAny _ _ (truthy (.bool true) >>= _) _ _ _
      refine wpAny_bind (m := truthy (.bool true)) (wpAny_pure ?_)
      exact wpAny_bind (wpAny_pure (wpAny_pure (wpAny_pure (hQ true rfl))))
    | false =>
      show wpAny _ _ (truthy (.bool false) >>= _) _ _ _
      refine wpAny_bind (m := truthy (.bool false)) (wpAny_pure ?_)
      exact wpAny_pure (issub_items hs ts r Q x2 (fun t' ht' => ih t' (List.mem_cons_of_mem _ ht')) hQ hE)

theorem issub_tree {i : Nat} (hi : i < 18) : ∀ (u : T) (A : Around) (E : Value → Shared → Prop) (Q : Fin → Shared → Prop) (s : Shared) (v : Value) (k : Nat) (tk : Tok), TreeAt s.heap "tuple" (Thing s.heap) u v → A.handled = none →
    A.units + 2 * u.ht < cLine → k + u.ht < 900 → s.heap.get? cStatics = some { cls := .none, data := .dict #[] } →
    (∀ b, pas i u = some b → Q (.done (.ret (.bool b))) s) → (pas i u = none → Refused s E) →
    wpAny (model prog w) A (Builtin.«issubclass.nested» ⟨[.type (cname i), v, .int k tk], []⟩) Q E s := by
  refine T.ind (fun j A E Q s v k tk x hh hu _ hs hQ hE => ?_) fun l ih A E Q s v k tk x hh hu hk hs hQ hE => ?_
  · rw [TreeAt] at x
    exact issub_leaf hi x hh (by omega) hs hQ hE
  · rw [TreeAt] at x
    obtain ⟨a, vs, n, rfl, ho, xs⟩ := x
    rw [T.ht] at hu hk
    rw [pas] at hQ hE
    unfold Builtin.«issubclass.nested»
    have hT : s.TypeIs (.ref a) "tuple" := ⟨_, ho, rfl⟩
    refine wpAny_bind (wpAny_typeOf hT ?_)
    rw [if_neg (by decide)]
    unfold Builtin.Builtins.unionMembers
    refine wpAny_bind (wpAny_bind (wpAny_typeOf hT ?_))
    rw [if_neg (by decide)]
    refine wpAny_pure (wpAny_bind (wpAny_isInstance hT F.isi_sub_tuple ?_))
    rw [if_pos (by decide)]
    rw [if_neg (by unfold Builtin.Builtins.nestingLimit; omega)]
    refine wpAny_bind (wpAny_seqItems ho rfl ?_)
    refine wpAny_bind (wpAny_arrayLoop ?_)
    simp only [Option.getD_some, List.toList_toArray]
    refine issub_items hs l vs _ xs (fun t ht E' Q' v tk' x hq he => ih t ht _ _ _ _ v (k + 1) tk' x hh ?_ ?_ hs hq he) (fun b e => ?_) hE
    · have := T.ht_mem ht; show A.units + 1 + 2 * t.ht < cLine; omega
    · have := T.ht_mem ht; omega
    · cases b with
      | true => exact wpAny_pure (hQ true e)
      | false => exact wpAny_pure (hQ false e)

/-- a built-in function of the table, whatever its body ends with -/
theorem call_fn {A : Around} {E : Value → Shared → Prop} {s : Shared} {id : String} {b : Builtin} {args : List Value} {Q : Value → Shared → Prop} (hk : builtinKind id = none) (hp : plainId id = true)
    (hb : entryFor table id = some b) (ha : argsOk id ⟨args, []⟩)
    (hc : wpAny (model prog w) A.in1 (b ⟨args, []⟩) (fun fin s' => match fin with
      | .done (.ret v) => Q v s'
      | .done _ => False
      | .again c' => c'.quiet = true ∧ codeAny (model prog w) A c' (fun r s' => match r with | .ok (.ret v) => Q v s' | .ok _ => False | .error e => E e s') s') E s) : wpAny (model prog w) A (call (.builtin id) args) Q E s := by
  refine call_function_tree hk hp hb ha (wpAny_mono hc (fun fin s' z => ?_) fun _ _ z => z)
  rcases fin with f | c
  · cases f <;> exact z
  · exact z
theorem code_fn {A : Around} {R : Result → Shared → Prop} {s : Shared} {id : String} {b : Builtin} {args : Args} (hp : plainId id = true) (hb : entryFor table id = some b)
    (h : wpAny (model prog w) A.in1 (b args) (fun fin s' => match fin with | .done f => R (.ok f) s' | .again c' => c'.quiet = true ∧ codeAny (model prog w) A c' R s') (fun e s' => R (.error e) s') s) :
    codeAny (model prog w) A (.builtin id args) R s := by
  refine codeAny_builtin hb ?_
  rw [Around.under_plainId hp args]; exact h

theorem issub_call {i : Nat} (hi : i < 18) (u : T) {A : Around} {E : Value → Shared → Prop} {Q : Value → Shared → Prop} {s : Shared} {v : Value} (x : TreeAt s.heap "tuple" (Thing s.heap) u v) (hh : A.handled = none)
    (hu : A.units + 2 * u.ht + 4 < cLine) (hk : u.ht < 900) (hs : s.heap.get? cStatics = some { cls := .none, data := .dict #[] })
    (hQ : ∀ b, pas i u = some b → Q (.bool b) s) (hE : pas i u = none → Refused s E) :
    wpAny (model prog w) A (call (.builtin "issubclass") [.type (cname i), v]) Q E s := by
  refine call_fn kind_issub plain_issub entry_issub (args_issub _ _) ?_
  show wpAny _ _ (again _) _ _ _
  refine wpAny_pure ⟨Code.quiet_builtin _ (by decide +kernel), code_fn plain_issub_nested entry_issub_nested ?_⟩
  exact issub_tree hi u A.in1 _ _ s v 0 0 x hh (by show A.units + 1 + _ < _; omega) (by omega) hs (fun b e => hQ b e) hE
end

-- isinstance of a thing, and of a tree
section
variable {prog : Program} {w : PySem.World} {A : Around} {E : Value → Shared → Prop} {s : Shared} {Q : Value → Shared → Prop}
theorem isi_thing_tuple {i : Nat} {v : Value} (x : Thing s.heap i v) (h : ∀ tk, Q (.bool false) { s with toks := tk }) : wpAny (model prog w) A (call (.builtin "isinstance") [v, .type "tuple"]) Q E s := by
  rcases x with ⟨hj, rfl⟩ | ⟨e, rfl⟩ | ⟨e, t, rfl⟩ | ⟨e, t, rfl⟩ | ⟨e, a, xs, n, rfl, r⟩ | ⟨e, a, vs, rfl, r⟩
  · exact kia_one (K := []) (kitx_cls (cls_tab i hj)) (inEmpty _) trivial (by decide +kernel) (by simp) h
  · exact kia_one (K := []) kitx_none (inEmpty _) trivial (by decide +kernel) (by simp) h
  · exact kia_one (K := []) kitx_int (inEmpty _) trivial (by decide +kernel) (by simp) h
  · exact kia_one (K := []) kitx_str (inEmpty _) trivial (by decide +kernel) (by simp) h
  · exact kia_one (K := []) kitx_list (inEmpty _) ⟨_, r, rfl⟩ (by decide +kernel) (by simp) h
  · exact kia_one (K := []) VE.kitx (inEmpty _) ⟨_, r, rfl⟩ (by decide +kernel) (by simp) h
theorem isi_thing_type {i : Nat} {v : Value} (x : Thing s.heap i v) (h : ∀ tk, Q (.bool (decide (i < 18))) { s with toks := tk }) : wpAny (model prog w) A (call (.builtin "isinstance") [v, .type "type"]) Q E s := by
  rcases x with ⟨hj, rfl⟩ | ⟨e, rfl⟩ | ⟨e, t, rfl⟩ | ⟨e, t, rfl⟩ | ⟨e, a, xs, n, rfl, r⟩ | ⟨e, a, vs, rfl, r⟩
  · exact kia_one (K := []) (b := true) (kitx_cls (cls_tab i hj)) (inEmpty _) trivial (by decide +kernel) (by simp) (by simpa [hj] using h)
  · exact kia_one (K := []) (b := false) kitx_none (inEmpty _) trivial (by decide +kernel) (by simp) (by simpa [e] using h)
  · exact kia_one (K := []) (b := false) kitx_int (inEmpty _) trivial (by decide +kernel) (by simp) (by simpa [e] using h)
  · exact kia_one (K := []) (b := false) kitx_str (inEmpty _) trivial (by decide +kernel) (by simp) (by simpa [e] using h)
  · exact kia_one (K := []) (b := false) kitx_list (inEmpty _) ⟨_, r, rfl⟩ (by decide +kernel) (by simp) (by simpa [e] using h)
  · exact kia_one (K := []) (b := false) VE.kitx (inEmpty _) ⟨_, r, rfl⟩ (by decide +kernel) (by simp) (by simpa [e] using h)
theorem isi_tuple_tuple {a : Addr} {vs : List Value} {n : Nat} (r : s.heap.get? a = some (seqOf "tuple" vs n)) (h : ∀ tk, Q (.bool true) { s with toks := tk }) : wpAny (model prog w) A (call (.builtin "isinstance") [.ref a, .type "tuple"]) Q E s :=
  kia_one (K := []) kitx_tuple (inEmpty _) ⟨_, r, rfl⟩ (by decide +kernel) (by simp) h
theorem isi_list_list {a : Addr} {vs : List Value} {n : Nat} (r : s.heap.get? a = some (seqOf "list" vs n)) (h : ∀ tk, Q (.bool true) { s with toks := tk }) : wpAny (model prog w) A (call (.builtin "isinstance") [.ref a, .type "list"]) Q E s :=
  kia_one (K := []) kitx_list (inEmpty _) ⟨_, r, rfl⟩ (by decide +kernel) (by simp) h
theorem isi_int_list {i : Int} {t : Tok} (h : ∀ tk, Q (.bool false) { s with toks := tk }) : wpAny (model prog w) A (call (.builtin "isinstance") [.int i t, .type "list"]) Q E s :=
  kia_one (K := []) kitx_int (inEmpty _) trivial (by decide +kernel) (by simp) h
end
end Mine

open PySem PySem.W PySem.Calls PyProof.Rows
set_option Elab.async false
set_option maxRecDepth 100000
namespace Mine
abbrev frs (l : List Env) : List Addr := l.filterMap (·.frame)
/-- the frames below are there, no records -/
def FO (h : Heap) (l : List Env) : Prop := ∀ env ∈ l, env.scope.kind ≠ .module ∧ ∃ L o, env.frame = some L ∧ h.get? L = some o ∧ ∀ vs, o.data ≠ .fields vs
/-- a TypeError in flight, newer than h₀ -/
def EX (h₀ h : Heap) (e : Addr) : Prop := ∃ oe vs, h.get? e = some oe ∧ oe.cls = .type "TypeError" ∧ oe.data = .fields vs ∧ h₀.get? e = none ∧
  (vs[1]? = some .none ∨ ∃ T oT ts, vs[1]? = some (.ref T) ∧ h₀.get? T = none ∧ T ≠ e ∧ h.get? T = some oT ∧ oT.data = .fields ts ∧ ts[3]? = some .none)
/-- what leaving a frame does -/
structure LS (h₀ : Heap) (l : List Env) (h h' : Heap) : Prop where
  keeps : ∀ b o, b ∉ frs l → (h₀.get? b).isSome = true → h.get? b = some o → h'.get? b = some o
  frames : ∀ b o, b ∈ frs l → h.get? b = some o → ∃ sl, h'.get? b = some { o with slots := sl }

theorem FO.mem {h : Heap} {l : List Env} (x : FO h l) {b : Addr} (hb : b ∈ frs l) : ∃ o, h.get? b = some o ∧ ∀ vs, o.data ≠ .fields vs := by
  obtain ⟨env, he, hf⟩ := List.mem_filterMap.mp hb
  obtain ⟨_, L, o, h1, h2, h3⟩ := x env he
  rw [h1] at hf
  cases hf
  exact ⟨o, h2, h3⟩
theorem FO.tail {h : Heap} {env : Env} {l : List Env} (x : FO h (env :: l)) : FO h l := fun e he => x e (List.mem_cons_of_mem _ he)
theorem FO.slots {h h' : Heap} {l : List Env} (x : FO h l) (k : ∀ b o, b ∈ frs l → h.get? b = some o → ∃ sl, h'.get? b = some { o with slots := sl }) : FO h' l := fun env he => by
  obtain ⟨h0, L, o, h1, h2, h3⟩ := x env he
  obtain ⟨sl, q⟩ := k L o (List.mem_filterMap.mpr ⟨env, he, h1⟩) h2
  exact ⟨h0, L, _, h1, q, h3⟩
theorem FO.keeps {h h' : Heap} {l : List Env} (x : FO h l) (k : ∀ b o, b ∈ frs l → h.get? b = some o → h'.get? b = some o) : FO h' l := x.slots fun b o hb e => ⟨o.slots, k b o hb e⟩
theorem FO.fun {h base : Heap} : ∀ {l : List Env}, FO h l → (∀ b ∈ frs l, base.get? b = none) → h.FunFrames base l
  | [], _, _ => trivial
  | env :: l, x, k => by
    obtain ⟨h0, L, o, h1, h2, h3⟩ := x env (List.mem_cons_self ..)
    exact ⟨h0, ⟨L, o, h1, k L (List.mem_filterMap.mpr ⟨env, List.mem_cons_self .., h1⟩), h2, h3⟩, x.tail.fun fun b hb => k b (by
      obtain ⟨e, he, hf⟩ := List.mem_filterMap.mp hb
      exact List.mem_filterMap.mpr ⟨e, List.mem_cons_of_mem _ he, hf⟩)⟩

section
variable {M : Model} {A : Around} {E : Value → Shared → Prop} {s : Shared} {Q : Unit → Shared → Prop}
theorem leave_step {h₀ : Heap} {env : Env} {outer : List Env} {L e : Addr} (hfr : A.frames = some (env :: outer)) (hf : env.frame = some L) (fo : FO s.heap (env :: outer)) (x : EX h₀ s.heap e)
    (there : ∀ b o, h₀.get? b = some o → ∃ o', s.heap.get? b = some o')
    (hQ : ∀ h', LS h₀ (env :: outer) s.heap h' → EX h₀ h' e → Q () { s with heap := h' }) : wpAny M A (leaving env (.ref e)) Q E s := by
  obtain ⟨oe, vs, he, hc, hd, hn, hv⟩ := x
  generalize hl : frs (env :: outer) ++ (List.range s.heap.objs.size).filter (fun b => (h₀.get? b).isNone) = hid
  have st : (hideAll s.heap hid).StaysIn s.heap := fun b o q => of_hideAll _ q
  have fr0 : ∀ b ∈ frs (env :: outer), (hideAll s.heap hid).get? b = none := fun b hb => hideAll_none _ (by rw [← hl]; exact List.mem_append_left _ hb)
  have new0 : ∀ b o, h₀.get? b = none → s.heap.get? b = some o → (hideAll s.heap hid).get? b = none := fun b o q q' => hideAll_none _ (by
    rw [← hl]
    exact List.mem_append_right _ (List.mem_filter.mpr ⟨List.mem_range.mpr (Heap.lt_size q'), by rw [q]; rfl⟩))
  have old0 : ∀ b o, b ∉ frs (env :: outer) → (h₀.get? b).isSome = true → s.heap.get? b = some o → (hideAll s.heap hid).get? b = some o := fun b o hb q q' => hideAll_get _ q' (by
    rw [← hl]
    intro hm
    rcases List.mem_append.mp hm with hm | hm
    · exact hb hm
    · have := (List.mem_filter.mp hm).2
      cases hx : h₀.get? b with
      | none => rw [hx] at q; cases q
      | some _ => rw [hx] at this; cases this)
  have ff := fo.fun fr0
  have fin : ∀ h', Heap.Left (hideAll s.heap hid) (env :: outer) e oe.cls s.heap h' → Q () { s with heap := h' } := by
    rintro h' ⟨x1, x2, ⟨oe', vs', T, oT, ts, y1, y2, y3, y4, y5, y6, y7, y8, y9⟩, x4⟩
    refine hQ h' ⟨fun b o hb q q' => x1 b o (old0 b o hb q q'), fun b o hb q => ?_⟩ ⟨oe', vs', y1, y2.trans hc, y3, hn, .inr ⟨T, oT, ts, y4, ?_, y6, y7, y8, y9⟩⟩
    · obtain ⟨o', ho', hnf⟩ := fo.mem hb
      rw [q] at ho'
      cases ho'
      exact x4 b o q hnf
    · cases hx : h₀.get? T with
      | none => rfl
      | some o0 =>
        exfalso
        obtain ⟨o', ho'⟩ := there T o0 hx
        by_cases hT : T ∈ frs (env :: outer)
        · obtain ⟨o2, ho2, hnf⟩ := fo.mem hT
          obtain ⟨sl, q⟩ := x4 T o2 ho2 hnf
          rw [y7] at q
          cases q
          exact hnf _ y8
        · rw [old0 T o' hT (by rw [hx]; rfl) ho'] at y5
          cases y5
  rcases hv with hv | ⟨T, oT, ts, h1, h2, h3, h4, h5, h6⟩
  · exact wpAny_leaving_first hfr ff hf he st (new0 e oe hn he) hd hv fin
  · exact wpAny_leaving_next hfr ff hf ⟨oe, vs, T, oT, ts, he, rfl, hd, h1, new0 T oT h2 h4, h3, h4, h5, h6⟩ st (new0 e oe hn he) fin
end
end Mine

open PySem PySem.W PySem.Calls PyProof.Rows
set_option Elab.async false
set_option maxRecDepth 100000
namespace Mine
structure GOK (a b : Array GenState) : Prop where
  keep : ∀ (i : Nat) (x : GenState), a[i]? = some x → b[i]? = some x
  bare : (∀ x ∈ a, x.bare = true) → ∀ x ∈ b, x.bare = true
theorem GOK.refl (a : Array GenState) : GOK a a := ⟨fun _ _ e => e, fun h => h⟩
theorem GOK.trans {a b c : Array GenState} (x : GOK a b) (y : GOK b c) : GOK a c := ⟨fun i z e => y.keep i z (x.keep i z e), fun h => y.bare (x.bare h)⟩
/-- the table of _is_subtype's code -/
def TabSt (h : Heap) (ps : Array Value) : Prop := h.IsCode 20 16 ps ∧ h.TableAt 20 16 ps
def TabUp (h h' : Heap) : Prop := ∀ ps, TabSt h ps → ∃ more, TabSt h' (ps ++ more)
theorem TabUp.refl (h : Heap) : TabUp h h := fun ps x => ⟨#[], by rw [Array.append_empty]; exact x⟩
theorem TabUp.trans {h h' h'' : Heap} (x : TabUp h h') (y : TabUp h' h'') : TabUp h h'' := fun ps z => by
  obtain ⟨m1, z1⟩ := x ps z
  obtain ⟨m2, z2⟩ := y _ z1
  exact ⟨m1 ++ m2, by rw [← Array.append_assoc]; exact z2⟩
theorem TabSt.at {h h' : Heap} {ps : Array Value} (x : TabSt h ps) (k1 : ∀ o, h.get? 20 = some o → h'.get? 20 = some o) (k2 : ∀ o, h.get? 16 = some o → h'.get? 16 = some o) : TabSt h' ps := by
  obtain ⟨⟨o, vs, file, tf, flags, tg, inF, text, tt, op, a, r1, r2, r3, r4, r5, r6, b, r⟩, ⟨o', vs', c, r'⟩, t⟩ := x
  exact ⟨⟨o, vs, file, tf, flags, tg, inF, text, tt, op, k1 _ a, r1, r2, r3, r4, r5, r6, k2 _ b, r⟩, ⟨o', vs', k1 _ c, r'⟩, k2 _ t⟩
theorem TabUp.of {h h' : Heap} (k1 : ∀ o, h.get? 20 = some o → h'.get? 20 = some o) (k2 : ∀ o, h.get? 16 = some o → h'.get? 16 = some o) : TabUp h h' := fun ps x => ⟨#[], by rw [Array.append_empty]; exact x.at k1 k2⟩
/-- a run that only makes -/
structure Gr (s s' : Shared) : Prop where
  same : ∃ h' tk gs, s' = { s with heap := h', toks := tk, gens := gs }
  keeps : ∀ b o, b ≠ 16 → s.heap.get? b = some o → s'.heap.get? b = some o
  tab : TabUp s.heap s'.heap
  gens : GOK s.gens s'.gens
theorem Gr.refl (s : Shared) : Gr s s := ⟨⟨_, _, _, rfl⟩, fun _ _ _ e => e, .refl _, .refl _⟩
theorem Gr.trans {a b c : Shared} (x : Gr a b) (y : Gr b c) : Gr a c :=
  ⟨by obtain ⟨_, _, _, rfl⟩ := x.same; obtain ⟨_, _, _, rfl⟩ := y.same; exact ⟨_, _, _, rfl⟩, fun b o n e => y.keeps b o n (x.keeps b o n e), x.tab.trans y.tab, x.gens.trans y.gens⟩
theorem Gr.keep {s : Shared} {h' : Heap} {tk : Nat} (k : ∀ b o, s.heap.get? b = some o → h'.get? b = some o) : Gr s { s with heap := h', toks := tk } :=
  ⟨⟨_, _, _, rfl⟩, fun b o _ e => k b o e, .of (k 20) (k 16), .refl _⟩
/-- the notes of first use -/
def StatN (h : Heap) : Prop := ∃ o es n, h.get? cStatics = some o ∧ o.cls = .none ∧ o.data = .dict es n ∧ ∀ e ∈ es, ∃ (D : String) (t : Tok), e.key = .str (Str.ofString s!"type.__bases__:{D}") t
/-- a TypeError in flight over the frames l, told from the heap h₀ on -/
structure Fl (h₀ : Heap) (l : List Env) (e : Addr) (h : Heap) : Prop where
  keeps : ∀ b o, b ≠ cStatics → b ≠ 16 → b ∉ frs l → h₀.get? b = some o → h.get? b = some o
  frames : ∀ b o, b ∈ frs l → h₀.get? b = some o → ∃ sl, h.get? b = some { o with slots := sl }
  there : ∀ b o, h₀.get? b = some o → ∃ o', h.get? b = some o'
  tab : TabUp h₀ h
  stat : StatN h
  exc : EX h₀ h e
/-- a run that ends in a TypeError -/
structure Er (outer : List Env) (e : Addr) (s s' : Shared) : Prop where
  same : ∃ h' tk gs, s' = { s with heap := h', toks := tk, gens := gs }
  fl : Fl s.heap outer e s'.heap
  gens : GOK s.gens s'.gens

theorem EX.back {h₀ h₁ h : Heap} {e : Addr} (x : EX h₁ h e) (k : ∀ b o, h₀.get? b = some o → ∃ o', h₁.get? b = some o') : EX h₀ h e := by
  have q : ∀ b, h₁.get? b = none → h₀.get? b = none := fun b e => by
    cases hx : h₀.get? b with
    | none => rfl
    | some o => obtain ⟨o', e'⟩ := k b o hx; rw [e] at e'; cases e'
  obtain ⟨oe, vs, a, b, c, d, r⟩ := x
  refine ⟨oe, vs, a, b, c, q _ d, r.imp id ?_⟩
  rintro ⟨T, oT, ts, h1, h2, r⟩
  exact ⟨T, oT, ts, h1, q _ h2, r⟩
theorem Fl.back {h₀ h₁ h : Heap} {l : List Env} {e : Addr} (x : Fl h₁ l e h) (k : ∀ b o, b ≠ 16 → h₀.get? b = some o → h₁.get? b = some o) (t : TabUp h₀ h₁) (th : ∀ b o, h₀.get? b = some o → ∃ o', h₁.get? b = some o') (n19 : 16 ∉ frs l) : Fl h₀ l e h where
  keeps := fun b o hc hp hb q => x.keeps b o hc hp hb (k b o hp q)
  frames := fun b o hb q => x.frames b o hb (k b o (fun e => n19 (e ▸ hb)) q)
  there := fun b o q => by obtain ⟨o', q'⟩ := th b o q; exact x.there b o' q'
  tab := t.trans x.tab
  stat := x.stat
  exc := x.exc.back th
/-- the objects of the flight may be joined by newer ones -/
theorem Fl.on {h₀ h h' : Heap} {l : List Env} {e : Addr} (x : Fl h₀ l e h) (k : ∀ b o, h.get? b = some o → h'.get? b = some o) : Fl h₀ l e h' where
  keeps := fun b o hc hp hb q => k _ _ (x.keeps b o hc hp hb q)
  frames := fun b o hb q => by obtain ⟨sl, q'⟩ := x.frames b o hb q; exact ⟨sl, k _ _ q'⟩
  there := fun b o q => by obtain ⟨o', q'⟩ := x.there b o q; exact ⟨o', k _ _ q'⟩
  tab := x.tab.trans (.of (k 20) (k 16))
  stat := by obtain ⟨o, es, n, q, r⟩ := x.stat; exact ⟨o, es, n, k _ _ q, r⟩
  exc := by
    obtain ⟨oe, vs, a, b, c, d, r⟩ := x.exc
    refine ⟨oe, vs, k _ _ a, b, c, d, r.imp id ?_⟩
    rintro ⟨T, oT, ts, h1, h2, h3, h4, r⟩
    exact ⟨T, oT, ts, h1, h2, h3, k _ _ h4, r⟩

section
variable {M : Model} {A : Around} {E : Value → Shared → Prop} {s : Shared} {Q : Unit → Shared → Prop}
theorem fl_leave {h₀ : Heap} {env : Env} {outer : List Env} {L e : Addr} (hfr : A.frames = some (env :: outer)) (hf : env.frame = some L) (fo : FO s.heap (env :: outer)) (x : Fl h₀ (env :: outer) e s.heap)
    (hL : h₀.get? L = none) (hc : cStatics ∉ frs (env :: outer)) (hcs : (h₀.get? cStatics).isSome = true)
    (hQ : ∀ h', Fl h₀ outer e h' → FO h' outer → Q () { s with heap := h' }) : wpAny M A (leaving env (.ref e)) Q E s := by
  refine leave_step hfr hf fo x.exc x.there fun h' ls ex => hQ h' ?_ (fo.tail.slots fun b o hb q => ls.frames b o (by
      obtain ⟨e', he, hf'⟩ := List.mem_filterMap.mp hb
      exact List.mem_filterMap.mpr ⟨e', List.mem_cons_of_mem _ he, hf'⟩) q)
  have up : ∀ b, b ∈ frs outer → b ∈ frs (env :: outer) := fun b hb => by
    obtain ⟨e', he, hf'⟩ := List.mem_filterMap.mp hb
    exact List.mem_filterMap.mpr ⟨e', List.mem_cons_of_mem _ he, hf'⟩
  have off : ∀ b o, b ∉ frs outer → h₀.get? b = some o → b ∉ frs (env :: outer) := fun b o hb q hm => by
    obtain ⟨e', he, hf'⟩ := List.mem_filterMap.mp hm
    rcases List.mem_cons.mp he with rfl | he
    · rw [hf] at hf'; cases hf'; rw [hL] at q; cases q
    · exact hb (List.mem_filterMap.mpr ⟨e', he, hf'⟩)
  refine ⟨fun b o hc' hp hb q => ls.keeps b o (off b o hb q) (by rw [q]; rfl) (x.keeps b o hc' hp (off b o hb q) q), fun b o hb q => ?_, fun b o q => ?_, fun ps z => ?_, ?_, ex⟩
  · obtain ⟨sl, q'⟩ := x.frames b o (up b hb) q
    obtain ⟨sl', q''⟩ := ls.frames b _ (up b hb) q'
    exact ⟨sl', q''⟩
  · obtain ⟨o', q'⟩ := x.there b o q
    by_cases hm : b ∈ frs (env :: outer)
    · obtain ⟨sl, q''⟩ := ls.frames b o' hm q'; exact ⟨_, q''⟩
    · exact ⟨o', ls.keeps b o' hm (by rw [q]; rfl) q'⟩
  · obtain ⟨more, z1⟩ := x.tab ps z
    have z2 := z1
    obtain ⟨⟨o, vs, file, tf, flags, tg, inF, text, tt, op, a, r1, r2, r3, r4, r5, r6, b, r7, r⟩, _⟩ := z2
    obtain ⟨⟨o', vs', file', tf', flags', tg', inF', text', tt', op', a', r1', r2', r3', r4', r5', r6', b', r'⟩, _⟩ := z
    refine ⟨more, z1.at (fun o₁ q => ls.keeps 20 o₁ (fun hm => ?_) (by rw [a']; rfl) q) (fun o₁ q => ls.keeps 16 o₁ (fun hm => ?_) (by rw [b']; rfl) q)⟩
    · obtain ⟨o₂, q', nf⟩ := fo.mem hm
      rw [a] at q'; cases q'; exact nf _ r1
    · obtain ⟨o₂, q', nf⟩ := fo.mem hm
      rw [b] at q'; cases q'; exact nf _ r7
  · obtain ⟨o, es, n, q, r⟩ := x.stat
    exact ⟨o, es, n, ls.keeps _ _ hc hcs q, r⟩
end

section
variable {prog : Program} {w : PySem.World} {A : Around} {s : Shared} {K : Frag} {E : Value → Shared → Prop} {Q : Value → Shared → Prop}
  {name qual : Str} {params : Arguments} {body : List Stmt} {scope : Scope} {dV kV doc pm cdv ct oc : Value} {an od : Option Addr} {osl : Array (Option Value)} {f : Addr} {args : List Value} {binds : List (Str × Value)}
theorem enterC (X : K.In s.heap) (hlim : s.heap.NoLimit) (ho : K.lookup f = some ⟨oc, od, .func (fnOf name qual params body scope dV kV doc pm an cdv ct), osl⟩) (hcd : codeIn K cdv qual = true) (hroom : A.depth < recursionLimit)
    (hbind : bindArgs (fnOf name qual params body scope dV kV doc pm an cdv ct) ⟨args, []⟩ = pure binds) (hkind : (binds.all fun y => scope.names.lookup y.1 == some .local || scope.names.lookup y.1 == some .cell) = true)
    (hnd : ((cellsFrom 0 scope.names []).map (·.1)).Nodup)
    (h : ∀ h₁ tk cells, Fr s.heap s.heap.objs.size h₁ (bindL (envOfC qual scope s.heap.objs.size f cdv).kindOf binds fun _ => none) → News s.heap s.heap.objs.size h₁ cells →
      CellsAre (bindC (envOfC qual scope s.heap.objs.size f cdv).kindOf binds fun _ => none) (cellsFrom (s.heap.objs.size + 1) scope.names []) cells →
      wpAny (model prog w) (A.deeper (envOfC qual scope s.heap.objs.size f cdv)) (execs body (envOfC qual scope s.heap.objs.size f cdv))
        (fun fl s' => Q (match fl with | .ret v => v | _ => .none) s')
        (fun e s' => wpAny (model prog w) (A.deeper (envOfC qual scope s.heap.objs.size f cdv)) (leaving (envOfC qual scope s.heap.objs.size f cdv) e) (fun _ s'' => E e s'') (fun e' s'' => E e' s'') s')
        { s with heap := h₁, toks := tk })
    (hco : scope.isCoroutine = false := by rfl) (hgen : scope.isGenerator = false := by rfl) (hk : scope.kind = .function := by rfl) :
    wpAny (model prog w) A (call (.ref f) args) Q E s := by
  refine wpAny_call (codeAny_call_function hroom (X _ _ ho) rfl hco hgen rfl (codeRec_of X hcd) (BindsTo.of_eq hbind _ _ _ _ ?_))
  refine wpAny_newFunctionEnv_cells hk (kindsX hkind _) fun env' he s' x => ?_
  subst he
  refine ⟨hlim.keeps x.toInCall.keep, codeAny_func ?_⟩
  obtain ⟨h₁, tk, rfl, _⟩ := x.done
  have hk₁ := x.toInCall.keep
  obtain ⟨cells, NC, Y⟩ := Cl.news (h₀ := s.heap) (Nat.le_refl _) fun n c hm => ⟨x.cell n c (lookup_of_mem_nodup (cellsFrom_names scope.names 0 (s.heap.objs.size + 1) [] [] rfl ▸ hnd) hm), x.above n c hm⟩
  exact h h₁ tk cells ⟨x.toInCall.ns, hk₁, Nat.le_refl _⟩ NC Y
end

/-- what every call of _is_subtype finds -/
structure Wo (w : PySem.World) (mg mb : Str → Option Value) (W₀ : Heap) : Prop where
  D : Wd w mg mb W₀
  noP : W₀.get? 16 = none
  stat : W₀.get? cStatics = some { cls := .none, data := .dict #[] }
  bmod : ∃ bm ob, BMod W₀ mainGlobals mg bm ob
end Mine

open PySem PySem.W PySem.Calls PyProof.Rows
set_option Elab.async false
set_option maxRecDepth 100000
namespace Mine
theorem filled : (PySem.Challenge.rw_kr0026_01 = PySem.Challenge.rw_kr0026_01) ∧ (hd.heap_39 = hd.heap_39) := by
  k_fill
  exact ⟨rfl, rfl⟩
theorem boot_issubclass : bootBuiltins "issubclass" = some (.builtin "issubclass") := by decide +kernel
/-- the contract of _is_subtype, for one tree -/
def Sub (prog : Program) (w : PySem.World) (W₀ : Heap) (u : T) (bv : Value) (t : T) : Prop :=
  ∀ (A : Around) (E Q : Value → Shared → Prop) (s : Shared) (v : Value) (outer : List Env), W₀.StaysIn s.heap → (∃ ps, TabSt s.heap ps) → TreeAt W₀ "tuple" (Thing W₀) t v → A.handled = none →
    A.depth + 2 * t.ht + 2 < recursionLimit → A.units + 20 * t.ht + 20 + 2 * u.ht < cLine → A.frames = some outer → FO s.heap outer → cStatics ∉ frs outer →
    (∀ b s', isub u t = some b → Gr s s' → Q (.bool b) s') → (∀ e s', isub u t = none → Er outer e s s' → E (.ref e) s') →
    wpAny (model prog w) A (call (.ref 21) [v, bv]) Q E s

theorem FO.no19 {h : Heap} {l : List Env} (x : FO h l) (t : ∃ ps, TabSt h ps) : 16 ∉ frs l := fun hm => by
  obtain ⟨ps, _, ⟨_, z⟩⟩ := t
  obtain ⟨o, q, nf⟩ := x.mem hm
  rw [z] at q; cases q; exact nf _ rfl
theorem FO.cons {h : Heap} {l : List Env} {env : Env} {L : Addr} {m : Str → Option Value} (x : FO h l) (hk : env.scope.kind = .function) (hf : env.frame = some L) (hn : h.Ns L m) : FO h (env :: l) := fun e he => by
  rcases List.mem_cons.mp he with rfl | he
  · obtain ⟨o, es, ep, ho, hd, _⟩ := hn
    exact ⟨by rw [hk]; decide, L, o, hf, ho, fun vs q => by rw [hd] at q; cases q⟩
  · exact x e he
theorem frs_cons {env : Env} {l : List Env} {L b : Addr} (hf : env.frame = some L) (hb : b ∉ frs l) (hne : b ≠ L) : b ∉ frs (env :: l) := fun hm => by
  obtain ⟨e, he, hf'⟩ := List.mem_filterMap.mp hm
  rcases List.mem_cons.mp he with rfl | he
  · rw [hf] at hf'; cases hf'; exact hne rfl
  · exact hb (List.mem_filterMap.mpr ⟨e, he, hf'⟩)
/-- a refusal, told as a flight -/
theorem fl_start {h₀ h₁ h' h'' : Heap} {l : List Env} {e : Addr} (k : ∀ b o, h₀.get? b = some o → h₁.get? b = some o) (hn : Noted h₁ h') (hx : Heap.NewExc h' h'' e "TypeError") (hcf : cStatics ∉ frs l) : Fl h₀ l e h'' := by
  have k2 : ∀ b o, b ≠ cStatics → h₀.get? b = some o → h''.get? b = some o := fun b o hb q => hx.keeps _ _ (hn.keeps b o hb (k b o q))
  obtain ⟨so, ses, sn, sq, sr⟩ := hn.stat
  have th : ∀ b o, h₀.get? b = some o → ∃ o', h'.get? b = some o' := fun b o q => by
    by_cases hb : b = cStatics
    · exact ⟨so, hb ▸ sq⟩
    · exact ⟨o, hn.keeps b o hb (k b o q)⟩
  obtain ⟨ob, t, a, b, c⟩ := hx.there
  refine ⟨fun b o hc _ _ q => k2 b o hc q, fun b o hb q => ⟨o.slots, k2 b o (fun e => hcf (e ▸ hb)) q⟩, fun b o q => ?_, .of (fun o => k2 20 o (by decide)) (fun o => k2 16 o (by decide)), ⟨so, ses, sn, hx.keeps _ _ sq, sr⟩, ob, _, a, b, c, ?_, .inl rfl⟩
  · obtain ⟨o', q'⟩ := th b o q; exact ⟨o', hx.keeps _ _ q'⟩
  · cases q : h₀.get? e with
    | none => rfl
    | some o => obtain ⟨o', q'⟩ := th e o q; rw [hx.new] at q'; cases q'

set_option pp.deepTerms.threshold 4
set_option pp.maxSteps 20000
set_option maxHeartbeats 2000000 in
theorem sub_leaf {prog : Program} {w : PySem.World} {mg mb : Str → Option Value} {W₀ : Heap} {u : T} {bv : Value} (D : Wo w mg mb W₀) (xu : TreeAt W₀ "tuple" (Thing W₀) u bv) (hu0 : u.ht < 900) (i : Nat) : Sub prog w W₀ u bv (.leaf i) := by
  intro A E Q s v outer st tab x hh hdp hu hfr fo hcf hQ hE
  rw [TreeAt] at x
  have X := (D.D.up st).X
  have T := (D.D.up st).T
  refine enterC X T.nolimit rfl rfl (by simp only [recursionLimit] at *; omega) rfl rfl (by decide +kernel) fun h₁ tk cells F N Y => ?_
  k_cells Y
  show wpAny _ _ _ _ _ _
  k_fold
  k_steps
  refine isi_thing_tuple (x.mono fun b o e => F.keep b o (st b o e)) fun tk₁ => ?_
  dsimp only
  k_steps
  refine isi_thing_type (x.mono fun b o e => F.keep b o (st b o e)) fun tk₂ => ?_
  dsimp only
  k_steps
  · rename_i hi
    refine nameX_B F X T (by k_is) boot_issubclass (by decide) ?_ (by rfl) (by rfl)
    k_steps
    have hk : ∀ b o, W₀.get? b = some o → h₁.get? b = some o := fun b o e => F.keep b o (st b o e)
    have hcs : h₁.get? cStatics = some { cls := .none, data := .dict #[] } := hk _ _ D.stat
    have hv : v = .type (cname i) := by
      rcases x with ⟨_, e⟩ | ⟨e, _⟩ | ⟨e, _⟩ | ⟨e, _⟩ | ⟨e, _⟩ | ⟨e, _⟩ <;> first | exact e | omega
    subst hv
    have hcl : cStatics < s.heap.objs.size := Heap.lt_size (st _ _ D.stat)
    refine issub_call hi u (TreeAt.mono (fun b o e _ => hk b o e) (fun n v' y => y.mono hk) u bv xu) hh ?_ hu0 hcs (fun b e => ?_) (fun e => ?_)
    · show A.units + 3 + 2 * u.ht + 4 < cLine; omega
    · exact hQ b _ (by rw [isub, if_pos hi]; exact e) (Gr.keep F.keep)
    · intro h' h'' tk' e' hn hx
      show wpAny _ _ (leaving _ _) _ _ _
      refine fl_leave (L := s.heap.objs.size) (Around.frames_deeper hfr) rfl ?fo ?fl (Heap.get?_none_of_le (Nat.le_refl _)) ?hc (by rw [st _ _ D.stat]; rfl) fun h₃ fl fo' => ?q
      case hc => exact frs_cons rfl hcf (Nat.ne_of_lt hcl)
      case fl => exact fl_start F.keep hn hx (frs_cons rfl hcf (Nat.ne_of_lt hcl))
      case fo =>
        have kk : ∀ b o, b ≠ cStatics → h₁.get? b = some o → h''.get? b = some o := fun b o hb q => hx.keeps _ _ (hn.keeps b o hb q)
        exact FO.cons (fo.keeps fun b o hb q => kk b o (fun e => hcf (e ▸ hb)) (F.keep b o q)) rfl rfl (F.ns.at' fun o q => kk _ o (Nat.ne_of_gt hcl) q)
      case q => exact hE e' _ (by rw [isub, if_pos hi]; exact e) ⟨⟨_, _, _, rfl⟩, fl, .refl _⟩
  · rename_i hi
    rw [decide_eq_false hi]
    exact hQ false _ (by rw [isub, if_neg hi]) (Gr.keep F.keep)
end Mine

open PySem PySem.W PySem.Calls PyProof.Rows
set_option Elab.async false
set_option maxRecDepth 100000
namespace Mine
theorem filled8 : (PySem.Challenge.rw_kr0026_01 = PySem.Challenge.rw_kr0026_01) ∧ (hd.heap_39 = hd.heap_39) := by
  k_fill
  exact ⟨rfl, rfl⟩
section
variable {M : Model} {A : Around} {E : Value → Shared → Prop} {s : Shared}
theorem gexCode {env : Env} {ps : Array Value} {pos : Pos} {qualname : Str} {scope : Scope} {Q : Value → Shared → Prop} (hc : env.code = .ref 20) (t : TabSt s.heap ps)
    (hQ : ∀ code h' tk more, Heap.ExtBut 16 s.heap h' → s.heap.objs.size ≤ h'.objs.size → TabSt h' (ps ++ more) → Q code { s with heap := h', toks := tk }) :
    wpAny M A (genexprCode env pos qualname scope) Q E s := by
  cases hnf : codeAmong pos ps.toList with
  | none =>
    refine wpAny_genexprCodeX hc t.1 t.2 hnf fun c' h' tk hx h1 h2 h3 _ h4 _ => hQ _ h' tk _ hx (by omega) ⟨h3, h4⟩
  | some cv =>
    obtain ⟨o, vs, file, tf, flags, tg, inF, text, tt, op, ho, hd, h11, h2, h7, h9, h10, hop, hpd, htr, hne⟩ := id t.1
    unfold genexprCode codeAt
    rw [hc, if_neg (show ¬ ((Value.ref 20 == Value.none) = true) from Bool.false_ne_true)]
    refine wpAny_bind (wpAny_fieldsOf ho hd ?_)
    rw [h11]
    refine wpAny_bind (wpAny_fieldsOf hop hpd ?_)
    rw [hnf]
    exact wpAny_pure (hQ cv s.heap s.toks #[] (Heap.ExtBut.refl _ _) (Nat.le_refl _) (by rw [Array.append_empty]; exact t))
end

/-- a run that makes, and moves its own two things -/
structure Grx (I C : Addr) (s s' : Shared) : Prop where
  same : ∃ h' tk gs, s' = { s with heap := h', toks := tk, gens := gs }
  keeps : ∀ b o, b ≠ 16 → b ≠ I → b ≠ C → s.heap.get? b = some o → s'.heap.get? b = some o
  tab : TabUp s.heap s'.heap
  gens : GOK s.gens s'.gens
theorem Grx.refl (I C : Addr) (s : Shared) : Grx I C s s := ⟨⟨_, _, _, rfl⟩, fun _ _ _ _ _ e => e, .refl _, .refl _⟩
theorem Grx.trans {I C : Addr} {a b c : Shared} (x : Grx I C a b) (y : Grx I C b c) : Grx I C a c :=
  ⟨by obtain ⟨_, _, _, rfl⟩ := x.same; obtain ⟨_, _, _, rfl⟩ := y.same; exact ⟨_, _, _, rfl⟩, fun b o n n1 n2 e => y.keeps b o n n1 n2 (x.keeps b o n n1 n2 e), x.tab.trans y.tab, x.gens.trans y.gens⟩
theorem Gr.x {I C : Addr} {s s' : Shared} (x : Gr s s') : Grx I C s s' := ⟨x.same, fun b o n _ _ e => x.keeps b o n e, x.tab, x.gens⟩

/-- the generator's state, at item i, told from the heap B that the call began on -/
structure GenI (B : Heap) (l0 : List Env) (I C a cell : Addr) (bv : Value) (i : Nat) (h : Heap) : Prop where
  keeps : ∀ b o, b ≠ 16 → B.get? b = some o → h.get? b = some o
  iter : h.IsTupleIter I a i
  ns : ∃ m, h.Ns C m
  tabB : TabUp B h
  tab : ∃ ps, TabSt h ps
  cell : h.IsCell cell (some bv)
  fo : FO h l0
theorem GenI.keep {B : Heap} {l0 : List Env} {I C a cell : Addr} {bv : Value} {i : Nat} {h h' : Heap} (x : GenI B l0 I C a cell bv i h) (k : ∀ b o, b ≠ 16 → h.get? b = some o → h'.get? b = some o) (t : TabUp h h') (h1 : I ≠ 16) (h2 : C ≠ 16) (h3 : cell ≠ 16) :
    GenI B l0 I C a cell bv i h' where
  keeps := fun b o n e => k b o n (x.keeps b o n e)
  iter := let ⟨o, ho, r⟩ := x.iter; ⟨o, k _ _ h1 ho, r⟩
  ns := let ⟨m, hm⟩ := x.ns; ⟨m, hm.at' fun o e => k _ o h2 e⟩
  tabB := x.tabB.trans t
  tab := by obtain ⟨ps, z⟩ := x.tab; obtain ⟨more, z'⟩ := t ps z; exact ⟨_, z'⟩
  cell := let ⟨o, ho, r⟩ := x.cell; ⟨o, k _ _ h3 ho, r⟩
  fo := x.fo.keeps fun b o hb e => k b o (fun q => x.fo.no19 x.tab (q ▸ hb)) e
/-- one of the two own things moves -/
theorem GenI.move {B : Heap} {l0 : List Env} {I C a cell d : Addr} {bv : Value} {i j : Nat} {h h' : Heap} (x : GenI B l0 I C a cell bv i h) (k : ∀ b o, b ≠ d → h.get? b = some o → h'.get? b = some o) (hB : B.get? d = none)
    (hd : d ≠ 16) (hd2 : d ≠ 20) (hdc : d ≠ cell) (hdf : d ∉ frs l0) (hi : h'.IsTupleIter I a j) (hn : ∃ m, h'.Ns C m) : GenI B l0 I C a cell bv j h' where
  keeps := fun b o n e => k b o (fun q => by rw [q, hB] at e; cases e) (x.keeps b o n e)
  iter := hi
  ns := hn
  tabB := x.tabB.trans (.of (fun o => k 20 o (Ne.symm hd2)) (fun o => k 16 o (Ne.symm hd)))
  tab := by obtain ⟨ps, z⟩ := x.tab; exact ⟨ps, z.at (fun o => k 20 o (Ne.symm hd2)) (fun o => k 16 o (Ne.symm hd))⟩
  cell := let ⟨o, ho, r⟩ := x.cell; ⟨o, k _ _ (Ne.symm hdc) ho, r⟩
  fo := x.fo.keeps fun b o hb e => k b o (fun q => hdf (q ▸ hb)) e

/-- how the generator ends -/
def GEnd (B : Heap) (l0 : List Env) (I C : Addr) (u : T) (l : List T) : GenEnd := fun n s₀ r s₁ =>
  (r = .ok .next ∧ n = 0 ∧ Grx I C s₀ s₁) ∨ ∃ e t, r = .error (.ref e) ∧ l[l.length - n]? = some t ∧ isub u t = none ∧ (∃ h' tk gs, s₁ = { s₀ with heap := h', toks := tk, gens := gs }) ∧ Fl B l0 e s₁.heap ∧ FO s₁.heap l0 ∧ GOK s₀.gens s₁.gens
/-- what it yields -/
def GYield (B : Heap) (l0 : List Env) (I C a cell : Addr) (bv : Value) (u : T) (l : List T) : Protocol := fun m s₀ v s kap =>
  (∃ b t, v = .bool b ∧ l[l.length - (m + 1)]? = some t ∧ isub u t = some b) ∧ Grx I C s₀ s ∧ GenI B l0 I C a cell bv (l.length - m) s.heap ∧ ∀ s'' : Shared, GenI B l0 I C a cell bv (l.length - m) s''.heap → kap (.send .none) s''

section
variable {prog : Program} {w : PySem.World} {A : Around}
theorem sub_seg {elt iter : Expr} {x : Str} {px : Pos} {scope : Scope} {pos : Pos} {B : Heap} {l0 : List Env} {I C a cell : Addr} {bv : Value} {u : T} {l : List T} {vs : List Value} {n : Nat} {cenv : Env}
    (hh : A.handled = none) (hfr : A.frames = some l0) (hlen : vs.length = l.length) (ha : B.get? a = some (seqOf "tuple" vs n)) (a19 : a ≠ 16) (haI : a ≠ I)
    (hBI : B.get? I = none) (hBC : B.get? C = none) (hI : I ≠ 16 ∧ I ≠ 20 ∧ I ≠ cell ∧ I ∉ frs l0 ∧ I ≠ C) (hC : C ≠ 16 ∧ C ≠ 20 ∧ C ≠ cell ∧ C ∉ frs l0) (hcell : cell ≠ 16)
    (hx : cenv.kindOf x = some .local) (hp : (cenv.scope.kind == .class || (cenv.scope.kind == .module && cenv.locals != cenv.globals)) = false) (hco : cenv.scope.isCoroutine = false)
    (hL : cenv.locals = C) (hF : cenv.frame = some C) (hK : cenv.scope.kind = .function) (hcs : cStatics ∉ frs l0) (hcC : cStatics ≠ C) (hBs : (B.get? cStatics).isSome = true)
    (helt : ∀ (A' : Around) (Q' E' : Value → Shared → Prop) (s₂ : Shared) (i : Nat) (t : T) (v : Value), A'.handled = none → A'.frames = some (cenv :: l0) → A'.depth = A.depth + 1 → A'.units ≤ A.units + 4 → l[i]? = some t → vs[i]? = some v →
      (∃ m, s₂.heap.Ns C m ∧ m x = some v) → GenI B l0 I C a cell bv (i + 1) s₂.heap → (∀ b s', isub u t = some b → Gr s₂ s' → Q' (.bool b) s') → (∀ e s', isub u t = none → Er (cenv :: l0) e s₂ s' → E' (.ref e) s') → wpAny (model prog w) A' (eval elt cenv) Q' E' s₂) :
    ∀ (k i : Nat) (s₀ s : Shared), l.length - i = k → i ≤ l.length → GenI B l0 I C a cell bv i s.heap → Grx I C s₀ s →
      Seg (model prog w) A (GEnd B l0 I C u l) (GYield B l0 I C a cell bv u l) (l.length - i) s₀
        (.compLoop (.GeneratorExp elt [⟨.Name x px, iter, [], 0⟩] scope pos) 0 (.ref I) .none cenv)
        ((model prog w).den (.compLoop (.GeneratorExp elt [⟨.Name x px, iter, [], 0⟩] scope pos) 0 (.ref I) .none cenv)) [] s := by
  have hh' : (A.over (.compLoop (.GeneratorExp elt [⟨.Name x px, iter, [], 0⟩] scope pos) 0 (.ref I) .none cenv) []).handled = none := hh
  intro k
  induction k with
  | zero =>
    intro i s₀ s hk hi gi gx
    have hin : i = l.length := by omega
    subst hin
    show Seg _ A _ _ _ s₀ _ ((compTurn (.GeneratorExp elt [⟨.Name x px, iter, [], 0⟩] scope pos) 0 (.ref I) .none cenv).onRaise (leaving cenv)) [] s
    rw [compTurn_gen, Sem.onRaise_eq_wrap]
    refine seg_bind_wrap (wpAny_standAt ?_)
    have ht : s.heap.IsTuple a vs.toArray := ⟨_, gi.keeps _ _ a19 ha, rfl, n, rfl⟩
    refine seg_bind_wrap (wpAny_pyNext_tuple_end hh' gi.iter ht (by simp [hlen]) fun h' he => ?_)
    refine seg_end (.ok .next) (.inl ⟨rfl, by omega, gx.trans ⟨⟨_, _, _, rfl⟩, fun b o _ n1 _ e => he b o n1 e, .of (fun o => he 20 o (Ne.symm hI.2.1)) (fun o => he 16 o (Ne.symm hI.1)), .refl _⟩⟩)
  | succ k ih =>
    intro i s₀ s hk hi gi gx
    have hlt : i < l.length := by omega
    have hlt' : i < vs.length := by omega
    obtain ⟨t, ht⟩ : ∃ t, l[i]? = some t := ⟨l[i], by simp [hlt]⟩
    obtain ⟨v, hv⟩ : ∃ v, vs[i]? = some v := ⟨vs[i], by simp [hlt']⟩
    show Seg _ A _ _ _ s₀ _ ((compTurn (.GeneratorExp elt [⟨.Name x px, iter, [], 0⟩] scope pos) 0 (.ref I) .none cenv).onRaise (leaving cenv)) [] s
    rw [compTurn_gen, Sem.onRaise_eq_wrap]
    refine seg_bind_wrap (wpAny_standAt ?_)
    have htu : s.heap.IsTuple a vs.toArray := ⟨_, gi.keeps _ _ a19 ha, rfl, n, rfl⟩
    refine seg_bind_wrap (wpAny_pyNext_tuple_item gi.iter htu (x := v) (by simpa using hv) fun h₁ hit₁ hs₁ => ?_)
    refine seg_bind_wrap (wpAny_of_eq (rfl : letOwnedTupleGo (.Name x px) (.ref I) v = pure ()) ?_)
    obtain ⟨m₀, hm₀⟩ := gi.ns
    have gi₁ : GenI B l0 I C a cell bv (i + 1) h₁ := gi.move (fun b o hb e => hs₁.extBut b o hb e) hBI hI.1 hI.2.1 hI.2.2.1 hI.2.2.2.1 hit₁ ⟨m₀, hm₀.sameBut hs₁ (Ne.symm hI.2.2.2.2)⟩
    refine seg_bind_wrap (wpAny_assign_Name (wpAny_storeName_local hx (by rw [hL]; exact hm₀.sameBut hs₁ (Ne.symm hI.2.2.2.2)) (fun h₂ hn₂ hs₂ => ?_) hp))
    rw [hL] at hn₂ hs₂
    have gi₂ : GenI B l0 I C a cell bv (i + 1) h₂ := gi₁.move (fun b o hb e => hs₂.extBut b o hb e) hBC hC.1 hC.2.1 hC.2.2.1 hC.2.2.2 (by obtain ⟨o, ho, r⟩ := hit₁; exact ⟨o, hs₂.extBut _ _ hI.2.2.2.2 ho, r⟩) ⟨_, hn₂⟩
    have gx₂ : Grx I C s₀ { s with heap := h₂, toks := s.toks + 1 } := gx.trans ⟨⟨_, _, _, rfl⟩, fun b o n0 n1 n2 e => hs₂.extBut b o n2 (hs₁.extBut b o n1 e),
      .of (fun o e => hs₂.extBut 20 o (Ne.symm hC.2.1) (hs₁.extBut 20 o (Ne.symm hI.2.1) e)) (fun o e => hs₂.extBut 16 o (Ne.symm hC.1) (hs₁.extBut 16 o (Ne.symm hI.1) e)), .refl _⟩
    refine seg_bind_wrap (wpAny_pure ?_)
    simp only [if_true]
    have hy : ∀ v, yieldOut cenv v = yieldValue v := fun v => by simp only [yieldOut, hco, Bool.false_eq_true, if_false]
    simp only [hy]
    rw [Sem.bind_eq_wrap', Sem.bind_eq_wrap', Sem.wrap_wrap, Sem.wrap_wrap]
    obtain ⟨m, hm⟩ : ∃ m, l.length - i = m + 1 := ⟨l.length - i - 1, by omega⟩
    have em : l.length - (m + 1) = i := by omega
    have em' : l.length - m = i + 1 := by omega
    rw [hm]
    refine seg_wrap (helt _ _ _ _ i t v hh' ?_ ?_ ?_ ht hv ⟨_, hn₂, by simp⟩ gi₂ (fun b s' e hg => ?_) fun e s' he hr => ?_)
    · show pushEnvs [cenv] (pushEnvs [] A.frames) = _
      rw [hfr]; rfl
    · show A.depth + 0 + (1 + 0 + 0 + 0) = A.depth + 1
      rfl
    · show A.units + 0 + _ ≤ A.units + 4
      simp [Code.cUnits, Code.frames, Code.isFrame]
    · have gi₃ := gi₂.keep hg.keeps hg.tab hI.1 hC.1 hcell
      refine seg_at (seg_yield rfl rfl rfl ⟨⟨b, t, rfl, by rw [em]; exact ht, e⟩, gx₂.trans hg.x, by rw [em']; exact gi₃, fun s'' gi' => ?_⟩)
      rw [em'] at gi'
      have e2 : m = l.length - (i + 1) := by omega
      rw [e2]
      exact seg_again rfl (ih (i + 1) s'' s'' (by omega) hlt gi' (Grx.refl ..))
    · show Seg _ _ _ _ _ _ _ ((leaving cenv (.ref e)).bind _) _ _
      rw [Sem.bind_eq_wrap]
      refine seg_wrap ?_
      have fo₂ : FO h₂ (cenv :: l0) := gi₂.fo.cons hK hF hn₂
      have fo₃ : FO s'.heap (cenv :: l0) := fo₂.slots hr.fl.frames
      have th : ∀ b o, B.get? b = some o → ∃ o', h₂.get? b = some o' := fun b o e => by
        by_cases h19 : b = 16
        · obtain ⟨ps, _, _, z⟩ := gi₂.tab; exact ⟨_, h19 ▸ z⟩
        · exact ⟨o, gi₂.keeps b o h19 e⟩
      have fl₃ : Fl B (cenv :: l0) e s'.heap := hr.fl.back gi₂.keeps gi₂.tabB th (fo₂.no19 gi₂.tab)
      have hcs' : cStatics ∉ frs (cenv :: l0) := frs_cons hF hcs hcC
      refine fl_leave (h₀ := B) (L := C) ?_ hF fo₃ fl₃ hBC hcs' hBs fun h' fl fo' => ?_
      · show pushEnvs [cenv] (pushEnvs [] A.frames) = _
        rw [hfr]; rfl
      · refine seg_end (.error (.ref e)) (.inr ⟨e, t, rfl, by rw [em]; exact ht, he, ?_, fl, fo', gx₂.gens.trans hr.gens⟩)
        obtain ⟨_, _, _, q1⟩ := gx₂.same
        obtain ⟨_, _, _, q2⟩ := hr.same
        rw [q2, q1]
        exact ⟨_, _, _, rfl⟩
end
end Mine

open PySem PySem.W PySem.Calls PyProof.Rows
set_option Elab.async false
set_option maxRecDepth 100000
namespace Mine
section
variable {prog : Program} {w : PySem.World} {A : Around}
/-- the generator's first turn -/
theorem seg_start {R : GenEnd} {Y : Protocol} {n : Nat} {s₀ s : Shared} {elt iter : Expr} {x : Str} {px : Pos} {scope : Scope} {pos : Pos} {I a i : Nat} {cenv : Env} (hit : s.heap.IsTupleIter I a i)
    (loop : Seg (model prog w) A R Y n s₀ (.compLoop (.GeneratorExp elt [⟨.Name x px, iter, [], 0⟩] scope pos) 0 (.ref I) .none cenv) ((model prog w).den (.compLoop (.GeneratorExp elt [⟨.Name x px, iter, [], 0⟩] scope pos) 0 (.ref I) .none cenv)) [] s) :
    Seg (model prog w) A R Y n s₀ (.compStart (.GeneratorExp elt [⟨.Name x px, iter, [], 0⟩] scope pos) 0 (.ref I) .none cenv) ((model prog w).den (.compStart (.GeneratorExp elt [⟨.Name x px, iter, [], 0⟩] scope pos) 0 (.ref I) .none cenv)) [] s := by
  show Seg _ A _ _ _ s₀ _ ((compStart (.GeneratorExp elt [⟨.Name x px, iter, [], 0⟩] scope pos) 0 (.ref I) .none cenv).onRaise (leaving cenv)) [] s
  unfold compStart
  rw [Sem.onRaise_eq_wrap]
  show Seg _ A _ _ _ s₀ _ ((ask >>= _).wrap _ _ _ _) [] s
  refine seg_bind_wrap (wpAny_askSetting ?_)
  split
  · exact seg_again rfl loop
  · refine seg_bind_wrap (wpAny_rule ?_)
    show Seg _ A _ _ _ s₀ _ ((standAt iter.pos >>= _).wrap _ _ _ _) [] s
    exact seg_bind_wrap (wpAny_standAt (seg_bind_wrap (wpAny_pyIter_tupleiter hit (seg_again rfl loop))))

theorem sub_stop_type : isSubtype (.type "TypeError") (.type "StopIteration") = pure false := by rw [isSubtype_type]; kernel_rfl

/-- next() of a generator that may also end in a TypeError -/
theorem next_gen {E : Value → Shared → Prop} {s : Shared} {a : Addr} {g n : Nat} {gs : GenState} {R : GenEnd} {Y : Protocol} {Q : Option Value → Shared → Prop} (hh : A.handled = none)
    (hl : s.heap.NoLimit) (hroom : A.depth < recursionLimit) (hg : s.heap.IsGen a g) (hgs : s.gens[g]? = some gs)
    (hgo : gs.Goes (model prog w) A.in1 R Y n (.send .none) (s.setGen g .running))
    (hY : ∀ v s₁ gs', gs'.bare = true → Y (n - 1) (s.setGen g .running) v s₁ (fun r' s'' => match n with | 0 => False | m + 1 => gs'.Goes (model prog w) A.in1 R Y m r' s'') → Q (some v) (s₁.setGen g gs'))
    (hR : ∀ x s₁, R n (s.setGen g .running) x s₁ → (x = .ok .next ∧ ∀ h', (∀ b o, s₁.heap.get? b = some o → h'.get? b = some o) → Q none { s₁.setGen g .finished with heap := h' }) ∨
      (∃ e o, x = .error (.ref e) ∧ s₁.heap.get? e = some o ∧ o.cls = .type "TypeError" ∧ s₁.heap.IsGen a g ∧ E (.ref e) (s₁.setGen g .finished))) :
    wpAny (model prog w) A (pyNext (.ref a)) Q E s := by
  unfold pyNext
  refine wpAny_bind (wpAny_attempt (wpAny_callSpecial?_slot (name := Str.ofString "__next__") hg.typeIs slot_gen_next
    (wpAny_call_entry slot_gen_next hg.typeIs entry_gen_next ?_ (args_gen_next _))))
  show wpAny _ A.in1 (Builtin.Generator.genWake (.ref a) (.send .none)) _ _ s
  unfold Builtin.Generator.genWake
  refine wpAny_bind (wpAny_holding (wpAny_genNumber hg (wpAny_bind (wpAny_genState hgs ?_))))
  cases gs with
  | running => exact hgo.elim
  | finished => exact hgo.elim
  | _ =>
    refine wpAny_bind (wpAny_roomToWake hl hroom ?_)
    show wpAny _ A.in1 (.resume g (.send .none) [] _) _ _ s
    refine wpAny_resumeQ hgs hgo (fun x s₁ hx => ?_) (fun v s₁ gs' hb hv => ?_)
    · rcases hR x s₁ hx with ⟨rfl, hp⟩ | ⟨e, o, rfl, ho, hc, hig, he⟩
      · have quiet : A.in1.handled = none := hh
        show wpAny _ A.in1 (newExc (.type "StopIteration") [] >>= _) _ _ _
        simp only [newExc, newTuple, raiseNew]
        repeat (any_goals (first | assumption | wp_step))
        refine wpAny_of_eq isSubtype_stop (wpAny_pure (hp _ fun b o q => ?_))
        exact Heap.get?_push_of_some _ (Heap.get?_push_of_some _ q)
      · show wpAny _ A.in1 (Builtin.Generator.genLeft (.ref a) (.ref e)) _ _ _
        obtain ⟨og, nm, qn, hog, hgc, hgd, _⟩ := hig
        have ty : (s₁.setGen g GenState.finished).TypeIs (.ref e) "TypeError" := ⟨o, ho, hc⟩
        unfold Builtin.Generator.genLeft Builtin.Generator.madeByALambda
        refine wpAny_bind (wpAny_bind (wpAny_load (s := s₁.setGen g GenState.finished) hog (wpAny_pure ?_)))
        rw [hgc, hgd]
        refine wpAny_bind (wpAny_isInstance ty sub_stop_type ?_)
        rw [if_neg (by simp)]
        unfold Builtin.Generator.genEscaped
        refine wpAny_bind (wpAny_isInstance ty sub_stop_type ?_)
        rw [if_pos (by decide)]
        refine wpAny_bind (wpAny_throw ?_)
        refine wpAny_bind (wpAny_isInstance ty sub_stop_type ?_)
        exact wpAny_throw he
    · exact wpAny_pure ⟨v, rfl, wpAny_pure (hY v s₁ gs' hb hv)⟩

/-- the generators behind: one's own may have gone on -/
structure GX (g : Nat) (a b : Array GenState) : Prop where
  keep : ∀ (i : Nat) (x : GenState), i ≠ g → a[i]? = some x → b[i]? = some x
  bare : (∀ x ∈ a, x.bare = true) → ∀ x ∈ b, x.bare = true
theorem GX.refl (g : Nat) (a : Array GenState) : GX g a a := ⟨fun _ _ _ e => e, fun h => h⟩
theorem GX.trans {g : Nat} {a b c : Array GenState} (x : GX g a b) (y : GX g b c) : GX g a c := ⟨fun i z n e => y.keep i z n (x.keep i z n e), fun h => y.bare (x.bare h)⟩
theorem GOK.gx {g : Nat} {a b : Array GenState} (x : GOK a b) : GX g a b := ⟨fun i z _ e => x.keep i z e, x.bare⟩
theorem GX.set {s : Shared} {g : Nat} {y : GenState} (hb : y.bare = true) : GX g s.gens (s.setGen g y).gens where
  keep := fun i x hn e => by rw [(GenOnly.setGen s g y).2 i hn]; exact e
  bare := fun h x hx => by
    simp only [Shared.setGen] at hx
    rcases Array.mem_or_eq_of_mem_setIfInBounds hx with hx | rfl
    · exact h x hx
    · exact hb

theorem all_loop {B : Heap} {l0 : List Env} {I C a cell ga : Addr} {g : Nat} {bv : Value} {u : T} {l : List T} {R : Result → Shared → Prop}
    (hh : A.handled = none) (hroom : A.depth < recursionLimit) (hlim : B.NoLimit) (hga : ga ≠ 16 ∧ ga ≠ I ∧ ga ≠ C) (hgB : B.IsGen ga g) :
    ∀ (k j : Nat) (s : Shared) (gs : GenState), l.length - j = k → j ≤ l.length → GenI B l0 I C a cell bv j s.heap → s.gens[g]? = some gs →
      (∀ s'' : Shared, GenI B l0 I C a cell bv j s''.heap → gs.Goes (model prog w) A.in1.in1 (GEnd B l0 I C u l) (GYield B l0 I C a cell bv u l) (l.length - j) (.send .none) s'') →
      (∀ b s', isubL u (l.drop j) = some b → (∃ h' tk gs, s' = { s with heap := h', toks := tk, gens := gs }) → (∀ b o, b ≠ 16 → b ≠ I → b ≠ C → s.heap.get? b = some o → s'.heap.get? b = some o) → TabUp s.heap s'.heap → GX g s.gens s'.gens → R (.ok (.ret (.bool b))) s') →
      (∀ e s', isubL u (l.drop j) = none → (∃ h' tk gs, s' = { s with heap := h', toks := tk, gens := gs }) → Fl B l0 e s'.heap → FO s'.heap l0 → GX g s.gens s'.gens → R (.error (.ref e)) s') →
      codeAny (model prog w) A (.builtin "all.loop" ⟨[.ref ga], []⟩) R s := by
  have main : ∀ (j n : Nat) (s : Shared) (gs : GenState), l.length - j = n → j ≤ l.length → GenI B l0 I C a cell bv j s.heap → s.gens[g]? = some gs →
      (∀ s'' : Shared, GenI B l0 I C a cell bv j s''.heap → gs.Goes (model prog w) A.in1.in1 (GEnd B l0 I C u l) (GYield B l0 I C a cell bv u l) n (.send .none) s'') →
      (∀ b s', isubL u (l.drop j) = some b → (∃ h' tk gs, s' = { s with heap := h', toks := tk, gens := gs }) → (∀ b o, b ≠ 16 → b ≠ I → b ≠ C → s.heap.get? b = some o → s'.heap.get? b = some o) → TabUp s.heap s'.heap → GX g s.gens s'.gens → R (.ok (.ret (.bool b))) s') →
      (∀ e s', isubL u (l.drop j) = none → (∃ h' tk gs, s' = { s with heap := h', toks := tk, gens := gs }) → Fl B l0 e s'.heap → FO s'.heap l0 → GX g s.gens s'.gens → R (.error (.ref e)) s') →
      (∀ (gs' : GenState) (m : Nat) (s₁ : Shared), n = m + 1 → GenI B l0 I C a cell bv (j + 1) s₁.heap → s₁.gens[g]? = some gs' →
        (∀ s'' : Shared, GenI B l0 I C a cell bv (j + 1) s''.heap → gs'.Goes (model prog w) A.in1.in1 (GEnd B l0 I C u l) (GYield B l0 I C a cell bv u l) m (.send .none) s'') →
        (∃ t, l[j]? = some t ∧ isub u t = some true) → (∃ h' tk gs, s₁ = { s with heap := h', toks := tk, gens := gs }) → (∀ b o, b ≠ 16 → b ≠ I → b ≠ C → s.heap.get? b = some o → s₁.heap.get? b = some o) → TabUp s.heap s₁.heap → GX g s.gens s₁.gens →
        codeAny (model prog w) A (.builtin "all.loop" ⟨[.ref ga], []⟩) R s₁) →
      codeAny (model prog w) A (.builtin "all.loop" ⟨[.ref ga], []⟩) R s := by
    intro j n s gs hn hj gi hgs hgo hQ hE hnext
    have hig : s.heap.IsGen ga g := by obtain ⟨o, nm, qn, ho, r⟩ := hgB; exact ⟨o, nm, qn, gi.keeps _ _ hga.1 ho, r⟩
    have hl : s.heap.NoLimit := by obtain ⟨mc, hns, hnn⟩ := hlim; exact ⟨mc, hns.at' fun o e => gi.keeps cStatics o (by decide) e, hnn⟩
    have hgsz : ∀ x : GenState, (s.setGen g x).gens[g]? = some x := fun x => setGen_self hgs
    have dropj : ∀ t, l[j]? = some t → l.drop j = t :: l.drop (j + 1) := fun t ht => by
      obtain ⟨hlt, e⟩ := List.getElem?_eq_some_iff.mp ht
      rw [List.drop_eq_getElem_cons hlt, e]
    refine code_fn F.plain_all_loop F.entry_all_loop ?_
    show wpAny _ _ (pyNext (.ref ga) >>= _) _ _ s
    refine wpAny_bind (next_gen (R := GEnd B l0 I C u l) (Y := GYield B l0 I C a cell bv u l) (n := n) hh hl hroom hig hgs (hgo _ gi) (fun v s₁ gs' hb hy => ?_) (fun x s₁ hr => ?_))
    · obtain ⟨⟨b, t, rfl, ht, e⟩, gx, gi₁, hkap⟩ := hy
      obtain ⟨_, _, _, hsame⟩ := gx.same
      cases n with
      | zero => exact (hkap s₁ gi₁).elim
      | succ m =>
        rw [Nat.add_sub_cancel] at ht gi₁ hkap
        have e1 : l.length - (m + 1) = j := by omega
        have e2 : l.length - m = j + 1 := by omega
        rw [e1] at ht
        rw [e2] at gi₁ hkap
        have hg₁ : s₁.gens[g]? = some .running := gx.gens.keep g _ (hgsz _)
        have gxx : GX g s.gens (s₁.setGen g gs').gens := ((GX.set (s := s) rfl).trans gx.gens.gx).trans (GX.set hb)
        have same : ∃ h' tk gs, s₁.setGen g gs' = { s with heap := h', toks := tk, gens := gs } := by rw [hsame]; exact ⟨_, _, _, rfl⟩
        refine wpAny_bind (wpAny_holding (wpAny_truthy_bool (wpAny_bind (wpAny_letGo ?_))))
        cases b with
        | true =>
          exact wpAny_pure ⟨plainId_quiet F.plain_all_loop _, hnext gs' m _ rfl gi₁ (setGen_self hg₁) (fun s'' g'' => hkap s'' g'') ⟨t, ht, e⟩ same gx.keeps gx.tab gxx⟩
        | false =>
          refine wpAny_bind (wpAny_rule (wpAny_pure (hQ false _ ?_ same gx.keeps gx.tab gxx)))
          rw [dropj t ht, isubL, e]
    · rcases hr with ⟨rfl, hn0, gx⟩ | ⟨e, t, rfl, ht, he, ⟨h₁, tk₁, gs₁, hsame⟩, fl, fo, gk⟩
      · refine .inl ⟨rfl, fun h' hk => wpAny_bind (wpAny_rule (wpAny_pure (hQ true _ ?_ ?_ (fun b o n0 n1 n2 e => hk _ _ (gx.keeps b o n0 n1 n2 e)) (gx.tab.trans (.of (hk 20) (hk 16))) (((GX.set (s := s) rfl).trans gx.gens.gx).trans (GX.set rfl)))))⟩
        · have : j = l.length := by omega
          rw [this, List.drop_length, isubL]
        · obtain ⟨_, _, _, hs⟩ := gx.same
          rw [hs]; exact ⟨_, _, _, rfl⟩
      · have e1 : l.length - n = j := by omega
        rw [e1] at ht
        obtain ⟨oe, evs, q1, q2, _⟩ := fl.exc
        refine .inr ⟨e, oe, rfl, q1, q2, ?_, hE e _ ?_ ?_ fl fo (((GX.set (s := s) rfl).trans gk.gx).trans (GX.set rfl))⟩
        · obtain ⟨o, nm, qn, ho, r1, r2, r3⟩ := hgB
          refine ⟨o, nm, qn, fl.keeps ga o (fun q => ?_) hga.1 (fun hm => ?_) ho, r1, r2, r3⟩
          · obtain ⟨mc, ⟨o', es, ep, ho', hd', _⟩, _⟩ := hlim
            rw [q, ho'] at ho; cases ho; rw [hd'] at r2; cases r2
          · obtain ⟨o', ho', nf⟩ := gi.fo.mem hm
            rw [gi.keeps _ _ hga.1 ho] at ho'; cases ho'; exact nf _ r2
        · rw [dropj t ht, isubL, he]
        · rw [hsame]; exact ⟨_, _, _, rfl⟩
  intro k
  induction k with
  | zero =>
    intro j s gs hk hj gi hgs hgo hQ hE
    exact main j _ s gs rfl hj gi hgs hgo hQ hE (fun gs' m s₁ e => by omega)
  | succ k ih =>
    intro j s gs hk hj gi hgs hgo hQ hE
    refine main j _ s gs rfl hj gi hgs hgo hQ hE (fun gs' m s₁ e gi₁ hg₁ hgo₁ ⟨t, ht, et⟩ same keeps tab gx => ?_)
    obtain ⟨hlt, e9⟩ := List.getElem?_eq_some_iff.mp ht
    have dj : l.drop j = t :: l.drop (j + 1) := by rw [List.drop_eq_getElem_cons hlt, e9]
    have em : m = l.length - (j + 1) := by omega
    rw [em] at hgo₁
    obtain ⟨_, _, _, hs⟩ := same
    refine ih (j + 1) s₁ gs' (by omega) (by omega) gi₁ hg₁ hgo₁ (fun b s' eb sm kp tb gk => hQ b s' ?_ ?_ (fun b o n0 n1 n2 e => kp b o n0 n1 n2 (keeps b o n0 n1 n2 e)) (tab.trans tb) (gx.trans gk)) (fun e' s' eb sm fl fo gk => hE e' s' ?_ ?_ fl fo (gx.trans gk))
    · rw [dj, isubL, et]; exact eb
    · obtain ⟨_, _, _, hs'⟩ := sm; rw [hs', hs]; exact ⟨_, _, _, rfl⟩
    · rw [dj, isubL, et]; exact eb
    · obtain ⟨_, _, _, hs'⟩ := sm; rw [hs', hs]; exact ⟨_, _, _, rfl⟩
end
end Mine

open PySem PySem.W PySem.Calls PyProof.Rows
set_option Elab.async false
set_option maxRecDepth 100000
namespace Mine
theorem filled10 : (PySem.Challenge.rw_kr0026_01 = PySem.Challenge.rw_kr0026_01) ∧ (hd.heap_39 = hd.heap_39) := by
  k_fill
  exact ⟨rfl, rfl⟩
theorem TreesAt.get {h : Heap} {ty : String} {lf : Nat → Value → Prop} : ∀ {l : List T} {vs : List Value}, TreesAt h ty lf l vs → vs.length = l.length ∧ ∀ (i : Nat) (t : T) (v : Value), l[i]? = some t → vs[i]? = some v → TreeAt h ty lf t v
  | [], vs, x => by rw [TreesAt] at x; subst x; exact ⟨rfl, fun i t v e => by simp at e⟩
  | t :: ts, vs, x => by
    rw [TreesAt] at x
    obtain ⟨v, r, rfl, x1, x2⟩ := x
    obtain ⟨h1, h2⟩ := x2.get
    refine ⟨by simp [h1], fun i t' v' e e' => ?_⟩
    cases i with
    | zero => simp at e e'; subst e e'; exact x1
    | succ i => simp at e e'; exact h2 i t' v' e e'
theorem TabSt.eq {h : Heap} {ps ps' : Array Value} (x : TabSt h ps) (y : TabSt h ps') : ps' = ps := by
  have := Option.some.inj (y.2.2.symm.trans x.2.2)
  injection this with _ _ h3
  injection h3
theorem TabUp.one {h h' : Heap} {ps more : Array Value} (x : TabSt h ps) (y : TabSt h' (ps ++ more)) : TabUp h h' := fun ps' z => by
  rw [x.eq z]; exact ⟨more, y⟩

set_option pp.deepTerms.threshold 5
set_option pp.maxSteps 20000
set_option maxHeartbeats 4000000 in
theorem sub_node {prog : Program} {w : PySem.World} {mg mb : Str → Option Value} {W₀ : Heap} {u : T} {bv : Value} (D : Wo w mg mb W₀) (l : List T) (ih : ∀ t ∈ l, Sub prog w W₀ u bv t) : Sub prog w W₀ u bv (.node l) := by
  intro A E Q s v outer st tab x hh hdp hu hfr fo hcf hQ hE
  rw [TreeAt] at x
  obtain ⟨a, vs, n, rfl, ho, xs⟩ := x
  obtain ⟨hlen, xget⟩ := xs.get
  rw [T.ht] at hdp hu
  rw [isub] at hQ hE
  have X := (D.D.up st).X
  have T := (D.D.up st).T
  obtain ⟨ps, tab⟩ := tab
  refine enterC X T.nolimit rfl rfl (by simp only [recursionLimit] at *; omega) rfl rfl (by decide +kernel) fun h₁ tk cells F N Y => ?_
  k_cells Y
  show wpAny _ _ _ _ _ _
  k_fold
  k_steps
  refine isi_tuple_tuple (F.keep _ _ (st _ _ ho)) fun tk₁ => ?_
  dsimp only
  k_steps
  have cl₁ : h₁.IsCell (s.heap.objs.size + 1) (some bv) := ⟨_, (N _ (List.mem_cons_self ..)).1, by assumption⟩
  have hL : s.heap.objs.size < h₁.objs.size := by obtain ⟨o, _, _, q, _⟩ := F.ns; exact Heap.lt_size q
  have hcl : s.heap.objs.size + 1 < h₁.objs.size := by obtain ⟨o, q, _⟩ := cl₁; exact Heap.lt_size q
  have h19 : 16 < s.heap.objs.size := Heap.lt_size tab.2.2
  have h20 : 20 < s.heap.objs.size := by obtain ⟨⟨o, vs, q, _⟩, _⟩ := tab.2; exact Heap.lt_size q
  have hcs : cStatics < s.heap.objs.size := Heap.lt_size (st _ _ D.stat)
  refine wpAny_GeneratorExp_make (cl := [(Str.ofString "basetype", s.heap.objs.size + 1)]) rfl rfl (by decide) rfl rfl (by simp only [recursionLimit] at *; show A.depth + 1 < 1000; omega) ?_ (fun _ => rfl)
  refine nameX_L F rfl ?_ rfl rfl
  have htu : h₁.IsTuple a vs.toArray := ⟨_, F.keep _ _ (st _ _ ho), rfl, n, rfl⟩
  refine wpAny_pyIter_tuple (s := { s with heap := h₁, toks := tk₁ }) htu ?_
  refine ⟨(T.nolimit.keeps F.keep).push _, ?_⟩
  have t₁ : TabSt h₁ ps := tab.at (F.keep 20) (F.keep 16)
  have t₂ : TabSt (h₁.push { cls := .type "tuple_iterator", data := .fields #[.ref a, .int 0 0] }) ps := t₁.at (fun o e => Heap.get?_push_of_some _ e) (fun o e => Heap.get?_push_of_some _ e)
  refine gexCode rfl t₂ fun code h₃ tk₃ more hx₃ hsz₃ t₃ => ?_
  -- the world at the new heap
  have kI : ∀ b o, h₁.get? b = some o → (h₁.push { cls := .type "tuple_iterator", data := .fields #[.ref a, .int 0 0] }).get? b = some o := fun b o e => Heap.get?_push_of_some _ e
  have k13 : ∀ b o, b ≠ 16 → h₁.get? b = some o → h₃.get? b = some o := fun b o hb e => hx₃ b o hb (kI b o e)
  have hsz₃' : h₁.objs.size + 1 ≤ h₃.objs.size := by have := hsz₃; simp only [Heap.size_push] at this; exact this
  have kS3 : ∀ b o, b ≠ 16 → s.heap.get? b = some o → h₃.get? b = some o := fun b o hb e => k13 b o hb (F.keep b o e)
  have kW3 : ∀ b o, W₀.get? b = some o → h₃.get? b = some o := fun b o e => kS3 b o (fun q => by rw [q, D.noP] at e; cases e) (st b o e)
  obtain ⟨bm, ob, BM⟩ := D.bmod
  have BM₃ := BM.keeps kW3
  refine wpAny_builtinsFor (m := _) BM₃.ns BM₃.name BM₃.ne BM₃.obj BM₃.cls BM₃.dict BM₃.data ?_
  intro h' hn' hs'
  have hn'' : h'.objs.size = h₃.objs.size + 1 := by rw [hs'.1, Heap.size_push]
  generalize hgo : ({ cls := .type "generator", data := .fields #[.int s.gens.size 0, .str "<genexpr>" (tk₃ + 1), .str ((envOfC (Str.ofString "_is_subtype") _ s.heap.objs.size 21 (Value.ref 20)).qual ++ "<genexpr>") (tk₃ + 1 + 1)] } : Obj) = gobj
  have hgc : gobj.cls = .type "generator" := by rw [← hgo]
  have hgd : ∃ nm qn, gobj.data = .fields #[.int s.gens.size 0, nm, qn] ∧ gobj.slots = #[] := by rw [← hgo]; exact ⟨_, _, rfl, rfl⟩
  clear hgo
  refine spliced_none ?_
  have k35 : ∀ b o, h₃.get? b = some o → (h'.push gobj).get? b = some o := fun b o e => Heap.get?_push_of_some _ (hs'.extBut b o (Nat.ne_of_lt (Heap.lt_size e)) (Heap.get?_push_of_some _ e))
  generalize hH5 : h'.push gobj = H5 at k35 ⊢
  have hgen : H5.get? h'.objs.size = some gobj := by
    rw [← hH5]
    refine Heap.get?_push_size _ ?_
    obtain ⟨nm, qn, q, _⟩ := hgd
    exact Obj.isFreed_of_fields q
  have hnC : H5.Ns h₃.objs.size (fun y => if y = (".0" : Str) then some (.ref h₁.objs.size) else none) := by rw [← hH5]; exact hn'.push _
  have hit : H5.IsTupleIter h₁.objs.size a 0 := by
    refine ⟨_, k35 _ _ (hx₃ _ _ (neN (by omega)) (Heap.get?_push_size _ rfl)), rfl, rfl⟩
  generalize hga : h'.objs.size = ga at hgen ⊢
  have hga' : ga = h₃.objs.size + 1 := by rw [← hga, hn'']
  have hig : H5.IsGen ga s.gens.size := by
    obtain ⟨nm, qn, q, q'⟩ := hgd
    exact ⟨gobj, nm, qn, hgen, hgc, q, q'⟩
  -- the base of the flight
  generalize hB : hideAll H5 [h₁.objs.size, h₃.objs.size] = B
  have BH : ∀ b o, B.get? b = some o → H5.get? b = some o := fun b o e => by rw [← hB] at e; exact of_hideAll _ e
  have HB : ∀ b o, b ≠ h₁.objs.size → b ≠ h₃.objs.size → H5.get? b = some o → B.get? b = some o := fun b o n1 n2 e => by
    rw [← hB]
    refine hideAll_get _ e ?_
    simp [n1, n2]
  have BI : B.get? h₁.objs.size = none := by rw [← hB]; exact hideAll_none _ (by simp)
  have BC : B.get? h₃.objs.size = none := by rw [← hB]; exact hideAll_none _ (by simp)
  have kSB : ∀ b o, b ≠ 16 → s.heap.get? b = some o → B.get? b = some o := fun b o hb e => by
    have := ltN (Heap.lt_size e)
    exact HB b o (neN (by omega)) (neN (by omega)) (k35 _ _ (kS3 b o hb e))
  have k1B : ∀ b o, b ≠ 16 → h₁.get? b = some o → B.get? b = some o := fun b o hb e => by
    have := ltN (Heap.lt_size e)
    exact HB b o (neN (by omega)) (neN (by omega)) (k35 _ _ (k13 b o hb e))
  have t5 : TabSt H5 (ps ++ more) := t₃.at (k35 20) (k35 16)
  have tB : TabSt B (ps ++ more) := t5.at (fun o => HB 20 o (neN (by omega)) (neN (by omega))) (fun o => HB 16 o (neN (by omega)) (neN (by omega)))
  have upB : TabUp s.heap B := TabUp.one tab tB
  have thB : ∀ b o, s.heap.get? b = some o → ∃ o', B.get? b = some o' := fun b o e => by
    by_cases hb : b = 16
    · exact ⟨_, hb ▸ tB.2.2⟩
    · exact ⟨o, kSB b o hb e⟩
  have kWB : ∀ b o, W₀.get? b = some o → B.get? b = some o := fun b o e => kSB b o (fun q => by rw [q, D.noP] at e; cases e) (st b o e)
  generalize henv : envOfC (Str.ofString "_is_subtype") _ s.heap.objs.size 21 (Value.ref 20) = env0 at *
  have hk0 : env0.scope.kind = .function := by rw [← henv]; rfl
  have hg0 : env0.globals = mainGlobals := by rw [← henv]; rfl
  have hf0 : env0.frame = some s.heap.objs.size := by rw [← henv]; rfl
  have nL : B.Ns s.heap.objs.size _ := F.ns.at' fun o e => k1B _ o (neN (by omega)) e
  have fo0 : ∀ h, (∀ b o, b ≠ 16 → B.get? b = some o → h.get? b = some o) → FO h (env0 :: outer) := fun h k => by
    refine FO.cons (fo.keeps fun b o hb e => k b o (fun q => fo.no19 ⟨ps, tab⟩ (q ▸ hb)) (kSB b o (fun q => fo.no19 ⟨ps, tab⟩ (q ▸ hb)) e)) hk0 hf0 (nL.at' fun o e => k _ o (neN (by omega)) e)
  have frL : ∀ b, s.heap.objs.size < b → b ∉ frs (env0 :: outer) := fun b hb => frs_cons hf0 (fun hm => by
      obtain ⟨o, q, _⟩ := fo.mem hm
      have := ltN (Heap.lt_size q); omega) (neN (by omega))
  have hcf0 : cStatics ∉ frs (env0 :: outer) := frs_cons hf0 hcf (Nat.ne_of_lt hcs)
  have gi0 : GenI B (env0 :: outer) h₁.objs.size h₃.objs.size a (s.heap.objs.size + 1) bv 0 H5 := ⟨fun b o _ e => BH b o e, hit, ⟨_, hnC⟩, .of (BH 20) (BH 16), ⟨_, t5⟩,
    (let ⟨o, q, r⟩ := cl₁; ⟨o, BH _ _ (k1B _ _ (neN (by omega)) q), r⟩), fo0 H5 fun b o _ e => BH b o e⟩
  have haB : B.get? a = some (seqOf "tuple" vs n) := kWB _ _ ho
  have hal := ltN (Heap.lt_size (st _ _ ho))
  have hcs' := ltN hcs
  have a19 : a ≠ 16 := fun q => by rw [q, D.noP] at ho; cases ho
  have hgB : B.IsGen ga s.gens.size := by
    obtain ⟨o, nm, qn, q, r⟩ := hig
    exact ⟨o, nm, qn, HB _ _ (neN (by omega)) (neN (by omega)) q, r⟩
  have limB : B.NoLimit := T.nolimit.keeps (h' := B) |> fun _ => by
    obtain ⟨mc, q1, q2⟩ := T.nolimit
    exact ⟨mc, q1.at' fun o e => kSB cStatics o (by decide) e, q2⟩
  refine call_fn PySem.F.kind_all PySem.F.plain_all PySem.F.entry_all (PySem.F.args_all1 _) ?_
  unfold Builtin.«all»
  refine wpAny_bind (m := oneArg "all" _) (wpAny_pure ?_)
  refine wpAny_bind (wpAny_pyIter_gen (by exact hig) ?_)
  refine wpAny_pure ⟨plainId_quiet PySem.F.plain_all_loop _, ?_⟩
  refine all_loop (A := A.deeper env0) (B := B) (l0 := env0 :: outer) (I := h₁.objs.size) (C := h₃.objs.size) (a := a) (cell := s.heap.objs.size + 1) (ga := ga) (g := s.gens.size) (bv := bv) (u := u) (l := l)
    hh (by simp only [recursionLimit] at *; show A.depth + 1 < 1000; omega) limB ⟨neN (by omega), neN (by omega), neN (by omega)⟩ hgB l.length 0 _ _ rfl (Nat.zero_le _) gi0 (Array.getElem?_push_size ..) (fun s'' gi => ?_) (fun b s' e same keeps tabU gx => ?_) (fun e s' he same fl fo' gx => ?_)
  · refine ⟨rfl, seg_start gi.iter (sub_seg (A := (A.deeper env0).in1.in1) (a := a) (vs := vs) (n := n) hh (Around.frames_deeper hfr) hlen haB a19 (neN (by omega)) BI BC ⟨neN (by omega), neN (by omega), neN (by omega), frL _ (by omega), neN (by omega)⟩ ⟨neN (by omega), neN (by omega), neN (by omega), frL _ (by omega)⟩ (neN (by omega))
      rfl rfl rfl rfl rfl rfl hcf0 (neN (by omega)) (by rw [kWB _ _ D.stat]; rfl) ?_ l.length 0 s'' s'' rfl (Nat.zero_le _) gi (Grx.refl ..))⟩
    intro A' Q' E' s₂ i t v hA' hfr' hd' hu' ht hv hm gi₂ hQ' hE'
    have kB2 : ∀ b o, b ≠ 16 → B.get? b = some o → s₂.heap.get? b = some o := gi₂.keeps
    have kW2 : ∀ b o, W₀.get? b = some o → s₂.heap.get? b = some o := fun b o e => kB2 b o (fun q => by rw [q, D.noP] at e; cases e) (kWB b o e)
    have D₂ := D.D.up kW2
    obtain ⟨m, hns, hme⟩ := hm
    obtain ⟨hlt, e9⟩ := List.getElem?_eq_some_iff.mp ht
    refine Call_ (Name_function_global rfl rfl (loadGlobal_global (mg := mg) (by show s₂.heap.Ns env0.globals mg; rw [hg0]; exact D₂.T.g) (mg_of X T.g (v := .ref 21) (by k_is)) ?_))
    refine callWith_K (K := hd.heap_39 w.params) X (by k_is) ?_
    refine spliced_more (wpAny_Name (wpAny_loadName_local rfl rfl hns hme ?_))
    refine spliced_more (wpAny_Name (wpAny_loadName_free rfl rfl (c := s.heap.objs.size + 1) (by rfl) gi₂.cell ?_))
    refine spliced_none ⟨D₂.X, ?_⟩
    refine ih t (List.mem_of_getElem? ht) A' E' Q' s₂ v _ kW2 gi₂.tab (xget i t v ht hv) hA' ?_ ?_ hfr' (gi₂.fo.cons rfl rfl hns) (frs_cons (L := h₃.objs.size) rfl hcf0 (neN (by omega))) hQ' hE'
    · have := Mine.T.ht_mem (List.mem_of_getElem? ht)
      have : A'.depth = A.depth + 1 + 1 := hd'
      omega
    · have := Mine.T.ht_mem (List.mem_of_getElem? ht)
      have : A'.units ≤ A.units + 3 + 1 + 1 + 4 := hu'
      omega
  · refine hQ b s' ?_ ⟨?_, fun b o hb q => ?_, (TabUp.one tab t5).trans tabU, ⟨fun i x q => ?_, fun hb => gx.bare fun x hx => ?_⟩⟩
    · rw [List.drop_zero] at e; exact e
    · obtain ⟨_, _, _, q⟩ := same; rw [q]; exact ⟨_, _, _, rfl⟩
    · have := ltN (Heap.lt_size q)
      exact keeps b o hb (neN (by omega)) (neN (by omega)) (k35 _ _ (kS3 b o hb q))
    · have hi := (Array.getElem?_eq_some_iff.mp q).1
      refine gx.keep i x (Nat.ne_of_lt hi) ?_
      show (s.gens.push _)[i]? = some x
      rw [Array.getElem?_push_lt hi]
      exact (Array.getElem?_eq_some_iff.mp q).2 ▸ rfl
    · rcases Array.mem_push.mp hx with hx | rfl
      · exact hb x hx
      · rfl
  · subst henv
    show ek (.ref e) s'
    show wpAny _ _ (leaving _ (.ref e)) _ _ _
    refine fl_leave (h₀ := s.heap) (L := s.heap.objs.size) (Around.frames_deeper hfr) hf0 fo' (fl.back kSB upB thB ((fo0 B fun _ _ _ e => e).no19 ⟨_, tB⟩)) (Heap.get?_none_of_le (Nat.le_refl _)) hcf0 (by rw [st _ _ D.stat]; rfl) fun h₉ fl₉ _ => ?_
    obtain ⟨_, _, _, q⟩ := same
    refine hE e _ ?_ ⟨?_, fl₉, ⟨fun i x q => ?_, fun hb => gx.bare fun x hx => ?_⟩⟩
    · rw [List.drop_zero] at he; exact he
    · rw [q]; exact ⟨_, _, _, rfl⟩
    · have hi := (Array.getElem?_eq_some_iff.mp q).1
      refine gx.keep i x (Nat.ne_of_lt hi) ?_
      show (s.gens.push _)[i]? = some x
      rw [Array.getElem?_push_lt hi]
      exact (Array.getElem?_eq_some_iff.mp q).2 ▸ rfl
    · rcases Array.mem_push.mp hx with hx | rfl
      · exact hb x hx
      · rfl

theorem sub_all {prog : Program} {w : PySem.World} {mg mb : Str → Option Value} {W₀ : Heap} {u : T} {bv : Value} (D : Wo w mg mb W₀) (xu : TreeAt W₀ "tuple" (Thing W₀) u bv) (hu0 : u.ht < 900) : ∀ t, Sub prog w W₀ u bv t :=
  T.ind (fun i => sub_leaf D xu hu0 i) (fun l ih => sub_node D l ih)
end Mine

open PySem PySem.W PySem.Calls PyProof.Rows
set_option Elab.async false
set_option maxRecDepth 100000
namespace Mine
theorem filled11 : (PySem.Challenge.rw_kr0026_01 = PySem.Challenge.rw_kr0026_01) ∧ (hd.heap_39 = hd.heap_39) := by
  k_fill
  exact ⟨rfl, rfl⟩
section
variable {M : Model} {A : Around} {E : Value → Shared → Prop} {s : Shared} {Q : Unit → Shared → Prop}
/-- the record that an exception leaves of a frame, at the first one and at each further one -/
theorem note_one {base : Heap} {env : Env} {outer : List Env} {L e : Addr} {oe : Obj} {vs : Array Value} (hfr : A.frames = some (env :: outer)) (fo : FO s.heap (env :: outer)) (fresh : ∀ b ∈ frs (env :: outer), base.get? b = none) (hf : env.frame = some L)
    (he : s.heap.get? e = some oe) (hd : oe.data = .fields vs) (st : base.StaysIn s.heap) (hen : base.get? e = none)
    (hv : vs[1]? = some .none ∨ ∃ T oT ts, vs[1]? = some (.ref T) ∧ base.get? T = none ∧ T ≠ e ∧ s.heap.get? T = some oT ∧ oT.data = .fields ts ∧ ts[3]? = some .none)
    (hQ : ∀ h', Heap.Left base (env :: outer) e oe.cls s.heap h' → Q () { s with heap := h' }) : wpAny M A (noteFrame (.ref e) env) (fun _ s' => wpAny M A (setFlight (.ref e) none) Q E s') E s := by
  unfold noteFrame
  rw [hf]
  dsimp only
  rcases hv with a1 | ⟨T, oT, ts, a1, a2, a3, a4, a5, a6⟩
  · refine wpAny_bind (wpAny_field he hd a1 ?_)
    simp only [bne_self_eq_false, Bool.false_eq_true, if_false]
    exact wpAny_newEntry hfr (fo.fun fresh) hf he st hen hd (Array.getElem?_eq_some_iff.mp a1).1 hQ
  · refine wpAny_bind (wpAny_field he hd a1 (?_ : wpAny _ _ _ _ _ _))
    simp only [bne_iff_ne, ne_eq, reduceCtorEq, not_false_eq_true, if_true]
    refine wpAny_bind (wpAny_field a4 a5 a6 ?_)
    have n0 : (Value.none == rawInt L) = false := rfl
    rw [n0]
    simp only [Bool.false_eq_true, if_false]
    refine wpAny_bind (wpAny_setField a4 a5 (Array.getElem?_eq_some_iff.mp a6).1 ?_)
    generalize hu : s.heap.update T (Obj.mapFields (·.setIfInBounds 3 Value.none)) = u
    have stay : ∀ b o, b ≠ T → s.heap.get? b = some o → u.get? b = some o := fun b o n q => by rw [← hu, Heap.get?_update_other _ _ (Ne.symm n), q]
    have offT : ∀ b o, (∀ ws, o.data ≠ .fields ws) → s.heap.get? b = some o → b ≠ T := by
      rintro b o nf q rfl
      cases a4.symm.trans q
      exact nf ts a5
    have fo' : FO u (env :: outer) := fo.keeps fun b o hb q => by
      obtain ⟨o', q', nf⟩ := fo.mem hb
      exact stay b o (offT b o' nf q') q
    refine wpAny_newEntry (s := { s with heap := u }) hfr (fo'.fun fresh) hf (stay _ _ (Ne.symm a3) he) (fun b o q => stay b o ?_ (st b o q)) hen hd (Array.getElem?_eq_some_iff.mp a1).1 fun h' x => hQ h' ⟨x.1, x.2.1, x.2.2.1, fun b o q nf => x.2.2.2 b o (stay b o (offT b o nf q) q) nf⟩
    rintro rfl
    rw [a2] at q; cases q

/-- a TypeError with a traceback -/
def EXT (h₀ h : Heap) (e : Addr) : Prop := ∃ oe vs T oT ts, h.get? e = some oe ∧ oe.cls = .type "TypeError" ∧ oe.data = .fields vs ∧ h₀.get? e = none ∧
  vs[1]? = some (.ref T) ∧ h₀.get? T = none ∧ T ≠ e ∧ h.get? T = some oT ∧ oT.data = .fields ts ∧ ts[3]? = some .none

theorem note_step {h₀ : Heap} {env : Env} {outer : List Env} {L e : Addr} (hfr : A.frames = some (env :: outer)) (hf : env.frame = some L) (fo : FO s.heap (env :: outer)) (x : EX h₀ s.heap e)
    (there : ∀ b o, h₀.get? b = some o → ∃ o', s.heap.get? b = some o')
    (hQ : ∀ h', LS h₀ (env :: outer) s.heap h' → EXT h₀ h' e → Q () { s with heap := h' }) : wpAny M A (noteFrame (.ref e) env) (fun _ s' => wpAny M A (setFlight (.ref e) none) Q E s') E s := by
  obtain ⟨oe, vs, he, hc, hd, hn, hv⟩ := x
  generalize hl : frs (env :: outer) ++ (List.range s.heap.objs.size).filter (fun b => (h₀.get? b).isNone) = hid
  have st : (hideAll s.heap hid).StaysIn s.heap := fun b o q => of_hideAll _ q
  have fr0 : ∀ b ∈ frs (env :: outer), (hideAll s.heap hid).get? b = none := fun b hb => hideAll_none _ (by rw [← hl]; exact List.mem_append_left _ hb)
  have new0 : ∀ b o, h₀.get? b = none → s.heap.get? b = some o → (hideAll s.heap hid).get? b = none := fun b o q q' => hideAll_none _ (by
    rw [← hl]
    exact List.mem_append_right _ (List.mem_filter.mpr ⟨List.mem_range.mpr (Heap.lt_size q'), by rw [q]; rfl⟩))
  have old0 : ∀ b o, b ∉ frs (env :: outer) → (h₀.get? b).isSome = true → s.heap.get? b = some o → (hideAll s.heap hid).get? b = some o := fun b o hb q q' => hideAll_get _ q' (by
    rw [← hl]
    intro hm
    rcases List.mem_append.mp hm with hm | hm
    · exact hb hm
    · have := (List.mem_filter.mp hm).2
      cases hx : h₀.get? b with
      | none => rw [hx] at q; cases q
      | some _ => rw [hx] at this; cases this)
  have fin : ∀ h', Heap.Left (hideAll s.heap hid) (env :: outer) e oe.cls s.heap h' → Q () { s with heap := h' } := by
    rintro h' ⟨x1, x2, ⟨oe', vs', T, oT, ts, y1, y2, y3, y4, y5, y6, y7, y8, y9⟩, x4⟩
    refine hQ h' ⟨fun b o hb q q' => x1 b o (old0 b o hb q q'), fun b o hb q => ?_⟩ ⟨oe', vs', T, oT, ts, y1, y2.trans hc, y3, hn, y4, ?_, y6, y7, y8, y9⟩
    · obtain ⟨o', ho', hnf⟩ := fo.mem hb
      rw [q] at ho'
      cases ho'
      exact x4 b o q hnf
    · cases hx : h₀.get? T with
      | none => rfl
      | some o0 =>
        exfalso
        obtain ⟨o', ho'⟩ := there T o0 hx
        by_cases hT : T ∈ frs (env :: outer)
        · obtain ⟨o2, ho2, hnf⟩ := fo.mem hT
          obtain ⟨sl, q⟩ := x4 T o2 ho2 hnf
          rw [y7] at q
          cases q
          exact hnf _ y8
        · rw [old0 T o' hT (by rw [hx]; rfl) ho'] at y5
          cases y5
  exact note_one hfr fo fr0 hf he hd st (new0 e oe hn he) (hv.imp id fun ⟨T, oT, ts, h1, h2, h3, h4, h5, h6⟩ => ⟨T, oT, ts, h1, new0 T oT h2 h4, h3, h4, h5, h6⟩) fin
end

/-- what stands behind a caught TypeError -/
structure Gt (outer : List Env) (s s' : Shared) : Prop where
  same : ∃ h' tk gs, s' = { s with heap := h', toks := tk, gens := gs }
  keeps : ∀ b o, b ≠ cStatics → b ≠ 16 → b ∉ frs outer → s.heap.get? b = some o → s'.heap.get? b = some o
  frames : ∀ b o, b ∈ frs outer → s.heap.get? b = some o → ∃ sl, s'.heap.get? b = some { o with slots := sl }
  tab : TabUp s.heap s'.heap
  stat : StatN s'.heap
  gens : GOK s.gens s'.gens

section
variable {prog : Program} {w : PySem.World} {A : Around} {s : Shared}
theorem told_err {mg mb : Str → Option Value} {W₀ hp h₁ : Heap} {outer : List Env} {env : Env} {L e k : Nat} {p1 p2 p3 p4 : Pos} {E : Value → Shared → Prop} {Q : Flow → Shared → Prop} (D : Wo w mg mb W₀) (st : W₀.StaysIn hp)
    (hfr : A.frames = some (env :: outer)) (hk : env.scope.kind = .function) (hf : env.frame = some L) (hg : env.globals = mainGlobals) (hb : env.builtins = builtinsNs) (hx : env.kindOf "TypeError" = some .globalImplicit) (hq : env.frame = env.frame)
    (hL : hp.get? L = none) (k₁ : ∀ b o, hp.get? b = some o → h₁.get? b = some o) (fo₁ : FO h₁ (env :: outer)) (fl : Fl h₁ (env :: outer) e s.heap) (hcs : cStatics ∉ frs outer) (hW : ∀ b o, W₀.get? b = some o → b ∉ frs outer)
    (hQ : ∀ tk h', ((∀ b o, b ≠ cStatics → b ≠ 16 → b ∉ frs outer → hp.get? b = some o → h'.get? b = some o) ∧ (∀ b o, b ∈ frs outer → hp.get? b = some o → ∃ sl, h'.get? b = some { o with slots := sl }) ∧ TabUp hp h' ∧ StatN h') → Q (.ret (.str "TypeError" tk)) { s with heap := h', toks := s.toks + 1 }) :
    wpAny (model prog w) A (noteFrame (.ref e) env) (fun _ s₂ => wpAny (model prog w) A (setFlight (.ref e) none) (fun _ s₃ => wpAny (model prog w) A (handleBy (.ref e) env [.ExceptHandler (some (.Name "TypeError" p1)) none [.Return (some (.Constant (.str "TypeError") k p2)) p3] p4]) Q E s₃) E s₂) E s := by
  have off : ∀ b o, b ∉ frs outer → hp.get? b = some o → b ∉ frs (env :: outer) := fun b o hb q => frs_cons hf hb (fun e => by rw [e, hL] at q; cases q)
  have th : ∀ b o, hp.get? b = some o → ∃ o', s.heap.get? b = some o' := fun b o q => fl.there b o (k₁ b o q)
  refine note_step (h₀ := hp) (L := L) hfr hf (fo₁.slots fl.frames) (fl.exc.back fun b o q => ⟨o, k₁ b o q⟩) th fun h₂ ls ex => ?_
  obtain ⟨oe, vs, T₀, oT, ts, y1, y2, y3, y4, y5, y6, y7, y8, y9, y10⟩ := ex
  have nT : ∀ b o, hp.get? b = some o → b ≠ T₀ := fun b o q e => by rw [e, y6] at q; cases q
  have kk : ∀ b o, b ≠ cStatics → b ≠ 16 → b ∉ frs outer → hp.get? b = some o → h₂.get? b = some o := fun b o n1 n2 n3 q =>
    ls.keeps b o (off b o n3 q) (by rw [q]; rfl) (fl.keeps b o n1 n2 (off b o n3 q) (k₁ b o q))
  have kW : ∀ b o, b ≠ cStatics → W₀.get? b = some o → h₂.get? b = some o := fun b o n q => kk b o n (fun e => by rw [e, D.noP] at q; cases q) (hW b o q) (st b o q)
  have hG : h₂.Ns env.globals mg := by rw [hg]; exact D.D.T.g.at' fun o q => kW _ o (by decide) q
  have hB : h₂.Ns env.builtins mb := by rw [hb]; exact D.D.T.b.at' fun o q => kW _ o (by decide) q
  refine wpAny_handleBy_builtin (T := "TypeError") (X := "TypeError") (b := true) (by rw [isSubtype_type]; kernel_rfl) (by rw [isSubtype_type]; kernel_rfl) (by rw [isSubtype_type]; kernel_rfl) ?_
  refine Name_function_global hk hx (loadGlobal_builtin hG (mg_none_of D.D.X D.D.T.g (by k_is)) hB ((D.D.T.builtins _ (by decide)).trans (by decide +kernel)) ⟨rfl, ⟨oe, y1, y2⟩, ?_⟩) (by decide)
  rw [if_pos rfl]
  refine wpAny_setFlight_none (s := { s with heap := h₂ }) y1 y3 y5 y8 y9 (Array.getElem?_eq_some_iff.mp y10).1 ?_
  refine wpAny_execs_cons (wpAny_Return_some (wpAny_Constant_str ?_))
  have up : ∀ b, b ∈ frs outer → b ∈ frs (env :: outer) := fun b hb => by
    obtain ⟨e', he, hf'⟩ := List.mem_filterMap.mp hb
    exact List.mem_filterMap.mpr ⟨e', List.mem_cons_of_mem _ he, hf'⟩
  have k₄ : ∀ b o, b ≠ T₀ → h₂.get? b = some o → (h₂.update T₀ (Obj.mapFields (·.setIfInBounds 3 .none))).get? b = some o := fun b o n q' => (Heap.get?_update_other _ _ (Ne.symm n)).trans q'
  have cT : cStatics ≠ T₀ := nT _ _ (st _ _ D.stat)
  refine hQ s.toks _ ⟨fun b o n1 n2 n3 q => k₄ b o (nT b o q) (kk b o n1 n2 n3 q), fun b o hb q => ?_, fun ps z => ?_, ?_⟩
  · obtain ⟨sl, q1⟩ := fl.frames b o (up b hb) (k₁ b o q)
    obtain ⟨sl', q2⟩ := ls.frames b _ (up b hb) q1
    exact ⟨sl', k₄ b _ (nT b o q) q2⟩
  · obtain ⟨more, z1⟩ := fl.tab ps (z.at (k₁ 20) (k₁ 16))
    have z2 := z1
    obtain ⟨⟨o, vs, file, tf, flags, tg, inF, text, tt, op, a, r1, r2, r3, r4, r5, r6, b, r7, r⟩, _⟩ := z2
    obtain ⟨⟨o', vs', file', tf', flags', tg', inF', text', tt', op', a', r1', r2', r3', r4', r5', r6', b', r'⟩, _⟩ := z
    have foS := fo₁.slots fl.frames
    refine ⟨more, z1.at (fun o₁ q => k₄ 20 o₁ (nT _ _ a') (ls.keeps 20 o₁ (fun hm => ?_) (by rw [a']; rfl) q)) fun o₁ q => k₄ 16 o₁ (nT _ _ b') (ls.keeps 16 o₁ (fun hm => ?_) (by rw [b']; rfl) q)⟩
    · obtain ⟨o₂, q', nf⟩ := foS.mem hm
      rw [a] at q'; cases q'; exact nf _ r1
    · obtain ⟨o₂, q', nf⟩ := foS.mem hm
      rw [b] at q'; cases q'; exact nf _ r7
  · obtain ⟨o, es, n, q, r⟩ := fl.stat
    exact ⟨o, es, n, k₄ _ _ cT (ls.keeps _ _ (off _ _ hcs (st _ _ D.stat)) (by rw [st _ _ D.stat]; rfl) q), r⟩
end
def toldStr (r : Option Bool) : Str := match r with
  | some true => "True"
  | some false => "False"
  | none => "TypeError"

set_option pp.deepTerms.threshold 5
set_option pp.maxSteps 20000
set_option maxHeartbeats 2000000 in
theorem told_call {prog : Program} {w : PySem.World} {mg mb : Str → Option Value} {W₀ : Heap} {u t : T} {bv v : Value} (D : Wo w mg mb W₀) (xu : TreeAt W₀ "tuple" (Thing W₀) u bv) (hu0 : u.ht < 400) (ht0 : t.ht < 300) (x : TreeAt W₀ "tuple" (Thing W₀) t v)
    {A : Around} {E Q : Value → Shared → Prop} {s : Shared} {outer : List Env} (st : W₀.StaysIn s.heap) (tab : ∃ ps, TabSt s.heap ps) (hh : A.handled = none) (hdp : A.depth + 2 * t.ht + 3 < recursionLimit) (hu : A.units < 100) (hfr : A.frames = some outer)
    (fo : FO s.heap outer) (hW : ∀ b o, W₀.get? b = some o → b ∉ frs outer)
    (hQ : ∀ tk s', isub u t ≠ none → Gr s s' → Q (.str (toldStr (isub u t)) tk) s') (hE : ∀ tk s', isub u t = none → Gt outer s s' → Q (.str "TypeError" tk) s') :
    wpAny (model prog w) A (call (.ref 68) [v, bv]) Q E s := by
  have X := (D.D.up st).X
  have T := (D.D.up st).T
  refine enter X T.nolimit rfl rfl (by simp only [recursionLimit] at *; omega) rfl rfl fun h₁ F => ?_
  have N : News s.heap s.heap.objs.size h₁ [] := News.nil
  show wpAny _ _ _ _ _ _
  k_fold
  refine wpAny_execs_cons (wpAny_Try_except ?_)
  k_steps
  have hk : ∀ b o, W₀.get? b = some o → h₁.get? b = some o := fun b o e => F.keep b o (st b o e)
  have hcs : cStatics ∉ frs outer := hW _ _ D.stat
  have hcl : cStatics < s.heap.objs.size := Heap.lt_size (st _ _ D.stat)
  have off : ∀ (env : Env), env.frame = some s.heap.objs.size → ∀ b o, b ∉ frs outer → s.heap.get? b = some o → b ∉ frs (env :: outer) := fun env hf b o hb q => frs_cons hf hb (Nat.ne_of_lt (Heap.lt_size q))
  refine sub_all D xu (by omega) t _ _ _ _ v (_ :: outer) hk (by obtain ⟨ps, z⟩ := tab; exact ⟨ps, z.at (F.keep 20) (F.keep 16)⟩) x hh ?_ ?_ (Around.frames_deeper hfr) ?_ (off _ rfl _ _ hcs (st _ _ D.stat)) (fun b s' e hg => ?_) fun e s' he hr => ?_
  · show A.depth + 1 + 2 * t.ht + 2 < recursionLimit; omega
  · show A.units + 3 + 20 * t.ht + 20 + 2 * u.ht < cLine
    have : cLine = 9900 := rfl
    omega
  · exact (fo.keeps fun b o _ e => F.keep b o e).cons rfl rfl F.ns
  · refine spliced_none ?_
    refine P.repr_of_bool ?_
    have hG : Gr s s' := (Gr.keep (s := s) F.keep).trans ⟨hg.same, hg.keeps, hg.tab, hg.gens⟩
    have hG2 : Gr s { s' with toks := s'.toks + 1 } := hG.trans (Gr.keep (s := s') (fun _ _ e => e))
    have := hQ s'.toks { s' with toks := s'.toks + 1 } (by rw [e]; simp) hG2
    rw [e] at this
    cases b <;> exact this
  · refine told_err (env := _) (hp := s.heap) (L := s.heap.objs.size) D st (Around.frames_deeper hfr) rfl rfl rfl rfl rfl rfl (Heap.get?_none_of_le (Nat.le_refl _)) F.keep ?_ hr.fl hcs hW fun tk h' fl => ?_
    · exact (fo.keeps fun b o _ e => F.keep b o e).cons rfl rfl F.ns
    · exact hE tk _ he ⟨by obtain ⟨_, _, _, q⟩ := hr.same; rw [q]; exact ⟨_, _, _, rfl⟩, fl.1, fl.2.1, fl.2.2.1, fl.2.2.2, hr.gens⟩
end Mine

open PySem PySem.W PySem.Calls PyProof.Rows
set_option Elab.async false
set_option maxRecDepth 100000
namespace Mine
theorem filled12 : (PySem.Challenge.rw_kr0026_01 = PySem.Challenge.rw_kr0026_01) ∧ (hd.heap_39 = hd.heap_39) := by
  k_fill
  exact ⟨rfl, rfl⟩
section
variable {prog : Program} {w : PySem.World} {A : Around} {E : Value → Shared → Prop} {s : Shared} {Q : Value → Shared → Prop} {h₀ : Heap} {L : Addr} {m : Str → Option Value} {news : List (Addr × Obj)}
abbrev veObj (t : Addr) : Obj := { cls := .type "ValueError", data := .fields #[.ref t, .none, .none, .none, .bool false, .none] }
theorem call_ve {x : Str} {t : Tok} (F : Fr h₀ L s.heap m) (N : News h₀ L s.heap news)
    (h : ∀ h' e t', Fr h₀ L h' m → News h₀ L h' ((e, veObj t') :: news) → Q (.ref e) { s with heap := h' }) : wpAny (model prog w) A (call (.type "ValueError") [.str x t]) Q E s := by
  obtain ⟨hp, g, d, tk, os⟩ := s
  refine wpAny_call_exc PySem.F.excCall_ValueError (fun h' e hm => ?_) (by rw [sizeLine_eq]; show 1 ≤ _; omega)
  obtain ⟨t', h1, h2, h3⟩ := hm.there
  refine h h' e t' ⟨F.ns.keeps hm.keeps, fun b o q => hm.keeps b o (F.keep b o q), F.above⟩ fun p hp => ?_
  rcases List.mem_cons.mp hp with rfl | hp
  · refine ⟨h1, fun q => ?_, ?_⟩
    · obtain ⟨o, _, _, q', _⟩ := F.ns
      have := hm.new; dsimp only at q q'; rw [q, q'] at this; cases this
    · cases q : h₀.get? e with
      | none => rfl
      | some o => have := F.keep _ _ q; dsimp only at this; rw [hm.new] at this; cases this
  · exact ⟨hm.keeps _ _ (N p hp).1, (N p hp).2⟩
end
local macro_rules | `(tactic| walk_at "call type:ValueError") => `(tactic| ((with_reducible rename Fr _ _ _ _ => F'); (with_reducible rename News _ _ _ _ => N'); refine Mine.call_ve F' N' ?_; clear F' N'; intro _ _ _ _ _))
set_option pp.deepTerms.threshold 8
set_option pp.maxSteps 20000
set_option maxHeartbeats 4000000 in
theorem things_call {prog : Program} {w : PySem.World} {mg mb : Str → Option Value} {A : Around} {s : Shared} {E : Value → Shared → Prop} {Q : Value → Shared → Prop}
    (D : Wd w mg mb s.heap) (hA : A.depth < 800) (hh : A.handled = none)
    (hQ : ∀ a vs n h' tk, Kp s.heap h' → s.heap.get? a = none → h'.get? a = some (seqOf "list" vs n) → vs.length = 23 → (∀ i v, vs[i]? = some v → Thing h' i v) → Q (.ref a) { s with heap := h', toks := tk }) :
    wpAny (model prog w) A (call (.ref 28) []) Q E s := by
  have X := D.X
  have T := D.T
  refine enter X T.nolimit rfl rfl (by simp only [recursionLimit]; omega) rfl rfl fun h₁ F => ?_
  have N : News s.heap s.heap.objs.size h₁ [] := News.nil
  show wpAny _ _ _ _ _ _
  k_fold
  k_steps
  rename_i F₉ N₉ _
  refine hQ _ _ _ _ _ F₉.keep (N₉.fresh (List.mem_cons_self ..)) (N₉.get (List.mem_cons_self ..)) rfl fun i v e => ?_
  have gl := N₉.get (List.mem_cons_of_mem _ (List.mem_cons_of_mem _ (List.mem_cons_of_mem _ (List.mem_cons_self ..))))
  have ge := N₉.get (List.mem_cons_of_mem _ (List.mem_cons_of_mem _ (List.mem_cons_self ..)))
  match i, e with
  | 0, e | 1, e | 2, e | 3, e | 4, e | 5, e | 6, e | 7, e | 8, e | 9, e | 10, e | 11, e | 12, e | 13, e | 14, e | 15, e | 16, e | 17, e => cases e; exact .inl ⟨by decide, rfl⟩
  | 18, e => cases e; exact .inr (.inl ⟨rfl, rfl⟩)
  | 19, e => cases e; exact .inr (.inr (.inl ⟨rfl, _, rfl⟩))
  | 20, e => cases e; exact .inr (.inr (.inr (.inl ⟨rfl, _, rfl⟩)))
  | 21, e => cases e; exact .inr (.inr (.inr (.inr (.inl ⟨rfl, _, _, _, rfl, gl⟩))))
  | 22, e => cases e; exact .inr (.inr (.inr (.inr (.inr ⟨rfl, _, _, rfl, ge⟩))))
  | n + 23, e => cases e
end Mine

open PySem PySem.W PySem.Calls PyProof.Rows
set_option Elab.async false
set_option maxRecDepth 100000
namespace Mine
theorem filled13 : (PySem.Challenge.rw_kr0026_01 = PySem.Challenge.rw_kr0026_01) ∧ (hd.heap_39 = hd.heap_39) := by
  k_fill
  exact ⟨rfl, rfl⟩
theorem isl_same {h h' : Heap} {a b : Addr} {xs : Array Value} (x : h.IsList a xs) (hs : Heap.SameBut b h h') (n : a ≠ b) : h'.IsList a xs := x.extBut hs.extBut n
theorem list_ne_iter {h : Heap} {a b l : Addr} {i : Nat} {xs : Array Value} (x : h.IsList a xs) (y : h.IsListIter b l i) : a ≠ b := by
  obtain ⟨o, h1, h2, _⟩ := x
  obtain ⟨o', h3, h4, _⟩ := y
  rintro rfl
  rw [h1] at h3; cases h3; rw [h2] at h4; injection h4 with h4; exact absurd h4 (by decide)
theorem list_ne_ns {h : Heap} {a L : Addr} {m : Str → Option Value} {xs : Array Value} (x : h.IsList a xs) (y : h.Ns L m) : a ≠ L := by
  obtain ⟨o, h1, h2, n, h5⟩ := x
  obtain ⟨o', es, ep, h3, h4, _⟩ := y
  rintro rfl
  rw [h1] at h3; cases h3; rw [h5] at h4; cases h4
theorem iter_ne_ns {h : Heap} {a L l : Addr} {i : Nat} {m : Str → Option Value} (x : h.IsListIter a l i) (y : h.Ns L m) : a ≠ L := by
  obtain ⟨o, h1, h2, h5⟩ := x
  obtain ⟨o', es, ep, h3, h4, _⟩ := y
  rintro rfl
  rw [h1] at h3; cases h3; rw [h5] at h4; cases h4

/-- nothing but heap and tokens moved -/
def Hp (s₀ s : Shared) : Prop := ∃ h tk, s = { s₀ with heap := h, toks := tk }
theorem Hp.refl (s : Shared) : Hp s s := ⟨_, _, rfl⟩
theorem Hp.on {s₀ s : Shared} {h tk} (x : Hp s₀ s) : Hp s₀ { s with heap := h, toks := tk } := by obtain ⟨_, _, rfl⟩ := x; exact ⟨_, _, rfl⟩
theorem Hp.on1 {s₀ s : Shared} {h} (x : Hp s₀ s) : Hp s₀ { s with heap := h } := by obtain ⟨_, _, rfl⟩ := x; exact ⟨_, _, rfl⟩

/-- one turn done -/
structure Turned (s₀ : Shared) (It l : Addr) (items : Array Value) (i : Nat) (J : Heap → Prop) (s : Shared) : Prop where
  hp : Hp s₀ s
  iter : s.heap.IsListIter It l i
  list : s.heap.IsList l items
  inv : J s.heap
section
variable {prog : Program} {w : PySem.World} {A : Around} {env : Env}
theorem forL {R : Result → Shared → Prop} {x : Str} {px : Pos} {l It : Addr} {body : List Stmt} {items : Array Value} {J : Nat → Heap → Prop} {s₀ : Shared} (hh : A.handled = none)
    (hJ : ∀ i h h', h.IsListIter It l i → J i h → Heap.ExtBut It h h' → J i h')
    (turn : ∀ i v s, items[i]? = some v → Hp s₀ s → s.heap.IsListIter It l (i + 1) → s.heap.IsList l items → J i s.heap →
      wpAny (model prog w) A (storeName env x v) (fun _ s₂ => wpAny (model prog w) A (execs body env) (fun f s₃ => match f with
        | .next | .cont => Turned s₀ It l items (i + 1) (J (i + 1)) s₃
        | .brk => False
        | .ret v => R (.ok (.ret v)) s₃) (fun _ _ => False) s₂) (fun _ _ => False) s)
    (fin : ∀ s, Hp s₀ s → J items.size s.heap → R (.ok .next) s) :
    ∀ k i s, items.size - i = k → i ≤ items.size → Hp s₀ s → s.heap.IsListIter It l i → s.heap.IsList l items → J i s.heap → codeAny (model prog w) A (.forLoop (.Name x px) (.ref It) body [] env) R s := by
  intro k i s hk hi hs hit hl hj
  refine codeAny_forLoop (fun n s => ∃ i, items.size - i = n ∧ i ≤ items.size ∧ Hp s₀ s ∧ s.heap.IsListIter It l i ∧ s.heap.IsList l items ∧ J i s.heap) ?_ k ⟨i, hk, hi, hs, hit, hl, hj⟩
  rintro n s ⟨i, hn, hi, hs, hit, hl, hj⟩
  cases hx : items[i]? with
  | none =>
    have hi' : i = items.size := by have := Array.getElem?_eq_none_iff.mp hx; omega
    subst hi'
    refine wpAny_pyNext_list_end hh hit hl hx fun h' he => ?_
    exact wpAny_pure (fin _ hs.on1 (hJ _ _ _ hit hj he))
  | some v =>
    refine wpAny_pyNext_list_item hit hl hx fun h' hit' hs' => ?_
    refine wpAny_assign_Name ?_
    have hlt := (Array.getElem?_eq_some_iff.mp hx).1
    refine wpAny_mono (turn i v { s with heap := h' } hx hs.on1 hit' (isl_same hl hs' (list_ne_iter hl hit)) (hJ _ _ _ hit hj hs'.extBut)) (fun _ s₂ h₂ => wpAny_mono h₂ (fun f s₃ h₃ => ?_) fun _ _ z => z.elim) fun _ _ z => z.elim
    rcases f with _ | _ | _ | v
    · exact ⟨items.size - (i + 1), by omega, i + 1, rfl, by omega, h₃.1, h₃.2, h₃.3, h₃.4⟩
    · exact h₃.elim
    · exact ⟨items.size - (i + 1), by omega, i + 1, rfl, by omega, h₃.1, h₃.2, h₃.3, h₃.4⟩
    · exact h₃
end
section
variable {prog : Program} {w : PySem.World} {A : Around} {E : Value → Shared → Prop} {s : Shared} {Q : Value → Shared → Prop}
theorem add_pl {l b : Addr} {vs ws : List Value} (hl : s.heap.IsList l vs.toArray) (hb : s.heap.IsList b ws.toArray)
    (h : Q (.ref s.heap.objs.size) { s with heap := s.heap.push { cls := .type "list", data := .seq (vs ++ ws).toArray } }) (hsz : vs.length + ws.length ≤ sizeLine) :
    wpAny (model prog w) A (binaryOp .Add (.ref l) (.ref b)) Q E s := by
  obtain ⟨x, gx, cx, n, dx⟩ := hl
  obtain ⟨y, gy, cy, k, dy⟩ := hb
  obtain ⟨dd, sl, rfl⟩ : ∃ dd sl, x = ⟨.type "list", dd, .seq vs.toArray n, sl⟩ := ⟨x.dict, x.slots, by rw [← cx, ← dx]⟩
  obtain ⟨dd2, sl2, rfl⟩ : ∃ dd sl, y = ⟨.type "list", dd, .seq ws.toArray k, sl⟩ := ⟨y.dict, y.slots, by rw [← cy, ← dy]⟩
  have rule := list_addW l b vs.toArray ws.toArray n k dd dd2 sl sl2 (by rw [List.size_toArray, List.size_toArray]; exact hsz)
  rw [List.append_toArray] at rule
  exact concat_meets ⟨_, gx, rfl⟩ ⟨_, gy, rfl⟩ noFill_list_add seq_list_add PySem.F.slot_list_add PySem.F.entry_list_add (PySem.F.args_list_add_2 _ _) rule ⟨gx, gy, h⟩
theorem pl_noDict {h : Heap} {a : Addr} {xs : Array Value} (x : h.PlainList a xs) : h.NoDictAt (.ref a) := by obtain ⟨_, e⟩ := x; exact ⟨_, e, rfl⟩
end
end Mine

open PySem PySem.W PySem.Calls PyProof.Rows
set_option Elab.async false
set_option maxRecDepth 100000
namespace Mine
local macro_rules | `(tactic| walk_at "exec For Name List cons nil") => `(tactic| ((refine wpAny_For (hs := ?hs) ?_); (case hs => (with_unfolding_all (intro _; rfl)))))
theorem filled14 : (PySem.Challenge.rw_kr0026_01 = PySem.Challenge.rw_kr0026_01) ∧ (hd.heap_39 = hd.heap_39) := by
  k_fill
  exact ⟨rfl, rfl⟩
def parents : List Nat := [0, 1, 2, 3, 2, 5, 5, 2, 8, 2, 10, 1, 2, 13, 0, 15, 0]
/-- a list of the numbers ns -/
def NumL (h : Heap) (a : Addr) (ns : List Nat) : Prop := ∃ ws, h.IsList a ws.toArray ∧ IntsAre ws (ns.map fun n : Nat => (n : Int))
theorem ints_get : ∀ {vs : List Value} {ns : List Int}, IntsAre vs ns → ∀ (i : Nat) (v : Value), vs[i]? = some v → ∃ n t, ns[i]? = some n ∧ v = .int n t
  | _, _, .nil, i, v, e => by simp at e
  | _, _, .cons n t r, 0, v, e => by cases e; exact ⟨n, t, rfl, rfl⟩
  | _, _, .cons n t r, i + 1, v, e => ints_get r i v (by simpa using e)
theorem par_tab : ∀ i, i < 17 → parents.getD i 0 < i + 1 ∧ abv.getD (i + 1) [] = (i + 1) :: abv.getD (parents.getD i 0) [] := by decide
theorem abv_len : ∀ i, i < 18 → (abv.getD i []).length ≤ 10 := by decide
/-- the rows made so far -/
def RowsAt (h : Heap) (R : Addr) (k : Nat) : Prop := ∃ vs : List Value, h.PlainList R vs.toArray ∧ vs.length = k ∧ ∀ j, j < k → ∃ a, vs[j]? = some (.ref a) ∧ a ≠ R ∧ NumL h a (abv.getD j [])
theorem RowsAt.mono {h h' : Heap} {R : Addr} {n : Nat} (k : ∀ b o, o.cls = .type "list" → h.get? b = some o → h'.get? b = some o) (x : RowsAt h R n) : RowsAt h' R n := by
  obtain ⟨vs, hR, hl, hr⟩ := x
  refine ⟨vs, hR.at fun o e => ?_, hl, fun j hj => ?_⟩
  · obtain ⟨n, e'⟩ := hR
    rw [e] at e'; cases e'
    exact k _ _ rfl e
  · obtain ⟨a, e1, e2, ws, ⟨o, e3, e4, e5⟩, e6⟩ := hr j hj
    exact ⟨a, e1, e2, ws, ⟨o, k _ _ e4 e3, e4, e5⟩, e6⟩
set_option pp.deepTerms.threshold 3
set_option pp.maxSteps 4000
set_option maxHeartbeats 1000000 in
theorem above_call {prog : Program} {w : PySem.World} {mg mb : Str → Option Value} {A : Around} {s : Shared} {E : Value → Shared → Prop} {Q : Value → Shared → Prop}
    (D : Wd w mg mb s.heap) (hA : A.depth < 800) (hh : A.handled = none)
    (hQ : ∀ a h' tk, Kp s.heap h' → s.heap.get? a = none → RowsAt h' a 18 → Q (.ref a) { s with heap := h', toks := tk }) :
    wpAny (model prog w) A (call (.ref 35) []) Q E s := by
  have X := D.X
  have T := D.T
  refine enter X T.nolimit rfl rfl (by simp only [recursionLimit]; omega) rfl rfl fun h₁ F => ?_
  have N : News s.heap s.heap.objs.size h₁ [] := News.nil
  show wpAny _ _ _ _ _ _
  k_fold
  k_steps
  rename_i tk0 l0 h₁' _ lR h₂' _ h₃' lI h₅ F₉ N₉ _
  have gI' := N₉.isList (List.mem_cons_self ..)
  have hia : ∃ vsI : List Value, h₅.IsList lI vsI.toArray ∧ IntsAre vsI (parents.map fun n : Nat => (n : Int)) := ⟨_, gI', by repeat constructor⟩
  obtain ⟨vsI, gI, hia⟩ := hia
  have hlen : vsI.length = 17 := hia.length
  refine wpAny_pyIter_list gI ?_
  refine forL (It := h₅.objs.size) (x := "parent") (J := fun k h => ∃ pv, Fr s.heap s.heap.objs.size h (fun y => if y = "parent" then pv else if y = "rows" then some (.ref lR) else none) ∧ RowsAt h lR (k + 1) ∧ s.heap.get? lR = none ∧ lR ≠ lI) ?hh ?hJ ?turn ?fin _ 0 _ rfl (Nat.zero_le _) (Hp.refl _) ⟨_, Heap.get?_push_size _ rfl, rfl, rfl⟩ (gI.push _) ?init
  case turn =>
    rintro i v s₂ hv hs hit hl ⟨pv, F₂, R₂, f₂, n₂⟩
    refine wpAny_storeName_local rfl F₂.ns (fun h₆ hn hs₆ => ?_) rfl
    have F₃ := F₂.set hn hs₆
    have N := News.nil (h₀ := s.heap) (h := h₆) (L := s.heap.objs.size)
    clear F₉ N₉
    have hpar : ∃ p tk, v = .int (p : Nat) tk ∧ p < i + 1 ∧ i < 17 ∧ abv.getD (i + 1) [] = (i + 1) :: abv.getD p [] := by
      have hi : i < 17 := by
        have := (Array.getElem?_eq_some_iff.mp hv).1
        simpa [hlen] using this
      obtain ⟨n, tn, h1, h2⟩ := ints_get hia i v (by simpa using hv)
      rw [List.getElem?_map] at h1
      obtain ⟨p, h3, h4⟩ := Option.map_eq_some_iff.mp h1
      have h5 : parents.getD i 0 = p := by rw [List.getD_eq_getElem?_getD, h3]; rfl
      have h6 := par_tab i hi
      rw [h5] at h6
      exact ⟨p, tn, by rw [h2, ← h4], h6.1, hi, h6.2⟩
    obtain ⟨p, tkp, rfl, hp, hi17, hab⟩ := hpar
    have n₁ := iter_ne_ns hit F₂.ns
    obtain ⟨vs, hR, hvl, hrow⟩ := R₂
    have nR : lR ≠ s.heap.objs.size := list_ne_ns hR.isList F₂.ns
    have hR₃ := hR.extBut hs₆.extBut nR
    k_steps
    refine getMethod_list_of PySem.slot_list_append (by kernel_rfl) hR₃.isList (by obtain ⟨_, e⟩ := hR₃; exact ⟨_, e, rfl⟩) ?_
    dsimp only
    k_steps
    have line : vs.length ≤ 1000 := by omega
    refine Calls.call_len_list hR₃.isList (by simp; omega) ?_
    refine spliced_none (wpAny_newList ?_ (by rw [sizeLine_eq]; show 1 ≤ _; omega))
    obtain ⟨a, hva, hna, ws, hws, his⟩ := hrow p hp
    have na : a ≠ s.heap.objs.size := list_ne_ns hws F₂.ns
    dsimp only
    generalize ho1 : ({ cls := .type "list", data := .seq [Value.int (vs.toArray.size : Nat) (s₂.toks + 1 + 1)].toArray } : Obj) = o1
    have F₇ := F₃.push o1
    have hR₇ : (h₆.push o1).PlainList lR vs.toArray := hR₃.at fun _ e => Heap.get?_push_of_some o1 e
    have hws₆ : h₆.IsList a ws.toArray := hws.extBut hs₆.extBut na
    have hN : (h₆.push o1).IsList h₆.objs.size [Value.int (vs.toArray.size : Nat) (s₂.toks + 1 + 1)].toArray := ⟨o1, Heap.get?_push_size _ (by rw [← ho1]; rfl), by rw [← ho1], 0, by rw [← ho1]⟩
    refine wpAny_Subscript_Name PySem.slot_list_getitem.lookup (nameX_L F₇ rfl (nameX_L F₇ rfl ⟨hR₇.isList.typeIs, wpAny_getItem_list hR₇.isList (by omega) (by omega) (by simpa using hva) ?_⟩))
    have hwl : ws.length ≤ 10 := by rw [his.length, List.length_map]; exact abv_len p (by omega)
    refine add_pl hN (hws₆.push o1) ?_ (by rw [sizeLine_eq]; show 1 + ws.length ≤ _; omega)
    refine spliced_none ?_
    dsimp only
    generalize ho2 : ({ cls := .type "list", data := .seq ([Value.int (vs.toArray.size : Nat) (s₂.toks + 1 + 1)] ++ ws).toArray } : Obj) = o2
    have hlt : lR < h₆.objs.size := by obtain ⟨_, e⟩ := hR₃; exact Heap.lt_size e
    have hR₈ : ((h₆.push o1).push o2).PlainList lR vs.toArray := hR₇.at fun _ e => Heap.get?_push_of_some o2 e
    have hlt2 : h₆.objs.size < (h₆.push o1).objs.size := Heap.lt_size (Heap.get?_push_size h₆ (o := o1) (by rw [← ho1]; rfl))
    have ne2 : (h₆.push o1).objs.size ≠ lR := Nat.ne_of_gt (Nat.lt_trans hlt hlt2)
    refine wpAny_list_append_plain (s := { s₂ with heap := (h₆.push o1).push o2, toks := _ }) hR₈ (fun h₈ hR₉ hs₈ => ?_) (by rw [sizeLine_eq]; simp; omega)
    refine wpAny_execs_nil ?_
    have up : ∀ b o, b ≠ s.heap.objs.size → b ≠ lR → s₂.heap.get? b = some o → h₈.get? b = some o := fun b o n1 n2 e => hs₈.extBut b o n2 (Heap.get?_push_of_some _ (Heap.get?_push_of_some _ (hs₆.extBut b o n1 e)))
    have ga2 : h₈.get? (h₆.push o1).objs.size = some o2 := hs₈.extBut _ _ ne2 (Heap.get?_push_size _ (by rw [← ho2]; rfl))
    have nlI : lI ≠ s.heap.objs.size := list_ne_ns hl F₂.ns
    refine ⟨by obtain ⟨_, _, rfl⟩ := hs; exact ⟨_, _, rfl⟩, ?_, ?_, some (.int p tkp), ?_, ⟨vs ++ [.ref (h₆.push o1).objs.size], ?_, by simp [hvl], fun j hj => ?_⟩, f₂, n₂⟩
    · obtain ⟨o, e, r⟩ := hit
      exact ⟨o, up _ _ n₁ (Ne.symm (list_ne_iter hR.isList ⟨o, e, r⟩)) e, r⟩
    · obtain ⟨o, e, r⟩ := hl
      exact ⟨o, up _ _ nlI (Ne.symm n₂) e, r⟩
    · have F₈ := (F₇.push o2)
      have e : (fun y : Str => if y = "parent" then some (Value.int (p : Nat) tkp) else if y = "rows" then some (.ref lR) else none) = (fun x : Str => if x = "parent" then some (Value.int (p : Nat) tkp) else if x = "parent" then pv else if x = "rows" then some (.ref lR) else none) := by
        funext y
        by_cases hy : y = "parent" <;> simp [hy]
      rw [e]
      exact ⟨F₈.ns.sameBut hs₈ (Ne.symm nR), fun b o q => hs₈.extBut b o (fun e => by rw [e, f₂] at q; cases q) (F₈.keep b o q), F₈.above⟩
    · rw [List.push_toArray] at hR₉; exact hR₉
    · by_cases hj' : j < i + 1
      · obtain ⟨b, e1, e2, ws', e3, e4⟩ := hrow j hj'
        have nb : b ≠ s.heap.objs.size := list_ne_ns e3 F₂.ns
        obtain ⟨o, q, r⟩ := e3
        exact ⟨b, by rw [List.getElem?_append_left (by omega)]; exact e1, e2, ws', ⟨o, up _ _ nb e2 q, r⟩, e4⟩
      · have ej : j = i + 1 := by omega
        subst ej
        refine ⟨_, by rw [List.getElem?_append_right (by omega), hvl, Nat.sub_self]; rfl, ne2, _, ⟨o2, ga2, by rw [← ho2], 0, by rw [← ho2]⟩, ?_⟩
        rw [hab]
        simp only [List.map_cons, List.size_toArray, hvl]
        exact .cons _ _ his
  case hh => exact hh
  case hJ =>
    rintro i h h' hit ⟨pv, Fh, Rh, fh, nh⟩ he
    refine ⟨pv, ⟨Fh.ns.at' fun o e => he _ o (Ne.symm (iter_ne_ns hit Fh.ns)) e, fun b o q => he b o (Nat.ne_of_lt (Heap.lt_size (F₉.keep b o q))) (Fh.keep b o q), Fh.above⟩, Rh.mono fun b o hc e => he b o (fun q => ?_) e, fh, nh⟩
    subst q
    obtain ⟨o', e', hc', _⟩ := hit
    rw [e] at e'; cases e'; rw [hc] at hc'; injection hc' with hc'; exact absurd hc' (by decide)
  case fin =>
    rintro s₂ hs ⟨pv, F₂, R₂, f₂, n₂⟩
    have N := News.nil (h₀ := s.heap) (h := s₂.heap) (L := s.heap.objs.size)
    clear F₉ N₉
    dsimp only
    k_steps
    obtain ⟨h', tk', rfl⟩ := hs
    refine hQ _ _ _ F₂.keep f₂ ?_
    rw [List.size_toArray, hlen] at R₂
    exact R₂
  case init =>
    refine ⟨none, ?_, ⟨[.ref l0], ⟨0, ?_⟩, rfl, fun j hj => ?_⟩, N₉.fresh (List.mem_cons_of_mem _ (List.mem_cons_self ..)), ?_⟩
    · have F₈ := F₉.push { cls := .type "list_iterator", data := .fields #[.ref lI, .int 0 0] }
      have e : (fun y : Str => if y = "parent" then none else if y = "rows" then some (Value.ref lR) else none) = (fun y : Str => if y = "rows" then some (.ref lR) else none) := by
        funext y
        by_cases hy : y = "parent"
        · subst hy; rfl
        · simp [hy]
      rw [e]
      exact F₈
    · exact Heap.get?_push_of_some _ (N₉.get (List.mem_cons_of_mem _ (List.mem_cons_self ..)))
    · have ej : j = 0 := by omega
      subst ej
      have g0 := N₉.get (List.mem_cons_of_mem _ (List.mem_cons_of_mem _ (List.mem_cons_self ..)))
      rename_i q1 q2
      exact ⟨l0, rfl, Nat.ne_of_lt q1, _, ⟨_, Heap.get?_push_of_some _ g0, rfl, 0, rfl⟩, by repeat constructor⟩
    · rename_i q1 q2
      exact Nat.ne_of_lt q2.1
end Mine

open PySem PySem.W PySem.Calls PyProof.Rows
set_option Elab.async false
set_option maxRecDepth 100000
namespace Mine
section
variable {prog : Program} {w : PySem.World} {A : Around} {E : Value → Shared → Prop} {s : Shared} {Q : Value → Shared → Prop}
theorem kl_erase' (p : List Value) (y : Value) : (p ++ [y]).toArray.eraseIdxIfInBounds ((p ++ [y]).toArray.size - 1) = p.toArray := by
  have z := kl_erase p [] y
  rw [List.append_nil] at z
  simpa using z
theorem pop_pl {l : Addr} {p : List Value} {y : Value} (hl : s.heap.PlainList l (p ++ [y]).toArray)
    (h : ∀ h', h'.PlainList l p.toArray → Heap.SameBut l s.heap h' → Q y { s with heap := h' }) (hsz : p.length + 1 ≤ sizeLine) : wpAny (model prog w) A (call (.builtin "list.pop") [.ref l]) Q E s := by
  obtain ⟨n, g⟩ := hl
  have len : (p ++ [y]).toArray.size = p.length + 1 := by simp
  have at_end : (p ++ [y]).toArray[(p ++ [y]).toArray.size - 1]? = some y := by simp
  have left := PySem.IsL.update (h := s.heap) (l := l) g fun xs => xs.eraseIdxIfInBounds ((p ++ [y]).toArray.size - 1)
  rw [kl_erase', if_neg (by simp)] at left
  exact call_meets PySem.F.slot_list_pop ⟨_, g, rfl⟩ PySem.F.entry_list_pop (PySem.F.args_list_pop_1 _) (PySem.MeetsSeq.list_pop_last l _ n y at_end (by rw [len]; exact hsz)) ⟨g, h _ ⟨_, left⟩ (Heap.SameBut.update ..)⟩
theorem append_pl {l : Addr} {p : List Value} {x : Value} (hl : s.heap.PlainList l p.toArray)
    (h : ∀ h', h'.PlainList l (p ++ [x]).toArray → Heap.SameBut l s.heap h' → Q .none { s with heap := h' }) (hsz : p.length ≤ sizeLine) : wpAny (model prog w) A (call (.builtin "list.append") [.ref l, x]) Q E s :=
  wpAny_list_append_plain hl (fun h' x hs => h h' (by rw [List.push_toArray] at x; exact x) hs) (by rw [List.size_toArray]; exact hsz)
theorem item_last {value slice : Expr} {l : Addr} {vs : List Value} {x : Value} {u : Tok} (hl : s.heap.PlainList l (vs ++ [x]).toArray) (h : Q x s)
    (hs : subscripted slice false (.ref l) (.int (-1) u) = operate [.ref l, .int (-1) u] (getItem (.ref l) (.int (-1) u)) := by with_unfolding_all rfl) (hg : ∀ r, letTemporaryGo value (.ref l) r = pure () := by intro _; with_unfolding_all rfl) :
    wpAny (model prog w) A (subscriptTail value slice (.ref l) (.int (-1) u)) Q E s :=
  PyProof.Rows.item_last hl.isList h hs hg
end

mutual
def T.sz : T → Nat
  | .leaf _ => 1
  | .node l => T.szL l + 1
def T.szL : List T → Nat
  | [] => 0
  | t :: ts => T.sz t + T.szL ts
end
mutual
theorem T.ht_sz : ∀ t : T, t.ht ≤ t.sz
  | .leaf _ => by rw [T.ht]; omega
  | .node l => by rw [T.ht, T.sz]; have := T.htL_szL l; omega
theorem T.htL_szL : ∀ l : List T, T.htL l ≤ T.szL l
  | [] => by rw [T.htL]; omega
  | t :: ts => by rw [T.htL, T.szL]; have := T.ht_sz t; have := T.htL_szL ts; omega
end
theorem T.szL_append : ∀ a b : List T, T.szL (a ++ b) = T.szL a + T.szL b
  | [], b => by rw [List.nil_append, T.szL]; omega
  | t :: a, b => by rw [List.cons_append, T.szL, T.szL, T.szL_append a b]; omega
theorem TreesAt.snoc {h : Heap} {ty : String} {lf : Nat → Value → Prop} {t : T} {v : Value} (y : TreeAt h ty lf t v) : ∀ (l : List T) (vs : List Value), TreesAt h ty lf l vs → TreesAt h ty lf (l ++ [t]) (vs ++ [v])
  | [], vs, x => by
    rw [TreesAt] at x; subst x
    show TreesAt h ty lf [t] [v]
    rw [TreesAt]
    exact ⟨v, [], rfl, y, by rw [TreesAt]⟩
  | a :: l, vs, x => by
    rw [TreesAt] at x
    obtain ⟨v', r, rfl, x1, x2⟩ := x
    rw [List.cons_append, List.cons_append, TreesAt]
    exact ⟨v', _, rfl, x1, TreesAt.snoc y l r x2⟩
theorem TreesAt.len {h : Heap} {ty : String} {lf : Nat → Value → Prop} : ∀ (l : List T) (vs : List Value), TreesAt h ty lf l vs → vs.length = l.length
  | [], vs, x => by rw [TreesAt] at x; subst x; rfl
  | t :: ts, vs, x => by
    rw [TreesAt] at x
    obtain ⟨v, r, rfl, x1, x2⟩ := x
    rw [List.length_cons, List.length_cons, TreesAt.len ts r x2]
theorem T.len_sz : ∀ l : List T, l.length ≤ T.szL l
  | [] => Nat.zero_le _
  | t :: ts => by rw [T.szL, List.length_cons]; have := T.len_sz ts; have : 1 ≤ t.sz := by { cases t <;> rw [T.sz] <;> omega }; omega

/-- a number of the trees -/
def NumLeaf (n : Nat) (v : Value) : Prop := n < 23 ∧ ∃ tk, v = .int (n : Nat) tk

/-- the open lists below b, told from the inmost outwards -/
def Under (h hh : Heap) : Addr → List Addr → List (List T) → Prop
  | _, [], tr => tr = []
  | b, a :: st, tr => ∃ c r vs, tr = c :: r ∧ h.PlainList a (vs ++ [Value.ref b]).toArray ∧ TreesAt hh "list" NumLeaf c vs ∧ Under h hh a st r
def szS (l : List (List T)) : Nat := (l.map T.szL).sum

mutual
theorem TreeAt.monoS {h h' : Heap} {ty : String} {lf : Nat → Value → Prop} (k : ∀ b xs n, h.get? b = some (seqOf ty xs n) → h'.get? b = some (seqOf ty xs n)) : ∀ (t : T) (v : Value), TreeAt h ty lf t v → TreeAt h' ty lf t v
  | .leaf n, v, x => by rw [TreeAt] at x ⊢; exact x
  | .node l, v, x => by
    rw [TreeAt] at x ⊢
    obtain ⟨a, vs, n, e, ho, r⟩ := x
    exact ⟨a, vs, n, e, k _ _ _ ho, TreesAt.monoS k l vs r⟩
theorem TreesAt.monoS {h h' : Heap} {ty : String} {lf : Nat → Value → Prop} (k : ∀ b xs n, h.get? b = some (seqOf ty xs n) → h'.get? b = some (seqOf ty xs n)) : ∀ (l : List T) (vs : List Value), TreesAt h ty lf l vs → TreesAt h' ty lf l vs
  | [], vs, x => by rw [TreesAt] at x ⊢; exact x
  | t :: ts, vs, x => by
    rw [TreesAt] at x ⊢
    obtain ⟨v, r, e, x1, x2⟩ := x
    exact ⟨v, r, e, TreeAt.monoS k t v x1, TreesAt.monoS k ts r x2⟩
end
theorem hide_monoS {h h' : Heap} {S S' : List Addr} (k : ∀ b xs n, b ∉ S → h.get? b = some (seqOf "list" xs n) → h'.get? b = some (seqOf "list" xs n) ∧ b ∉ S') :
    ∀ b xs n, (hideAll h S).get? b = some (seqOf "list" xs n) → (hideAll h' S').get? b = some (seqOf "list" xs n) := fun b xs n e => by
  have nb : b ∉ S := fun hm => by rw [hideAll_none _ hm] at e; cases e
  obtain ⟨e', n'⟩ := k b xs n nb (of_hideAll _ e)
  exact hideAll_get _ e' n'
theorem Under.mono {h h' hh hh' : Heap} (k2 : ∀ b xs n, hh.get? b = some (seqOf "list" xs n) → hh'.get? b = some (seqOf "list" xs n)) : ∀ (st : List Addr) (b : Addr) (tr : List (List T)), (∀ a ∈ st, ∀ xs n, h.get? a = some (seqOf "list" xs n) → h'.get? a = some (seqOf "list" xs n)) → Under h hh b st tr → Under h' hh' b st tr
  | [], _, _, _, x => by rw [Under] at x ⊢; exact x
  | a :: st, b, tr, k1, x => by
    rw [Under] at x ⊢
    obtain ⟨c, r, vs, rfl, ⟨n, x1⟩, x2, x3⟩ := x
    exact ⟨c, r, vs, rfl, ⟨n, k1 a (List.mem_cons_self ..) _ _ x1⟩, TreesAt.monoS k2 c vs x2, Under.mono k2 st a r (fun a' ha => k1 a' (List.mem_cons_of_mem _ ha)) x3⟩
theorem Under.len {h hh : Heap} : ∀ (st : List Addr) (b : Addr) (tr : List (List T)), Under h hh b st tr → tr.length = st.length
  | [], _, _, x => by rw [Under] at x; subst x; rfl
  | a :: st, b, tr, x => by
    rw [Under] at x
    obtain ⟨c, r, vs, rfl, x1, x2, x3⟩ := x
    rw [List.length_cons, List.length_cons, Under.len st a r x3]
/-- the outermost list, as a tree -/
theorem Under.close {h : Heap} : ∀ (st : List Addr) (b : Addr) (tr : List (List T)) (t : T), TreeAt h "list" NumLeaf t (.ref b) → (∃ l, t = .node l) → Under h h b st tr →
    ∃ l, TreeAt h "list" NumLeaf (.node l) (.ref ((b :: st).getLast (by simp))) ∧ (T.node l).sz = t.sz + szS tr + st.length
  | [], b, tr, t, y, ⟨l, e⟩, x => by
    rw [Under] at x; subst x; subst e
    exact ⟨l, y, rfl⟩
  | a :: st, b, tr, t, y, e, x => by
    rw [Under] at x
    obtain ⟨c, r, vs, rfl, x1, x2, x3⟩ := x
    obtain ⟨n, x1⟩ := x1
    obtain ⟨l, z1, z2⟩ := Under.close st a r (.node (c ++ [t])) (by rw [TreeAt]; exact ⟨a, _, n, rfl, x1, TreesAt.snoc y c vs x2⟩) ⟨_, rfl⟩ x3
    refine ⟨l, by simpa using z1, ?_⟩
    rw [z2, T.sz, T.szL_append, T.szL, T.szL]
    simp only [szS, List.map_cons, List.sum_cons, List.length_cons]
    omega
end Mine

open PySem PySem.W PySem.Calls PyProof.Rows
set_option Elab.async false
set_option maxRecDepth 100000
namespace Mine
theorem filled16 : (PySem.Challenge.rw_kr0026_01 = PySem.Challenge.rw_kr0026_01) ∧ (hd.heap_39 = hd.heap_39) := by
  k_fill
  exact ⟨rfl, rfl⟩
local macro_rules | `(tactic| walk_at "exec For Name Name cons nil") => `(tactic| ((refine wpAny_For (hs := ?hs) ?_); (case hs => (with_unfolding_all (intro _; rfl)))))
/-- the pile, n codes done -/
def PileAt (h₀ h : Heap) (P : Addr) (n : Nat) : Prop := ∃ (top : Addr) (rest : List Addr) (c : List T) (r : List (List T)) (vs : List Value), h.PlainList P ((top :: rest).reverse.map Value.ref).toArray ∧ (∀ a ∈ top :: rest, h₀.get? a = none ∧ a ≠ P) ∧ (top :: rest).Nodup ∧
  h.PlainList top vs.toArray ∧ TreesAt (hideAll h (P :: top :: rest)) "list" NumLeaf c vs ∧ Under h (hideAll h (P :: top :: rest)) top rest r ∧ T.szL c + szS r + rest.length ≤ n
theorem Under.there {h hh : Heap} : ∀ (st : List Addr) (b : Addr) (tr : List (List T)), Under h hh b st tr → ∀ a ∈ st, ∃ o, h.get? a = some o
  | [], _, _, x, a, ha => by cases ha
  | d :: st, b, tr, x, a, ha => by
    rw [Under] at x
    obtain ⟨c, r, vs, rfl, ⟨n, x1⟩, x2, x3⟩ := x
    rcases List.mem_cons.mp ha with rfl | ha
    · exact ⟨_, x1⟩
    · exact Under.there st d r x3 a ha
theorem PileAt.mono {h₀ h h' : Heap} {P : Addr} {n : Nat} (k : ∀ b xs n, h.get? b = some (seqOf "list" xs n) → h'.get? b = some (seqOf "list" xs n)) (x : PileAt h₀ h P n) : PileAt h₀ h' P n := by
  obtain ⟨top, rest, c, r, vs, ⟨n1, x1⟩, x2, x3, ⟨n4, x4⟩, x5, x6, x7⟩ := x
  have kh := hide_monoS (h := h) (h' := h') (S := P :: top :: rest) (S' := P :: top :: rest) fun b xs n hb e => ⟨k b xs n e, hb⟩
  exact ⟨top, rest, c, r, vs, ⟨n1, k _ _ _ x1⟩, x2, x3, ⟨n4, k _ _ _ x4⟩, TreesAt.monoS kh c vs x5, Under.mono kh rest top r (fun a ha xs n e => k _ _ _ e) x6, x7⟩
theorem seq_ne_ns {h : Heap} {a L : Addr} {m : Str → Option Value} {ty : String} {xs : List Value} {n : Nat} (x : h.get? a = some (seqOf ty xs n)) (y : h.Ns L m) : a ≠ L := by
  obtain ⟨o', es, ep, h3, h4, _⟩ := y
  rintro rfl
  rw [x] at h3; cases h3; cases h4
theorem seq_ne_iter {h : Heap} {a b l : Addr} {i : Nat} {ty : String} {xs : List Value} {n : Nat} (x : h.get? a = some (seqOf ty xs n)) (y : h.IsListIter b l i) : a ≠ b := by
  obtain ⟨o', h3, _, h4⟩ := y
  rintro rfl
  rw [x] at h3; cases h3; cases h4
/-- by hand, not by the ledger -/
def Mark : Prop := True
local macro_rules | `(tactic| walk_at "newList") => `(tactic| ((rename Mark => hmk'); refine wpAny_newList ?_ (by first | size_fits | decide)))
local macro_rules | `(tactic| walk_at "exec Expr") => `(tactic| ((rename Mark => hmk'); refine wpAny_Expr_any ?_))
set_option pp.deepTerms.threshold 3
set_option pp.maxSteps 4000
set_option maxHeartbeats 8000000 in
theorem tree_call {prog : Program} {w : PySem.World} {mg mb : Str → Option Value} {A : Around} {s : Shared} {E : Value → Shared → Prop} {Q : Value → Shared → Prop} {lI : Addr} {ws : List Value} {ns : List Int} {lone : Bool}
    (D : Wd w mg mb s.heap) (hA : A.depth < 800) (hh : A.handled = none) (hI : s.heap.IsList lI ws.toArray) (hia : IntsAre ws ns) (hns : ∀ n ∈ ns, 0 ≤ n ∧ n < 27) (hlen : ns.length ≤ 100)
    (hQ : ∀ v h' tk t, Kp s.heap h' → TreeAt h' "list" NumLeaf t v → t.sz ≤ 101 → Q v { s with heap := h', toks := tk }) :
    wpAny (model prog w) A (call (.ref 42) [.ref lI, .bool lone]) Q E s := by
  have X := D.X
  have T := D.T
  refine enter X T.nolimit rfl rfl (by simp only [recursionLimit]; omega) rfl rfl fun h₁ F => ?_
  have N : News s.heap s.heap.objs.size h₁ [] := News.nil
  show wpAny _ _ _ _ _ _
  k_fold
  k_steps
  rename_i tk0 a0 h₂' _ P h₃' _ h₅ F₉ N₉
  have hI₅ : h₅.IsList lI ws.toArray := let ⟨o, e, r⟩ := hI; ⟨o, F₉.keep _ _ e, r⟩
  have hPf : s.heap.get? P = none := N₉.fresh (List.mem_cons_self ..)
  refine wpAny_pyIter_list hI₅ ?_
  refine forL (It := h₅.objs.size) (x := "code") (J := fun k h => ∃ pv, Fr s.heap s.heap.objs.size h (fun y => if y = "code" then pv else if y = "pile" then some (.ref P) else if y = "lone" then some (.bool lone) else if y = "codes" then some (.ref lI) else none) ∧ PileAt s.heap h P k) ?hh ?hJ ?turn ?fin _ 0 _ rfl (Nat.zero_le _) (Hp.refl _) ⟨_, Heap.get?_push_size _ rfl, rfl, rfl⟩ (hI₅.push _) ?init
  case turn =>
    rintro i v s₂ hv hs hit hl ⟨pv, F₂, R₂⟩
    obtain ⟨n, tn, hn, rfl⟩ := ints_get hia i v (by simpa using hv)
    have hnn := hns n (List.mem_of_getElem? hn)
    have hi : i < 100 := by
      have := (List.getElem?_eq_some_iff.mp hn).1
      omega
    refine wpAny_storeName_local rfl F₂.ns (fun h₆ hn₆ hs₆ => ?_) rfl
    have nI : lI ≠ s.heap.objs.size := list_ne_ns hl F₂.ns
    have n₁ := iter_ne_ns hit F₂.ns
    have R₃ : PileAt s.heap h₆ P i := R₂.mono fun b xs n e => hs₆.extBut _ _ (seq_ne_ns e F₂.ns) e
    have hit₆ : h₆.IsListIter h₅.objs.size lI (i + 1) := let ⟨o, e, r⟩ := hit; ⟨o, hs₆.extBut _ _ n₁ e, r⟩
    have hl₆ : h₆.IsList lI ws.toArray := isl_same hl hs₆ nI
    have F₃ := F₂.set hn₆ hs₆
    have em : (fun x : Str => if x = "code" then some (Value.int n tn) else if x = "code" then pv else if x = "pile" then some (Value.ref P) else if x = "lone" then some (Value.bool lone) else if x = "codes" then some (Value.ref lI) else none) = (fun y : Str => if y = "code" then some (Value.int n tn) else if y = "pile" then some (.ref P) else if y = "lone" then some (.bool lone) else if y = "codes" then some (.ref lI) else none) := by
      funext y
      by_cases hy : y = "code" <;> simp [hy]
    rw [em] at F₃
    obtain ⟨top, rest, c, r, vs, x1, x2, x3, x4, x5, x6, x7⟩ := R₃
    have nP : P ≠ s.heap.objs.size := list_ne_ns x1.isList F₃.ns
    have nTop : top ≠ s.heap.objs.size := list_ne_ns x4.isList F₃.ns
    have ePile : (top :: rest).reverse.map Value.ref = rest.reverse.map Value.ref ++ [.ref top] := by simp
    have hvl := TreesAt.len c vs x5
    have hcl := Mine.T.len_sz c
    have hmk : Mark := trivial
    have N := News.nil (h₀ := s.heap) (h := h₆) (L := s.heap.objs.size)
    clear F₉ N₉ F₂ hn₆ R₂ hs₆
    have hPI : lI ≠ P := fun e => by obtain ⟨o, q, _⟩ := hI; rw [e, hPf] at q; cases q
    have hTI : lI ≠ top := fun e => by obtain ⟨o, q, _⟩ := hI; rw [e, (x2 top (List.mem_cons_self ..)).1] at q; cases q
    have nPI : P ≠ h₅.objs.size := list_ne_iter x1.isList hit₆
    have nTI : top ≠ h₅.objs.size := list_ne_iter x4.isList hit₆
    have hPT : P ≠ top := Ne.symm (x2 top (List.mem_cons_self ..)).2
    have fT := (x2 top (List.mem_cons_self ..)).1
    k_steps
    · refine item_last (ePile ▸ x1) ?_
      refine getMethod_list_of PySem.slot_list_append (by kernel_rfl) x4.isList (pl_noDict x4) ?_
      dsimp only
      k_steps
      refine append_pl x4 (fun h₈ y4 hs₈ => ?_) (by rw [sizeLine_eq]; omega)
      clear N
      have F₄ : Fr s.heap s.heap.objs.size h₈ _ := ⟨F₃.ns.sameBut hs₈ (Ne.symm nTop), fun b o q => hs₈.extBut b o (fun e => by rw [e, fT] at q; cases q) (F₃.keep b o q), F₃.above⟩
      have hS := hide_monoS (h := h₆) (h' := h₈) (S := P :: top :: rest) (S' := P :: top :: rest) fun b xs m hb e => ⟨hs₈.extBut _ _ (fun q => hb (by simp [q])) e, hb⟩
      clear F₃
      k_steps
      refine ⟨by obtain ⟨_, _, rfl⟩ := hs; exact ⟨_, _, rfl⟩, let ⟨o, e, r⟩ := hit₆; ⟨o, hs₈.extBut _ _ (Ne.symm nTI) e, r⟩, isl_same hl₆ hs₈ hTI, _, F₄, top, rest, c ++ [.leaf n.toNat], r, _, x1.extBut hs₈.extBut hPT, x2, x3, y4, TreesAt.snoc ?_ _ _ (TreesAt.monoS hS c vs x5), Under.mono hS _ _ _ (fun a ha xs m e => hs₈.extBut _ _ (fun q => ?_) e) x6, ?_⟩
      · rw [TreeAt]; exact ⟨by omega, tn, by rw [Int.toNat_of_nonneg hnn.1]⟩
      · subst q; exact (List.nodup_cons.mp x3).1 ha
      · rw [Mine.T.szL_append, Mine.T.szL, Mine.T.szL, Mine.T.sz]; omega
    · refine item_last (ePile ▸ x1) ?_
      refine getMethod_list_of PySem.slot_list_append (by kernel_rfl) x4.isList (pl_noDict x4) ?_
      dsimp only
      k_steps
      generalize ho1 : ({ cls := .type "list", data := .seq ([] : List Value).toArray } : Obj) = o1
      have hb1 : (h₆.push o1).get? h₆.objs.size = some o1 := Heap.get?_push_size _ (by rw [← ho1]; rfl)
      have hbn : h₆.get? h₆.objs.size = none := Heap.get?_none_of_le (Nat.le_refl _)
      have up1 : ∀ b o, h₆.get? b = some o → (h₆.push o1).get? b = some o := fun b o e => Heap.get?_push_of_some o1 e
      refine append_pl (s := { s₂ with heap := h₆.push o1, toks := _ }) (x4.at fun o e => up1 _ _ e) (fun h₈ y4 hs₈ => ?_) (by rw [sizeLine_eq]; omega)
      have bP : h₆.objs.size ≠ P := fun e => by obtain ⟨_, q⟩ := x1; rw [← e, hbn] at q; cases q
      have bT : h₆.objs.size ≠ top := fun e => by obtain ⟨_, q⟩ := x4; rw [← e, hbn] at q; cases q
      have bs : s.heap.get? h₆.objs.size = none := by
        cases q : s.heap.get? h₆.objs.size with
        | none => rfl
        | some o => rw [F₃.keep _ _ q] at hbn; cases hbn
      clear N
      have F₄ : Fr s.heap s.heap.objs.size h₈ _ := ⟨(F₃.push o1).ns.sameBut hs₈ (Ne.symm nTop), fun b o q => hs₈.extBut b o (fun e => by rw [e, fT] at q; cases q) ((F₃.push o1).keep b o q), F₃.above⟩
      have y1 : h₈.PlainList P _ := (x1.at fun o e => up1 _ _ e).extBut hs₈.extBut hPT
      have yb : h₈.PlainList h₆.objs.size ([] : List Value).toArray := ⟨0, hs₈.extBut _ _ bT (by rw [hb1, ← ho1])⟩
      have N := News.nil (h₀ := s.heap) (h := h₈) (L := s.heap.objs.size)
      clear F₃
      k_steps
      refine getMethod_list_of PySem.slot_list_append (by kernel_rfl) y1.isList (pl_noDict y1) ?_
      dsimp only
      k_steps
      refine item_last (ePile ▸ y1) ?_
      k_steps
      refine item_last y4 ?_
      k_steps
      refine append_pl y1 (fun h₉ z1 hs₉ => ?_) (by rw [sizeLine_eq]; simp; omega)
      clear N
      have F₅ : Fr s.heap s.heap.objs.size h₉ _ := ⟨F₄.ns.sameBut hs₉ (Ne.symm nP), fun b o q => hs₉.extBut b o (fun e => by rw [e, hPf] at q; cases q) (F₄.keep b o q), F₄.above⟩
      clear F₄
      have up9 : ∀ b o, b ≠ top → b ≠ P → h₆.get? b = some o → h₉.get? b = some o := fun b o n1 n2 e => hs₉.extBut _ _ n2 (hs₈.extBut _ _ n1 (up1 _ _ e))
      have hS := hide_monoS (h := h₆) (h' := h₉) (S := P :: top :: rest) (S' := P :: h₆.objs.size :: top :: rest) fun b xs m hb e =>
        ⟨up9 _ _ (fun q => hb (by simp [q])) (fun q => hb (by simp [q])) e, fun hm => by
          rcases List.mem_cons.mp hm with q | hm
          · exact hb (by simp [q])
          · rcases List.mem_cons.mp hm with q | hm
            · rw [q, hbn] at e; cases e
            · exact hb (List.mem_cons_of_mem _ hm)⟩
      k_steps
      refine ⟨by obtain ⟨_, _, rfl⟩ := hs; exact ⟨_, _, rfl⟩, let ⟨o, e, r⟩ := hit₆; ⟨o, up9 _ _ (Ne.symm nTI) (Ne.symm nPI) e, r⟩, let ⟨o, e, r⟩ := hl₆; ⟨o, up9 _ _ hTI hPI e, r⟩, _, F₅, h₆.objs.size, top :: rest, [], c :: r, [], ?_, fun a ha => ?_, List.nodup_cons.mpr ⟨fun hm => ?_, x3⟩, yb.extBut hs₉.extBut bP, by rw [TreesAt], ?_, ?_⟩
      · simpa using z1
      · rcases List.mem_cons.mp ha with rfl | ha
        · exact ⟨bs, bP⟩
        · exact x2 a ha
      · rcases List.mem_cons.mp hm with q | hm
        · exact bT q
        · obtain ⟨o, e⟩ := Under.there rest top r x6 _ hm
          rw [hbn] at e; cases e
      · rw [Under]
        exact ⟨c, r, vs, rfl, y4.extBut hs₉.extBut (Ne.symm hPT), TreesAt.monoS hS c vs x5, Under.mono hS _ _ _ (fun a ha xs m e => up9 _ _ (fun q => (List.nodup_cons.mp x3).1 (q ▸ ha)) (x2 a (List.mem_cons_of_mem _ ha)).2 e) x6⟩
      · rw [Mine.T.szL]; simp only [szS, List.map_cons, List.sum_cons, List.length_cons] at *; omega
    · have hsz : rest.length + 1 ≤ 101 := by omega
      refine Calls.call_len_list x1.isList (by simp; omega) ?_
      k_steps
      · rename_i hgt
        refine getMethod_list_of PySem.F.slot_list_pop (by kernel_rfl) x1.isList (pl_noDict x1) ?_
        dsimp only
        k_steps
        refine pop_pl (ePile ▸ x1) (fun h₈ y1 hs₈ => ?_) (by rw [sizeLine_eq]; simp; omega)
        k_steps
        cases rest with
        | nil => exfalso; simp at hgt
        | cons a rest =>
          rw [Under] at x6
          obtain ⟨c', r', vs', rfl, x61, x62, x63⟩ := x6
          have nd1 := List.nodup_cons.mp x3
          have nd2 := List.nodup_cons.mp nd1.2
          have aP := (x2 a (by simp)).2
          have F₄ : Fr s.heap s.heap.objs.size h₈ _ := ⟨F₃.ns.sameBut hs₈ (Ne.symm nP), fun b o q => hs₈.extBut b o (fun e => by rw [e, hPf] at q; cases q) (F₃.keep b o q), F₃.above⟩
          have hS := hide_monoS (h := h₆) (h' := h₈) (S := P :: top :: a :: rest) (S' := P :: a :: rest) fun b xs m hb e =>
            ⟨hs₈.extBut _ _ (fun q => hb (by simp [q])) e, fun hm => by
              rcases List.mem_cons.mp hm with q | hm
              · exact hb (by simp [q])
              · exact hb (List.mem_cons_of_mem _ (List.mem_cons_of_mem _ hm))⟩
          obtain ⟨n4, x4'⟩ := x4
          refine ⟨by obtain ⟨_, _, rfl⟩ := hs; exact ⟨_, _, rfl⟩, let ⟨o, e, r⟩ := hit₆; ⟨o, hs₈.extBut _ _ (Ne.symm nPI) e, r⟩, isl_same hl₆ hs₈ hPI, _, F₄, a, rest, c' ++ [.node c], r', vs' ++ [.ref top], ?_, fun d hd' => x2 d (List.mem_cons_of_mem _ hd'), nd1.2, x61.extBut hs₈.extBut aP, TreesAt.snoc ?_ _ _ (TreesAt.monoS hS c' vs' x62), Under.mono hS _ _ _ (fun d hd' xs m e => hs₈.extBut _ _ (x2 d (by simp [hd'])).2 e) x63, ?_⟩
          · simpa using y1
          · rw [TreeAt]
            exact ⟨top, vs, n4, rfl, hideAll_get _ (hs₈.extBut _ _ (Ne.symm hPT) x4') (fun hm => by
              rcases List.mem_cons.mp hm with q | hm
              · exact hPT q.symm
              · exact nd1.1 hm), TreesAt.monoS hS c vs x5⟩
          · rw [Mine.T.szL_append, Mine.T.szL, Mine.T.szL, Mine.T.sz]; simp only [szS, List.map_cons, List.sum_cons, List.length_cons] at *; omega
      · exact ⟨by obtain ⟨_, _, rfl⟩ := hs; exact ⟨_, _, rfl⟩, hit₆, hl₆, _, F₃, top, rest, c, r, vs, x1, x2, x3, x4, x5, x6, by omega⟩
  case hh => exact hh
  case hJ =>
    rintro i h h' hit ⟨pv, Fh, Rh⟩ he
    exact ⟨pv, ⟨Fh.ns.at' fun o e => he _ o (Ne.symm (iter_ne_ns hit Fh.ns)) e, fun b o q => he b o (Nat.ne_of_lt (Heap.lt_size (F₉.keep b o q))) (Fh.keep b o q), Fh.above⟩, Rh.mono fun b xs n e => he b _ (seq_ne_iter e hit) e⟩
  case init =>
    refine ⟨none, ?_, a0, [], [], [], [], ⟨0, ?_⟩, fun a ha => ?_, by simp, ⟨0, ?_⟩, by rw [TreesAt], by rw [Under], Nat.le_refl _⟩
    · have F₈ := F₉.push { cls := .type "list_iterator", data := .fields #[.ref lI, .int 0 0] }
      have e : (fun y : Str => if y = "code" then none else if y = "pile" then some (Value.ref P) else if y = "lone" then some (.bool lone) else if y = "codes" then some (.ref lI) else none) = (fun y : Str => if y = "pile" then some (.ref P) else List.lookup y [("lone", .bool lone), ("codes", .ref lI)]) := by
        funext y
        by_cases h1 : y = "code"
        · subst h1; rfl
        · by_cases h2 : y = "lone"
          · subst h2; rfl
          · by_cases h3 : y = "codes"
            · subst h3; rfl
            · simp only [h1, if_false, List.lookup, beq_eq_false_iff_ne.mpr h2, beq_eq_false_iff_ne.mpr h3, h2, h3]
      rw [e]
      exact F₈
    · exact Heap.get?_push_of_some _ (N₉.get (List.mem_cons_self ..))
    · rcases List.mem_cons.mp ha with rfl | ha
      · rename_i q
        exact ⟨N₉.fresh (List.mem_cons_of_mem _ (List.mem_cons_self ..)), Nat.ne_of_lt q⟩
      · cases ha
    · exact Heap.get?_push_of_some _ (N₉.get (List.mem_cons_of_mem _ (List.mem_cons_self ..)))
  case fin =>
    rintro s₂ hs ⟨pv, F₂, R₂⟩
    obtain ⟨top, rest, c, r, vs, x1, x2, x3, ⟨n4, x4⟩, x5, x6, x7⟩ := R₂
    have hS : ∀ b xs n, (hideAll s₂.heap (P :: top :: rest)).get? b = some (seqOf "list" xs n) → s₂.heap.get? b = some (seqOf "list" xs n) := fun b xs n e => of_hideAll _ e
    obtain ⟨l, z1, z2⟩ := Under.close rest top r (.node c) (by rw [TreeAt]; exact ⟨top, vs, n4, rfl, x4, TreesAt.monoS hS c vs x5⟩) ⟨_, rfl⟩ (Under.mono hS rest top r (fun _ _ _ _ e => e) x6)
    have hz : ((top :: rest).reverse.map Value.ref)[0]? = some (.ref ((top :: rest).getLast (by simp))) := by
      rw [List.getElem?_map, List.getElem?_reverse (by simp)]
      simp [List.getLast_eq_getElem]
    generalize ((top :: rest).getLast (by simp)) = root at z1 hz
    rw [List.size_toArray, hia.length] at x7
    have hsz : (Mine.T.node l).sz ≤ 101 := by rw [z2, Mine.T.sz]; omega
    have z1' := z1
    rw [TreeAt] at z1'
    obtain ⟨a, us, m, ea, hroot, hus⟩ := z1'
    cases ea
    have hul := TreesAt.len l us hus
    have hll := Mine.T.len_sz l
    have N := News.nil (h₀ := s.heap) (h := s₂.heap) (L := s.heap.objs.size)
    clear F₉ N₉
    dsimp only
    have hr0 : s₂.heap.IsList root us.toArray := ⟨_, hroot, rfl, m, rfl⟩
    have e0 : ((top :: rest).reverse.map Value.ref).toArray[(0 : Int).toNat]? = some (.ref root) := by rw [List.getElem?_toArray]; exact hz
    cases lone with
    | false =>
      k_steps
      refine PyProof.Rows.item_list x1.isList (by decide) (by decide) e0 ?_
      obtain ⟨h', tk', rfl⟩ := hs
      exact hQ _ _ _ _ F₂.keep z1 hsz
    | true =>
      k_steps
      refine PyProof.Rows.item_list x1.isList (by decide) (by decide) e0 ?_
      k_steps
      have hl101 : l.length ≤ 101 := by rw [Mine.T.sz] at hsz; omega
      refine Calls.call_len_list hr0 (by rw [List.size_toArray, hul]; omega) ?_
      k_steps
      · rename_i h1
        refine PyProof.Rows.item_list x1.isList (by decide) (by decide) e0 ?_
        k_steps
        have h1' : us.length = 1 := by rw [List.size_toArray] at h1; omega
        cases l with
        | nil => rw [hul] at h1'; cases h1'
        | cons t₁ l₁ =>
          rw [TreesAt] at hus
          obtain ⟨v₁, r₁, rfl, y1, y2⟩ := hus
          refine PyProof.Rows.item_list hr0 (by decide) (by decide) (by rfl) ?_
          obtain ⟨h', tk', rfl⟩ := hs
          refine hQ _ _ _ _ F₂.keep y1 ?_
          rw [Mine.T.sz, Mine.T.szL] at hsz; omega
      · refine PyProof.Rows.item_list x1.isList (by decide) (by decide) e0 ?_
        obtain ⟨h', tk', rfl⟩ := hs
        exact hQ _ _ _ _ F₂.keep z1 hsz
end Mine

open PySem PySem.W PySem.Calls PyProof.Rows
set_option Elab.async false
set_option maxRecDepth 100000
namespace Mine
theorem filled17 : (PySem.Challenge.rw_kr0026_01 = PySem.Challenge.rw_kr0026_01) ∧ (hd.heap_39 = hd.heap_39) := by
  k_fill
  exact ⟨rfl, rfl⟩
section
variable {prog : Program} {w : PySem.World} {A : Around} {E : Value → Shared → Prop} {s : Shared} {env : Env}
/-- a list comprehension over a list, each item worked out on a growing heap -/
theorem comp_grow {elt iter : Expr} {x : Str} {px : Pos} {scope : Scope} {cl : List (Str × Addr)} {pos : Pos} {Q : Value → Shared → Prop} {ax : Addr} {vs : List Value} {nA : Nat} {Inv : Nat → List Value → Heap → Prop}
    (hh : A.handled = none) (hclos : closureFor scope env = pure cl) (hcell : ∀ y ∈ scope.names, y.2 ≠ .cell) (hkind : scope.kind = .function)
    (hnames : ∀ y ∈ scope.names, y.2 = .local → scope.names.lookup y.1 = some .local) (hx : scope.names.lookup x = some .local)
    (hax : s.heap.get? ax = some (seqOf "list" vs nA)) (hlen : vs.length ≤ 1000)
    (hiter : ∀ Q' : Value → Shared → Prop, Q' (.ref ax) s → wpAny (model prog w) A (eval iter env) Q' E s) (inv0 : Inv 0 [] s.heap)
    (hkeep : ∀ i ys h h', Kp h h' → Inv i ys h → Inv i ys h')
    (hmono : ∀ i ys h h' D I C zs a j m, h.IsList D zs → h.IsListIter I a j → h.Ns C m → (∀ b o, b ≠ D → b ≠ I → b ≠ C → h.get? b = some o → h'.get? b = some o) → Inv i ys h → Inv i ys h')
    (helt : ∀ i v ys C m s₃ E', vs[i]? = some v → ys.length = i → Inv i ys s₃.heap → s₃.heap.Ns C m → m x = some v → Kp s.heap s₃.heap → Hp s s₃ →
      wpAny (model prog w) A (eval elt (compEnvC scope cl C env)) (fun y s₄ => Keeps s₃ s₄ ∧ Inv (i + 1) (ys ++ [y]) s₄.heap) E' s₃)
    (hQ : ∀ D ys h' tk, s.heap.get? D = none → h'.PlainList D ys.toArray → ys.length = vs.length → Inv vs.length ys h' → Kp s.heap h' → Q (.ref D) { s with heap := h', toks := tk })
    (hs : ∀ x, foldedSetIterable iter env x = pure x := by intro _; rfl) :
    wpAny (model prog w) A (eval (.ListComp elt [⟨.Name x px, iter, [], 0⟩] scope pos) env) Q E s := by
  rw [eval_ListComp]
  refine wpAny_comprehension_free (use := none) rfl hs hclos hkind hnames (hiter _ ?_)
  have hl : s.heap.IsList ax vs.toArray := ⟨_, hax, rfl, _, rfl⟩
  refine wpAny_pyIter_list hl (wpAny_newObj_type (hd := by size_fits) (wpAny_newFunctionEnv hcell (by intro y hy; simp at hy) (fun h₁ hns₁ hsb₁ => ?_) hkind))
  dsimp only at hns₁ hsb₁ ⊢
  generalize hH1 : s.heap.push { cls := .type "list_iterator", data := .fields #[.ref ax, .int 0 0] } = H1 at hns₁ hsb₁ ⊢
  have hD : H1.objs.size = s.heap.objs.size + 1 := by rw [← hH1, Heap.size_push]
  generalize hH2 : H1.push { cls := .type "list", dict := none, data := .seq ([] : List Value).toArray } = H2 at hns₁ hsb₁ ⊢
  have hC : H2.objs.size = s.heap.objs.size + 2 := by rw [← hH2, Heap.size_push, hD]
  generalize eD : H1.objs.size = D at *
  generalize eC : H2.objs.size = C at *
  generalize eI : s.heap.objs.size = I at *
  have hDI : D ≠ I := by rw [hD]; exact Nat.succ_ne_self _
  have hDC : D ≠ C := by rw [hD, hC]; exact Nat.ne_of_lt (Nat.lt_succ_self _)
  have hIC : I ≠ C := by rw [hC]; exact Nat.ne_of_lt (Nat.lt_succ_of_lt (Nat.lt_succ_self _))
  have below : ∀ b o, s.heap.get? b = some o → b ≠ D ∧ b ≠ I ∧ b ≠ C := fun b o e => by
    have hb := Heap.lt_size e
    rw [eI] at hb
    exact ⟨by rw [hD]; exact Nat.ne_of_lt (Nat.lt_succ_of_lt hb), Nat.ne_of_lt hb, by rw [hC]; exact Nat.ne_of_lt (Nat.lt_succ_of_lt (Nat.lt_succ_of_lt hb))⟩
  have up2 : ∀ b o, s.heap.get? b = some o → H2.get? b = some o := fun b o e => hH2 ▸ Heap.get?_push_of_some _ (hH1 ▸ Heap.get?_push_of_some _ e)
  have old : Kp s.heap h₁ := fun b o e => hsb₁.extBut b o (below b o e).2.2 (Heap.get?_push_of_some _ (up2 b o e))
  have hI1 : H1.get? I = some { cls := .type "list_iterator", data := .fields #[.ref ax, .int 0 0] } := by rw [← hH1, ← eI]; exact Heap.get?_push_size _ rfl
  have hD1 : H2.get? D = some { cls := .type "list", dict := none, data := .seq ([] : List Value).toArray } := by rw [← hH2, ← eD]; exact Heap.get?_push_size _ rfl
  have hit : h₁.IsListIter I ax 0 := ⟨_, hsb₁.extBut _ _ hIC (Heap.get?_push_of_some _ (hH2 ▸ Heap.get?_push_of_some _ (hI1))), rfl, rfl⟩
  have hacc : h₁.PlainList D ([] : List Value).toArray := ⟨_, hsb₁.extBut _ _ hDC (Heap.get?_push_of_some _ hD1)⟩
  have hnew : s.heap.get? D = none := by
    cases e : s.heap.get? D with
    | none => rfl
    | some o' => exact absurd rfl (below _ _ e).1
  have loop : ∀ s₂ : Shared, s₂ = { s with heap := h₁, toks := s.toks + ([] : List (Str × Value)).length } →
      codeAny (model prog w) A (.compLoop (.ListComp elt [⟨.Name x px, iter, [], 0⟩] scope pos) 0 (.ref I) (.ref D) (compEnvC scope cl C env)) (compPost (model prog w) A E none Q (.ref D) C) s₂ := by
    rintro s₂ rfl
    refine codeAny_compLoop_tests (fun n s' => ∃ h tk m ys i, s' = { s with heap := h, toks := tk } ∧ h.IsListIter I ax i ∧ h.PlainList D ys.toArray ∧ h.Ns C m ∧ ys.length = i ∧ Inv i ys h ∧ i ≤ vs.length ∧ n = vs.length + 1 - i ∧ Kp s.heap h) ?_ (vs.length + 1)
      ⟨h₁, _, _, [], 0, rfl, hit, hacc, hns₁, rfl, hkeep _ _ _ _ old inv0, Nat.zero_le _, rfl, old⟩
    rintro n s' ⟨h, tk, m, ys, i, rfl, hit', hacc', hn', hyl, hinv, hi, rfl, hk⟩
    have hl' : h.IsList ax vs.toArray := ⟨_, hk _ _ hax, rfl, _, rfl⟩
    cases hv : vs[i]? with
    | none =>
      have hi' : i = vs.length := by have := List.getElem?_eq_none_iff.mp hv; omega
      refine wpAny_pyNext_list_end hh hit' hl' (by simpa using hv) fun h₂ he₂ => ?_
      refine ⟨m, hn'.extBut he₂ (Ne.symm hIC), fun h₃ hs₃ => hQ D ys h₃ _ hnew ((hacc'.extBut he₂ hDI).extBut hs₃.extBut hDC) (by omega) ?_ fun b o e => hs₃.extBut b o (below b o e).2.2 (he₂ b o (below b o e).2.1 (hk b o e))⟩
      rw [← hi']
      exact hmono i ys h h₃ D I C _ _ _ _ hacc'.isList hit' hn' (fun b o _ n2 n3 e => hs₃.extBut b o n3 (he₂ b o n2 e)) hinv
    | some v =>
      have hlt : i < vs.length := (List.getElem?_eq_some_iff.mp hv).1
      refine wpAny_pyNext_list_item hit' hl' (by simpa using hv) fun h₂ hit₂ hs₂ => ?_
      refine wpAny_assign_Name (wpAny_storeName_local (lookup_relabel_local hx) (hn'.sameBut hs₂ (Ne.symm hIC)) (fun h₃ hn₃ hs₃ => ?_) (by simp [compEnvC, relabel, hkind]))
      have up₃ : ∀ b o, b ≠ D → b ≠ I → b ≠ C → h.get? b = some o → h₃.get? b = some o := fun b o _ n2 n3 e => hs₃.extBut b o n3 (hs₂.extBut b o n2 e)
      have hinv₃ := hmono i ys h h₃ D I C _ _ _ _ hacc'.isList hit' hn' up₃ hinv
      have hk₃ : Kp s.heap h₃ := fun b o e => up₃ b o (below b o e).1 (below b o e).2.1 (below b o e).2.2 (hk b o e)
      refine wpAny_tests_nil ?_
      rw [if_pos rfl]
      refine wpAny_mono (helt i v ys C _ { s with heap := h₃, toks := _ } (notedBy (model prog w) A (compEnvC scope cl C env) fun e s' => compPost (model prog w) A E none Q (.ref D) C (.error e) s') hv hyl hinv₃ hn₃ (by simp) hk₃ ⟨_, _, rfl⟩) (fun y s₄ h₄ => ?_) fun _ _ e => e
      obtain ⟨⟨h₄, tk₄, rfl, hk₄⟩, hinv₄⟩ := h₄
      have hacc₄ : h₄.PlainList D ys.toArray := ((hacc'.extBut hs₂.extBut hDI).extBut hs₃.extBut hDC).at fun o e => hk₄ _ o e
      have hit₄ : h₄.IsListIter I ax (i + 1) := (hit₂.extBut hs₃.extBut hIC).at fun o e => hk₄ _ o e
      have hn₄ := hn₃.keeps hk₄
      refine append_pl hacc₄ (fun h₅ hl₅ hs₅ => ?_) (by rw [sizeLine_eq]; omega)
      refine ⟨vs.length + 1 - (i + 1), by omega, h₅, _, _, ys ++ [y], i + 1, rfl, hit₄.extBut hs₅.extBut (Ne.symm hDI), hl₅, hn₄.sameBut hs₅ (Ne.symm hDC), by simp [hyl], ?_, hlt, rfl, fun b o e => hs₅.extBut b o (below b o e).1 (hk₄ b o (hk₃ b o e))⟩
      exact hmono (i + 1) _ h₄ h₅ D I C _ _ _ _ hacc₄.isList hit₄ hn₄ (fun b o n1 _ _ e => hs₅.extBut b o n1 e) hinv₄
  exact codeAny_compStart_list (loop _ rfl) (wpAny_pyIter_listiter hit (loop _ rfl))
end
/-- a stop for the walk -/
structure Held (p : Prop) : Prop where
  out : p
theorem held {p : Prop} (h : Held p) : p := h.out
local macro_rules | `(tactic| walk_at "eval ListComp") => `(tactic| refine Mine.held ?_)
/-- the contract of _law_real, for one tree -/
def Real (prog : Program) (w : PySem.World) (W₀ : Heap) (aT : Addr) (t : T) : Prop :=
  ∀ (A : Around) (E Q : Value → Shared → Prop) (s : Shared) (v : Value), W₀.StaysIn s.heap → TreeAt s.heap "list" NumLeaf t v → A.depth + t.ht < 800 → A.handled = none → t.sz ≤ 200 →
      (∀ v' h' tk, Kp s.heap h' → TreeAt h' "tuple" (Thing W₀) t v' → Q v' { s with heap := h', toks := tk }) →
      wpAny (model prog w) A (call (.ref 47) [v, .ref aT]) Q E s
theorem T.sz_mem {t : T} : ∀ {l : List T}, t ∈ l → t.sz ≤ T.szL l
  | a :: l, h => by
    rw [T.szL]
    rcases List.mem_cons.mp h with rfl | h
    · omega
    · have := T.sz_mem h; omega
set_option pp.deepTerms.threshold 3
set_option pp.maxSteps 6000
set_option maxHeartbeats 8000000 in
theorem real_call {prog : Program} {w : PySem.World} {mg mb : Str → Option Value} {W₀ : Heap} {aT : Addr} {vT : List Value} {nT : Nat} (D : Wd w mg mb W₀) (hT : W₀.get? aT = some (seqOf "list" vT nT)) (hTl : vT.length = 23) (hTt : ∀ i v, vT[i]? = some v → Thing W₀ i v) : ∀ t, Real prog w W₀ aT t := by
  refine T.ind (fun n => ?_) (fun l ih => ?_)
  · intro A E Q s v st x hA hh hsz hQ
    rw [TreeAt] at x
    obtain ⟨hn, tn, rfl⟩ := x
    have X := (D.up st).X
    have T := (D.up st).T
    refine enterC X T.nolimit rfl rfl (by simp only [recursionLimit]; omega) rfl rfl (by decide +kernel) fun h₁ tk cells F N Y => ?_
    k_cells Y
    show wpAny _ _ _ _ _ _
    k_fold
    k_steps
    have hvn : ∃ v, vT[n]? = some v := ⟨vT[n], by simp [hTl, hn]⟩
    obtain ⟨v, hv⟩ := hvn
    refine PyProof.Rows.item_list (items := vT.toArray) ⟨_, F.keep _ _ (st _ _ hT), rfl, nT, rfl⟩ (by omega) (by omega) (by simpa using hv) ?_
    exact hQ _ _ _ F.keep (by rw [TreeAt]; exact hTt _ _ hv)
  · intro A E Q s v st x hA hh hsz hQ
    rw [TreeAt] at x
    obtain ⟨a, vs, n, rfl, ho, xs⟩ := x
    have X := (D.up st).X
    have T := (D.up st).T
    refine enterC X T.nolimit rfl rfl (by simp only [recursionLimit]; omega) rfl rfl (by decide +kernel) fun h₁ tk cells F N Y => ?_
    k_cells Y
    show wpAny _ _ _ _ _ _
    k_fold
    k_steps
    refine isi_list_list (F.keep _ _ ho) fun tk₁ => ?_
    dsimp only
    k_steps
    refine ⟨?_⟩
    have hvl := TreesAt.len l vs xs
    have hll := Mine.T.len_sz l
    rw [Mine.T.sz] at hsz
    refine comp_grow (ax := a) (vs := vs) (nA := n) (cl := [("things", s.heap.objs.size + 1)]) (Inv := fun i ys h => TreesAt h "tuple" (Thing W₀) (l.take i) ys) hh (by rfl) (by decide) rfl (by decide) (by decide) (F.keep _ _ ho) (by omega) ?iter ?inv0 ?keep ?mono ?elt ?q
    case iter => intro Q' h; exact nameX_L F rfl h
    case inv0 => show TreesAt _ _ _ (List.take 0 l) []; rw [List.take_zero, TreesAt]
    case keep => intro i ys h h' k x; exact TreesAt.monoS (fun b xs n e => k b _ e) _ _ x
    case mono =>
      rintro i ys h h' D' I' C' zs a' j m hD hI hC k x
      refine TreesAt.monoS (fun b xs n e => k b _ (fun q => ?_) (seq_ne_iter e hI) (seq_ne_ns e hC) e) _ _ x
      obtain ⟨o, h1, h2, _⟩ := hD
      rw [← q, e] at h1; cases h1
      injection h2 with h2; exact absurd h2 (by decide)
    case elt =>
      intro i v ys C m s₃ E' hv hyl hinv hC hm hk hp
      have hlt : i < l.length := by have := (List.getElem?_eq_some_iff.mp hv).1; omega
      obtain ⟨t, ht⟩ : ∃ t, l[i]? = some t := ⟨l[i], by simp [hlt]⟩
      have kk : Kp s.heap s₃.heap := fun b o e => hk b o (F.keep b o e)
      have D₃ : Wd w mg mb s₃.heap := D.up fun b o e => kk b o (st b o e)
      have hcell : s₃.heap.IsCell (s.heap.objs.size + 1) (some (.ref aT)) := ⟨_, hk _ _ (N.get (List.mem_cons_self ..)), by assumption⟩
      refine Call_ (Name_function_global rfl rfl (loadGlobal_global (mg := mg) D₃.T.g (mg_of X T.g (v := .ref 47) (by k_is)) ?_))
      refine callWith_K (K := hd.heap_39 w.params) X (by k_is) ?_
      refine spliced_more (wpAny_Name (wpAny_loadName_local rfl rfl hC hm ?_))
      refine spliced_more (wpAny_Name (wpAny_loadName_cell rfl rfl (c := s.heap.objs.size + 1) (by rfl) hcell ?_))
      refine spliced_none ⟨D₃.X, ?_⟩
      have hmem := List.mem_of_getElem? ht
      have hsz' := Mine.T.sz_mem hmem
      have hht := Mine.T.ht_mem hmem
      rw [Mine.T.ht] at hA
      refine ih t hmem _ E' _ s₃ v (fun b o e => kk b o (st b o e)) (TreeAt.monoS (fun b xs n e => kk b _ e) t v (xs.get.2 i t v ht hv)) ?_ hh (by omega) fun v' h' tk' hk' ht' => ⟨⟨h', tk', rfl, hk'⟩, ?_⟩
      · show A.depth + 1 + t.ht < 800; omega
      · show TreesAt _ _ _ (l.take (i + 1)) (ys ++ [v'])
        rw [List.take_add_one, ht]
        exact TreesAt.snoc ht' _ _ (TreesAt.monoS (fun b xs n e => hk' b _ e) _ _ hinv)
    case q =>
      intro D' ys h' tk' hnew hpl hlen hinv hk
      k_steps
      refine call_tuple_list hpl.isList (fun h₉ hk₉ => ?_) (by rw [sizeLine_eq]; simp; omega)
      have kk : Kp h' (h₉.push { cls := .type "tuple", data := .seq ys.toArray }) := fun b o e => Heap.get?_push_of_some _ (hk₉ b o e)
      refine hQ _ _ _ (fun b o e => kk b o (hk b o (F.keep b o e))) ?_
      rw [TreeAt]
      have hinv' : TreesAt h' "tuple" (Thing W₀) l ys := by
        have h0 : List.take vs.length l = l := by rw [hvl]; exact List.take_length
        have h1 : TreesAt h' "tuple" (Thing W₀) (List.take vs.length l) ys := hinv
        rwa [h0] at h1
      exact ⟨_, ys, 0, rfl, Heap.get?_push_size _ rfl, TreesAt.monoS (fun b xs n e => kk b _ e) _ _ hinv'⟩
end Mine

open PySem PySem.W PySem.Calls PyProof.Rows
set_option Elab.async false
set_option maxRecDepth 100000
namespace Mine
theorem filled18 : (PySem.Challenge.rw_kr0026_01 = PySem.Challenge.rw_kr0026_01) ∧ (hd.heap_39 = hd.heap_39) := by
  k_fill
  exact ⟨rfl, rfl⟩
structure Held2 (p : Prop) : Prop where
  out : p
theorem held2 {p : Prop} (h : Held2 p) : p := h.out
section
variable {prog : Program} {w : PySem.World} {A : Around} {E : Value → Shared → Prop} {s : Shared} {Q : Value → Shared → Prop}
theorem extend_pl {l b : Addr} {vs us : List Value} (hl : s.heap.PlainList l vs.toArray) (hb : s.heap.PlainList b us.toArray) (h : ∀ h', h'.PlainList l (vs ++ us).toArray → Heap.SameBut l s.heap h' → Q .none { s with heap := h' }) (hsz : vs.length + us.length ≤ 1000) :
    wpAny (model prog w) A (call (.builtin "list.extend") [.ref l, .ref b]) Q E s := by
  obtain ⟨n, ho⟩ := hl
  obtain ⟨n2, ho2⟩ := hb
  refine call_meets PySem.F.slot_list_extend ⟨_, ho, rfl⟩ PySem.F.entry_list_extend (PySem.F.args_list_extend_2 _ _) (PySem.AutoSeq1.list_extend_list_list_0 l vs.toArray n b us.toArray n2 ?_ (by rw [sizeLine_eq]; simp; omega) (by rw [sizeLine_eq]; simp; omega)) ⟨ho, ho2, h _ ?_ (Heap.SameBut.update ..)⟩
  · have : Builtin.List.listTooLong (vs.toArray.size + us.toArray.size) = false := by
      unfold Builtin.List.listTooLong
      rw [sizeLine_eq]
      simp
      omega
    rw [this]; simp
  · have q := PySem.IsL.update (h := s.heap) (l := l) ho fun xs => xs ++ us.toArray
    have e : vs.toArray ++ us.toArray = (vs ++ us).toArray := by simp
    rw [e] at q
    exact ⟨_, q⟩
end
theorem frTwice {h₀ h : Heap} {L : Addr} {x : Str} {a b : Option Value} {f : Str → Option Value} (F : Fr h₀ L h (fun y => if y = x then a else if y = x then b else f y)) : Fr h₀ L h (fun y => if y = x then a else f y) := by
  have e : (fun y => if y = x then a else if y = x then b else f y) = (fun y => if y = x then a else f y) := by
    funext y
    by_cases hy : y = x <;> simp [hy]
  rw [e] at F
  exact F
/-- one turn of a while loop done -/
structure Round (I : Nat → Shared → Prop) (n : Nat) (s : Shared) : Prop where
  out : ∃ m, m < n ∧ I m s
theorem whileL {prog : Program} {w : PySem.World} {A : Around} {R : Result → Shared → Prop} {s : Shared} {test : Expr} {body orelse : List Stmt} {env : Env} (I : Nat → Shared → Prop)
    (turn : ∀ n s, I n s →
      wpAny (model prog w) A (isTrue test env (eval test env)) (fun b s₂ =>
        if b then wpAny (model prog w) A (execs body env) (fun f s₃ => match f with
            | .next | .cont => Round I n s₃
            | .brk => R (.ok .next) s₃
            | .ret v => R (.ok (.ret v)) s₃) (notedBy (model prog w) A env fun e s' => R (.error e) s') s₂
        else wpAny (model prog w) A (execs orelse env) (fun f s₃ => R (.ok f) s₃) (notedBy (model prog w) A env fun e s' => R (.error e) s') s₂)
        (notedBy (model prog w) A env fun e s' => R (.error e) s') s)
    (n : Nat) (h : I n s) : codeAny (model prog w) A (.whileLoop test body orelse env) R s := by
  refine codeAny_whileLoop I (fun n s hI => wpAny_mono (turn n s hI) (fun b s₂ h₂ => ?_) fun _ _ e => e) n h
  cases b with
  | true => exact wpAny_mono h₂ (fun f s₃ h₃ => by cases f <;> first | exact h₃.out | exact h₃) fun _ _ e => e
  | false => exact h₂
theorem TreesAt.append {h : Heap} {ty : String} {lf : Nat → Value → Prop} {b : List T} {us : List Value} (y : TreesAt h ty lf b us) : ∀ (l : List T) (vs : List Value), TreesAt h ty lf l vs → TreesAt h ty lf (l ++ b) (vs ++ us)
  | [], vs, x => by rw [TreesAt] at x; subst x; exact y
  | a :: l, vs, x => by
    rw [TreesAt] at x
    obtain ⟨v', r, rfl, x1, x2⟩ := x
    rw [List.cons_append, List.cons_append, TreesAt]
    exact ⟨v', _, rfl, x1, TreesAt.append y l r x2⟩
theorem T.leavesL_append : ∀ a b : List T, T.leavesL (a ++ b) = T.leavesL a ++ T.leavesL b
  | [], b => by rw [List.nil_append, T.leavesL, List.nil_append]
  | t :: a, b => by rw [List.cons_append, T.leavesL, T.leavesL, T.leavesL_append a b, List.append_assoc]
/-- the walk over the trees still left -/
structure Walk (h₀ h : Heap) (lL lR : Addr) (all : List Nat) (n : Nat) : Prop where
  ex : ∃ (ts : List T) (vs ws : List Value) (done : List Nat) (n1 n2 : Nat), h.get? lL = some (seqOf "list" vs n1) ∧ h.get? lR = some (seqOf "list" ws n2) ∧ IntsAre ws (done.map fun n : Nat => (n : Int)) ∧
    TreesAt h₀ "list" NumLeaf ts vs.reverse ∧ all = done ++ T.leavesL ts ∧ T.szL ts = n ∧ ws.length + n ≤ 200
local macro_rules | `(tactic| walk_at "exec While Compare") => `(tactic| refine Mine.held2 ?_)
local macro_rules | `(tactic| walk_at "subscriptTail Name Slice ref ref") => `(tactic| refine Mine.held2 ?_)
set_option pp.deepTerms.threshold 3
set_option pp.maxSteps 6000
set_option maxHeartbeats 8000000 in
theorem leaves_call {prog : Program} {w : PySem.World} {mg mb : Str → Option Value} {A : Around} {s : Shared} {E : Value → Shared → Prop} {Q : Value → Shared → Prop} {t : T} {v : Value}
    (D : Wd w mg mb s.heap) (hA : A.depth < 800) (hh : A.handled = none) (hu : A.units < 100) (x : TreeAt s.heap "list" NumLeaf t v) (hsz : t.sz ≤ 200)
    (hQ : ∀ a ws h' tk, Kp s.heap h' → s.heap.get? a = none → h'.PlainList a ws.toArray → IntsAre ws (t.leaves.map fun n : Nat => (n : Int)) → Q (.ref a) { s with heap := h', toks := tk }) :
    wpAny (model prog w) A (call (.ref 54) [v]) Q E s := by
  have X := D.X
  have T := D.T
  refine enter X T.nolimit rfl rfl (by simp only [recursionLimit]; omega) rfl rfl fun h₁ F => ?_
  have N : News s.heap s.heap.objs.size h₁ [] := News.nil
  show wpAny _ _ _ _ _ _
  k_fold
  k_steps
  rename_i lL h₂' _ lR h₃' _ tD h₅ F₉ N₉ _
  refine unpackItemsN_ F₉ N₉ (N₉.isTup (List.mem_cons_self ..)) hh rfl fun h₆ F₆ N₆ => ?_
  clear F₉ N₉
  k_steps
  rename_i h₅ F₉ N₉
  refine ⟨wpAny_While ?_⟩
  have mL := List.mem_cons_of_mem (tD, { cls := .type "tuple", data := .seq #[Value.ref lL, .ref lR] }) (List.mem_cons_of_mem (lR, W.listOf #[] 0) (List.mem_cons_self (a := (lL, W.listOf #[v] 0)) (l := [])))
  have mR := List.mem_cons_of_mem (tD, { cls := .type "tuple", data := .seq #[Value.ref lL, .ref lR] }) (List.mem_cons_self (a := (lR, W.listOf #[] 0)) (l := [(lL, W.listOf #[v] 0)]))
  have fL : s.heap.get? lL = none := N₉.fresh mL
  have fR : s.heap.get? lR = none := N₉.fresh mR
  have hLR : lL ≠ lR := Nat.ne_of_lt (by assumption)
  have gL := N₉.get mL
  have gR := N₉.get mR
  refine whileL (fun n s' => Hp ⟨h₅, s.gens, s.drawn, 0, s.os⟩ s' ∧ (∃ pv, Fr s.heap s.heap.objs.size s'.heap (fun y => if y = "one" then pv else if y = "left" then some (.ref lL) else if y = "row" then some (.ref lR) else if y = "tree" then some v else none)) ∧ Walk s.heap s'.heap lL lR t.leaves n) ?turn t.sz ⟨⟨_, _, rfl⟩, ⟨none, ?_⟩, ⟨[t], [v], [], [], 0, 0, gL, gR, .nil, ?_, ?_, ?_, ?_⟩⟩
  case turn =>
    rintro n s' ⟨hp, ⟨pv, F₂⟩, ⟨ts, vs, ws, done, n1, n2, gl, gr, hi, xs, he, hn, hsz⟩⟩
    have N : News s.heap s.heap.objs.size s'.heap [(lL, W.listOf vs.toArray n1), (lR, W.listOf ws.toArray n2)] := fun p hm => by
      rcases List.mem_cons.mp hm with rfl | hm
      · exact ⟨gl, seq_ne_ns gl F₂.ns, fL⟩
      · rcases List.mem_cons.mp hm with rfl | hm
        · exact ⟨gr, seq_ne_ns gr F₂.ns, fR⟩
        · cases hm
    clear F₉ N₉ gL gR
    k_steps
    rename_i D' h₃ F₃ N₃ _
    have lD : h₃.IsList D' #[] := N₃.isList (List.mem_cons_self ..)
    have lLe : h₃.IsList lL vs.toArray := N₃.isList (List.mem_cons_of_mem _ (List.mem_cons_self ..))
    have c99 : cLine = 9900 := rfl
    have hu' : A.units + 3 < cLine := by omega
    cases ts with
    | nil =>
      rw [TreesAt] at xs
      have hvs : vs = [] := by simpa using xs
      subst hvs
      refine PySem.SeqAt.RcNeAt.lists (e := fun _ => true) lLe lD rfl hu' (fun j h1 => by simp at h1) prog w _ _ ?_
      k_steps
      obtain ⟨_, _, rfl⟩ := hp
      refine hQ _ ws _ _ F₃.keep fR ⟨n2, N₃.get (List.mem_cons_of_mem _ (List.mem_cons_of_mem _ (List.mem_cons_self ..)))⟩ ?_
      rw [he, Mine.T.leavesL, List.append_nil]
      exact hi
    | cons t₁ ts =>
      rw [TreesAt] at xs
      obtain ⟨y, r, evs, y1, y2⟩ := xs
      have evs' : vs = r.reverse ++ [y] := by
        have := congrArg List.reverse evs
        simpa using this
      subst evs'
      refine PySem.SeqAt.RcNeAt.lists_lengths lLe lD (by simp) hu' prog w _ _ ?_
      k_steps
      dsimp only
      have gl₃ := N₃.get (List.mem_cons_of_mem _ (List.mem_cons_self ..))
      have gr₃ := N₃.get (List.mem_cons_of_mem _ (List.mem_cons_of_mem _ (List.mem_cons_self ..)))
      have hrl := TreesAt.len ts r y2
      have hrs := Mine.T.len_sz ts
      rw [Mine.T.szL] at hn
      rw [Mine.T.leavesL] at he
      refine pop_pl ⟨n1, gl₃⟩ (fun h₄ z4 hs₄ => ?_) (by rw [sizeLine_eq, List.length_reverse]; omega)
      obtain ⟨m4, z4⟩ := z4
      have nL := seq_ne_ns gl₃ F₃.ns
      have F₄ : Fr s.heap s.heap.objs.size h₄ _ := ⟨F₃.ns.sameBut hs₄ (Ne.symm nL), fun b o q => hs₄.extBut b o (fun e => by rw [e, fL] at q; cases q) (F₃.keep b o q), F₃.above⟩
      have N₄ : News s.heap s.heap.objs.size h₄ [(lL, W.listOf r.reverse.toArray m4), (lR, W.listOf ws.toArray n2)] := fun p hm => by
        rcases List.mem_cons.mp hm with rfl | hm
        · exact ⟨z4, nL, fL⟩
        · rcases List.mem_cons.mp hm with rfl | hm
          · exact ⟨hs₄.extBut _ _ (Ne.symm hLR) gr₃, seq_ne_ns gr₃ F₃.ns, fR⟩
          · cases hm
      clear F₃ N₃ lD lLe gl₃ gr₃
      cases t₁ with
      | leaf k =>
        rw [TreeAt] at y1
        obtain ⟨hk, tk₁, rfl⟩ := y1
        k_steps
        rename_i h₅ F₅ N₅
        obtain ⟨_, _, rfl⟩ := hp
        rw [Mine.T.sz] at hn
        have g₂ : h₅.get? lR = some (seqOf "list" (ws ++ [.int (k : Nat) tk₁]) (n2 + 1)) := by
          have := N₅.get (List.mem_cons_of_mem _ (List.mem_cons_self ..))
          simpa using this
        refine ⟨⟨Mine.T.szL ts, by omega, ⟨_, _, rfl⟩, ⟨_, (frTwice (f := fun y => if y = "left" then some (.ref lL) else if y = "row" then some (.ref lR) else if y = "tree" then some v else none) F₅)⟩, ⟨ts, r.reverse, ws ++ [.int (k : Nat) tk₁], done ++ [k], _, _, N₅.get (List.mem_cons_self ..), g₂, ?_, ?_, ?_, rfl, ?_⟩⟩⟩
        · rw [List.map_append]; exact hi.append (.cons _ _ .nil)
        · rw [List.reverse_reverse]; exact y2
        · rw [he, Mine.T.leaves, List.append_assoc]
        · rw [List.length_append]; show ws.length + 1 + _ ≤ _; omega
      | node l =>
        rw [TreeAt] at y1
        obtain ⟨a, us, na, rfl, ga, yus⟩ := y1
        k_steps
        rename_i h₅ F₅ N₅
        refine isi_list_list (F₅.keep _ _ ga) fun tk₁ => ?_
        dsimp only
        k_steps
        refine ⟨?_⟩
        have hul := TreesAt.len l us yus
        have hus := Mine.T.len_sz l
        rw [Mine.T.sz] at hn
        have hl5 : h₅.IsList a us.toArray := ⟨_, F₅.keep _ _ ga, rfl, na, rfl⟩
        refine krv_lit (s := ⟨h₅, _, _, _, _⟩) F₅ N₅ hl5 (IsPart.int _ _) rfl (fun D₂ h₇ F₇ N₇ _ => ?_) (by with_unfolding_all rfl) (by intro _; with_unfolding_all rfl) (by rw [sizeLine_eq]; simp; omega)
        k_steps
        have gD : h₇.PlainList D₂ us.reverse.toArray := ⟨0, N₇.get (List.mem_cons_self ..)⟩
        have gl₇ := N₇.get (List.mem_cons_of_mem _ (List.mem_cons_self ..))
        have gr₇ := N₇.get (List.mem_cons_of_mem _ (List.mem_cons_of_mem _ (List.mem_cons_self ..)))
        refine extend_pl ⟨m4, gl₇⟩ gD (fun h₈ z8 hs₈ => ?_) (by simp only [List.length_reverse]; omega)
        obtain ⟨m8, z8⟩ := z8
        have F₈ : Fr s.heap s.heap.objs.size h₈ _ := ⟨F₇.ns.sameBut hs₈ (Ne.symm nL), fun b o q => hs₈.extBut b o (fun e => by rw [e, fL] at q; cases q) (F₇.keep b o q), F₇.above⟩
        clear F₇ F₅ N₇ N₅
        have N₈ : News s.heap s.heap.objs.size h₈ [] := News.nil
        k_steps
        obtain ⟨_, _, rfl⟩ := hp
        refine ⟨⟨Mine.T.szL (l ++ ts), by rw [Mine.T.szL_append]; omega, ⟨_, _, rfl⟩, ⟨_, (frTwice (f := fun y => if y = "left" then some (.ref lL) else if y = "row" then some (.ref lR) else if y = "tree" then some v else none) F₈)⟩, ⟨l ++ ts, r.reverse ++ us.reverse, ws, done, _, n2, z8, hs₈.extBut _ _ (Ne.symm hLR) gr₇, hi, ?_, ?_, rfl, ?_⟩⟩⟩
        · rw [List.reverse_append, List.reverse_reverse, List.reverse_reverse]
          exact TreesAt.append y2 l us yus
        · rw [he, Mine.T.leaves, Mine.T.leavesL_append]
        · rw [Mine.T.szL_append]; omega
  · have e : (fun y : Str => if y = "one" then none else if y = "left" then some (Value.ref lL) else if y = "row" then some (.ref lR) else if y = "tree" then some v else none) = (fun y : Str => if y = "left" then some (Value.ref lL) else if y = "row" then some (.ref lR) else List.lookup y [("tree", v)]) := by
      funext y
      by_cases h1 : y = "one"
      · subst h1; rfl
      · by_cases h2 : y = "tree"
        · subst h2; rfl
        · simp only [h1, if_false, List.lookup, beq_eq_false_iff_ne.mpr h2, h2]
    rw [e]
    exact F₉
  · show TreesAt _ _ _ [t] [v]
    rw [TreesAt]
    exact ⟨v, [], rfl, x, by rw [TreesAt]⟩
  · rw [Mine.T.leavesL, Mine.T.leavesL, List.append_nil]; rfl
  · rw [Mine.T.szL, Mine.T.szL]; rfl
  · show 0 + t.sz ≤ 200; omega
end Mine

open PySem PySem.W PySem.Calls PyProof.Rows
set_option Elab.async false
set_option maxRecDepth 100000
namespace Mine
theorem filled19 : (PySem.Challenge.rw_kr0026_01 = PySem.Challenge.rw_kr0026_01) ∧ (hd.heap_39 = hd.heap_39) := by
  k_fill
  exact ⟨rfl, rfl⟩
local macro_rules | `(tactic| walk_at "exec For Name Name cons nil") => `(tactic| ((refine wpAny_For (hs := ?hs) ?_); (case hs => (with_unfolding_all (intro _; rfl)))))
/-- what _law_passes answers: none is TypeError -/
def passL (k : Nat) : List Nat → Option Bool
  | [] => some false
  | b :: bs => if 18 ≤ b then none else if below k b then some true else passL k bs
def passO (k : Nat) (ns : List Nat) : Option Bool := if 18 ≤ k then some false else passL k ns
theorem any_cast (b : Nat) : ∀ l : List Nat, (l.map fun n : Nat => (n : Int)).any (· == (b : Int)) = l.contains b
  | [] => rfl
  | a :: l => by
    rw [List.map_cons, List.any_cons, List.contains_cons, any_cast b l]
    have e : ((a : Int) == (b : Int)) = (b == a) := by
      rw [Bool.eq_iff_iff, beq_iff_eq, beq_iff_eq]
      omega
    rw [e]
set_option pp.deepTerms.threshold 3
set_option pp.maxSteps 6000
set_option maxHeartbeats 8000000 in
theorem passes_call {prog : Program} {w : PySem.World} {mg mb : Str → Option Value} {A : Around} {s : Shared} {E : Value → Shared → Prop} {Q : Value → Shared → Prop} {k : Nat} {tl : Tok} {aB aA : Addr} {wb : List Value} {ns : List Nat}
    (D : Wd w mg mb s.heap) (hA : A.depth < 800) (hh : A.handled = none) (hu : A.units < 100) (hB : s.heap.IsList aB wb.toArray) (hi : IntsAre wb (ns.map fun n : Nat => (n : Int))) (hns : ∀ n ∈ ns, n < 23) (hlen : ns.length ≤ 300) (R : RowsAt s.heap aA 18) (hk : k < 23)
    (hQ : ∀ h' tk tk', Kp s.heap h' → Q (.str (toldStr (passO k ns)) tk) { s with heap := h', toks := tk' }) :
    wpAny (model prog w) A (call (.ref 61) [.int (k : Nat) tl, .ref aB, .ref aA]) Q E s := by
  have X := D.X
  have T := D.T
  refine enter X T.nolimit rfl rfl (by simp only [recursionLimit]; omega) rfl rfl fun h₁ F => ?_
  have N : News s.heap s.heap.objs.size h₁ [] := News.nil
  show wpAny _ _ _ _ _ _
  k_fold
  k_steps
  · rename_i h18
    refine (?_ : Q (.str "False" _) _)
    have e : passO k ns = some false := by rw [passO, if_pos (by omega)]
    rw [e] at hQ
    exact hQ _ _ _ F.keep
  · rename_i h18
    have hO : passO k ns = passL k ns := by rw [passO, if_neg (by omega)]
    rw [hO] at hQ
    have hB₁ : h₁.IsList aB wb.toArray := let ⟨o, e, r⟩ := hB; ⟨o, F.keep _ _ e, r⟩
    refine wpAny_pyIter_list hB₁ ?_
    refine forL (It := h₁.objs.size) (x := "base") (J := fun i h => (∃ pv, Fr s.heap s.heap.objs.size h (fun y => if y = "base" then pv else List.lookup y [("above", Value.ref aA), ("bases", .ref aB), ("leaf", .int (k : Nat) tl)])) ∧ passL k ns = passL k (ns.drop i)) ?hh ?hJ ?turn ?fin _ 0 _ rfl (Nat.zero_le _) (Hp.refl _) ⟨_, Heap.get?_push_size _ rfl, rfl, rfl⟩ (hB₁.push _) ?init
    case hh => exact hh
    case hJ =>
      rintro i h h' hit ⟨⟨pv, Fh⟩, Rh⟩ he
      exact ⟨⟨pv, ⟨Fh.ns.at' fun o e => he _ o (Ne.symm (iter_ne_ns hit Fh.ns)) e, fun b o q => he b o (Nat.ne_of_lt (Heap.lt_size (F.keep b o q))) (Fh.keep b o q), Fh.above⟩⟩, Rh⟩
    case init =>
      refine ⟨⟨none, ?_⟩, rfl⟩
      have F₈ := F.push { cls := .type "list_iterator", data := .fields #[.ref aB, .int 0 0] }
      have e : (fun y : Str => if y = "base" then none else List.lookup y [("above", Value.ref aA), ("bases", .ref aB), ("leaf", .int (k : Nat) tl)]) = (fun y : Str => List.lookup y [("above", Value.ref aA), ("bases", .ref aB), ("leaf", .int (k : Nat) tl)]) := by
        funext y
        by_cases h1 : y = "base"
        · subst h1; rfl
        · rw [if_neg h1]
      rw [e]
      exact F₈
    case fin =>
      rintro s₂ hs ⟨⟨pv, F₂⟩, R₂⟩
      have N := News.nil (h₀ := s.heap) (h := s₂.heap) (L := s.heap.objs.size)
      have e : passL k ns = some false := by
        rw [R₂, List.drop_of_length_le (by rw [List.size_toArray, hi.length, List.length_map]; exact Nat.le_refl _)]; rfl
      rw [e] at hQ
      dsimp only
      k_steps
      obtain ⟨_, _, rfl⟩ := hs
      exact hQ _ _ _ F₂.keep
    case turn =>
      rintro i v s₂ hv hs hit hl ⟨⟨pv, F₂⟩, R₂⟩
      obtain ⟨n, tn, hn, rfl⟩ := ints_get hi i v (by simpa using hv)
      rw [List.getElem?_map] at hn
      obtain ⟨b, hb, rfl⟩ := Option.map_eq_some_iff.mp hn
      have hb23 := hns b (List.mem_of_getElem? hb)
      have hd' : ns.drop i = b :: ns.drop (i + 1) := by
        have hlt := (List.getElem?_eq_some_iff.mp hb).1
        rw [List.drop_eq_getElem_cons hlt, (List.getElem?_eq_some_iff.mp hb).2]
      rw [hd', passL] at R₂
      have nI := list_ne_ns hl F₂.ns
      have n₁ := iter_ne_ns hit F₂.ns
      refine wpAny_storeName_local rfl F₂.ns (fun h₆ hn₆ hs₆ => ?_) rfl
      have F₃ := frTwice (x := "base") (f := fun y => List.lookup y [("above", Value.ref aA), ("bases", .ref aB), ("leaf", .int (k : Nat) tl)]) (F₂.set hn₆ hs₆)
      have hit₆ : h₆.IsListIter h₁.objs.size aB (i + 1) := let ⟨o, e, r⟩ := hit; ⟨o, hs₆.extBut _ _ n₁ e, r⟩
      have hl₆ : h₆.IsList aB wb.toArray := isl_same hl hs₆ nI
      have R₆ : RowsAt h₆ aA 18 := R.mono fun b o _ e => F₃.keep b o e
      have N := News.nil (h₀ := s.heap) (h := h₆) (L := s.heap.objs.size)
      clear F F₂ hn₆ hs₆ hB₁
      k_steps
      · rename_i h18b
        have e : passL k ns = none := by rw [R₂, if_pos (by omega)]
        rw [e] at hQ
        obtain ⟨_, _, rfl⟩ := hs
        exact hQ _ _ _ F₃.keep
      · rename_i h18b
        obtain ⟨vr, hR, hvl, hrow⟩ := R₆
        obtain ⟨a, e1, _, wr, e3, e4⟩ := hrow k (by omega)
        refine PyProof.Rows.item_list hR.isList (by omega) (by omega) (by simpa using e1) ?_
        refine in_list_ints e3 e4 ?_
        rw [any_cast]
        have hbl : (abv.getD k []).contains b = below k b := rfl
        rw [hbl]
        rw [if_neg (by omega)] at R₂
        cases hbb : below k b with
        | true =>
          rw [hbb, if_pos rfl] at R₂
          rw [R₂] at hQ
          k_steps
          obtain ⟨_, _, rfl⟩ := hs
          exact hQ _ _ _ F₃.keep
        | false =>
          rw [hbb, if_neg (by decide)] at R₂
          k_steps
          exact ⟨by obtain ⟨_, _, rfl⟩ := hs; exact ⟨_, _, rfl⟩, hit₆, hl₆, ⟨_, F₃⟩, R₂⟩
end Mine

open PySem PySem.W PySem.Calls PyProof.Rows
set_option Elab.async false
set_option maxRecDepth 100000
namespace Mine
/-- neither a namespace nor a cell, and of a class -/
structure Pl (o : Obj) : Prop where
  one : ∀ es n, o.data ≠ .dict es n
  two : ∀ v, o.data ≠ .cell v
  three : o.cls ≠ .none
theorem pl_of_seq {o : Obj} {xs : Array Value} {n : Nat} (e : o.data = .seq xs n) (c : o.cls ≠ .none) : Pl o := ⟨(fun _ _ q => by rw [e] at q; cases q), (fun _ q => by rw [e] at q; cases q), c⟩
theorem pl_of_fields {o : Obj} {vs : Array Value} (e : o.data = .fields vs) (c : o.cls ≠ .none) : Pl o := ⟨(fun _ _ q => by rw [e] at q; cases q), (fun _ q => by rw [e] at q; cases q), c⟩
theorem pl_seq {ty : String} {xs : List Value} {n : Nat} : Pl (seqOf ty xs n) := pl_of_seq rfl (fun e => by cases e)
/-- all that is neither namespace nor cell stays -/
def Kq (h h' : Heap) : Prop := ∀ b o, Pl o → h.get? b = some o → h'.get? b = some o
theorem Kq.of {h h' : Heap} (k : Kp h h') : Kq h h' := fun b o _ e => k b o e
theorem Kq.trans {a b c : Heap} (x : Kq a b) (y : Kq b c) : Kq a c := fun d o p e => y d o p (x d o p e)
theorem kq_ns {h h' : Heap} {L : Addr} {m : Str → Option Value} (n : h.Ns L m) (hs : Heap.SameBut L h h') : Kq h h' := fun b o p e => hs.extBut b o (fun q => by
  obtain ⟨o', es, ep, h3, h4, _⟩ := n
  rw [q, h3] at e; cases e; exact p.one _ _ h4) e
theorem kq_cell {h h' : Heap} {c : Addr} {v : Option Value} (n : h.IsCell c v) (hs : Heap.SameBut c h h') : Kq h h' := fun b o p e => hs.extBut b o (fun q => by
  obtain ⟨o', h3, h4⟩ := n
  rw [q, h3] at e; cases e; exact p.two _ h4) e
theorem TreeAt.monoQ {h h' : Heap} {ty : String} {lf : Nat → Value → Prop} (k : Kq h h') {t : T} {v : Value} (x : TreeAt h ty lf t v) : TreeAt h' ty lf t v := TreeAt.monoS (fun b xs n e => k b _ pl_seq e) t v x
theorem isl_q {h h' : Heap} {a : Addr} {xs : Array Value} (k : Kq h h') (x : h.IsList a xs) : h'.IsList a xs := by
  obtain ⟨o, h1, h2, n, h3⟩ := x
  exact ⟨o, k _ _ (pl_of_seq h3 (by rw [h2]; intro e; cases e)) h1, h2, n, h3⟩
theorem pll_q {h h' : Heap} {a : Addr} {xs : Array Value} (k : Kq h h') (x : h.PlainList a xs) : h'.PlainList a xs := by
  obtain ⟨n, h1⟩ := x
  exact ⟨n, k _ _ (pl_of_seq rfl (fun e => by cases e)) h1⟩
theorem RowsAt.monoQ {h h' : Heap} {R : Addr} {n : Nat} (k : Kq h h') (x : RowsAt h R n) : RowsAt h' R n := by
  obtain ⟨vs, hR, hl, hr⟩ := x
  refine ⟨vs, pll_q k hR, hl, fun j hj => ?_⟩
  obtain ⟨a, e1, e2, ws, e3, e6⟩ := hr j hj
  exact ⟨a, e1, e2, ws, isl_q k e3, e6⟩
theorem Thing.monoQ {h h' : Heap} (k : Kq h h') {i : Nat} {v : Value} (x : Thing h i v) : Thing h' i v := by
  rcases x with x | x | x | x | ⟨e, a, xs, n, q, r⟩ | ⟨e, a, vs, q, r⟩
  · exact .inl x
  · exact .inr (.inl x)
  · exact .inr (.inr (.inl x))
  · exact .inr (.inr (.inr (.inl x)))
  · exact .inr (.inr (.inr (.inr (.inl ⟨e, a, xs, n, q, k _ _ (pl_of_seq rfl (fun e => by cases e)) r⟩))))
  · exact .inr (.inr (.inr (.inr (.inr ⟨e, a, vs, q, k _ _ (pl_of_fields rfl (fun e => by cases e)) r⟩))))
/-- the three cells of the law's frame -/
structure Cells3 (H : Heap) (L : Nat) (h : Heap) (vB vK vA : Option Value) : Prop where
  b : h.IsCell (L + 1 + 1 + 1) vB
  k : h.IsCell (L + 1 + 1) vK
  a : h.IsCell (L + 1) vA
  fb : H.get? (L + 1 + 1 + 1) = none
  fk : H.get? (L + 1 + 1) = none
  fa : H.get? (L + 1) = none
theorem Cells3.news {H h : Heap} {L : Nat} {vB vK vA : Option Value} (x : Cells3 H L h vB vK vA) : ∃ oB oK oA, News H L h [(L + 1 + 1 + 1, oB), (L + 1 + 1, oK), (L + 1, oA)] ∧ oB.data = .cell vB ∧ oK.data = .cell vK ∧ oA.data = .cell vA := by
  obtain ⟨⟨oB, b1, b2⟩, ⟨oK, k1, k2⟩, ⟨oA, a1, a2⟩, fb, fk, fa⟩ := x
  refine ⟨oB, oK, oA, fun p hm => ?_, b2, k2, a2⟩
  rcases List.mem_cons.mp hm with rfl | hm
  · exact ⟨b1, neN (by omega), fb⟩
  · rcases List.mem_cons.mp hm with rfl | hm
    · exact ⟨k1, neN (by omega), fk⟩
    · rcases List.mem_cons.mp hm with rfl | hm
      · exact ⟨a1, neN (by omega), fa⟩
      · cases hm
theorem Cells3.keep {H h h' : Heap} {L : Nat} {vB vK vA : Option Value} (x : Cells3 H L h vB vK vA) (k : ∀ b o, b = L + 1 + 1 + 1 ∨ b = L + 1 + 1 ∨ b = L + 1 → h.get? b = some o → h'.get? b = some o) : Cells3 H L h' vB vK vA := by
  obtain ⟨⟨oB, b1, b2⟩, ⟨oK, k1, k2⟩, ⟨oA, a1, a2⟩, fb, fk, fa⟩ := x
  exact ⟨⟨oB, k _ _ (.inl rfl) b1, b2⟩, ⟨oK, k _ _ (.inr (.inl rfl)) k1, k2⟩, ⟨oA, k _ _ (.inr (.inr rfl)) a1, a2⟩, fb, fk, fa⟩
theorem Cells3.store {H h h' : Heap} {L : Nat} {vB vK vA : Option Value} (x : Cells3 H L h vB vK vA) (hs : Heap.SameBut L h h') : Cells3 H L h' vB vK vA :=
  x.keep fun b o hb e => hs.extBut b o (by rcases hb with rfl | rfl | rfl <;> exact neN (by omega)) e
theorem Cells3.setA {H h h' : Heap} {L : Nat} {vB vK vA v : Option Value} (x : Cells3 H L h vB vK vA) (hs : Heap.SameBut (L + 1) h h') (hc : h'.IsCell (L + 1) v) : Cells3 H L h' vB vK v := by
  obtain ⟨⟨oB, b1, b2⟩, ⟨oK, k1, k2⟩, ⟨oA, a1, a2⟩, fb, fk, fa⟩ := x
  exact ⟨⟨oB, hs.extBut _ _ (neN (by omega)) b1, b2⟩, ⟨oK, hs.extBut _ _ (neN (by omega)) k1, k2⟩, hc, fb, fk, fa⟩
theorem Cells3.setK {H h h' : Heap} {L : Nat} {vB vK vA v : Option Value} (x : Cells3 H L h vB vK vA) (hs : Heap.SameBut (L + 1 + 1) h h') (hc : h'.IsCell (L + 1 + 1) v) : Cells3 H L h' vB v vA := by
  obtain ⟨⟨oB, b1, b2⟩, ⟨oK, k1, k2⟩, ⟨oA, a1, a2⟩, fb, fk, fa⟩ := x
  exact ⟨⟨oB, hs.extBut _ _ (neN (by omega)) b1, b2⟩, hc, ⟨oA, hs.extBut _ _ (neN (by omega)) a1, a2⟩, fb, fk, fa⟩
theorem Cells3.setB {H h h' : Heap} {L : Nat} {vB vK vA v : Option Value} (x : Cells3 H L h vB vK vA) (hs : Heap.SameBut (L + 1 + 1 + 1) h h') (hc : h'.IsCell (L + 1 + 1 + 1) v) : Cells3 H L h' v vK vA := by
  obtain ⟨⟨oB, b1, b2⟩, ⟨oK, k1, k2⟩, ⟨oA, a1, a2⟩, fb, fk, fa⟩ := x
  exact ⟨hc, ⟨oK, hs.extBut _ _ (neN (by omega)) k1, k2⟩, ⟨oA, hs.extBut _ _ (neN (by omega)) a1, a2⟩, fb, fk, fa⟩
theorem Fr.cell {h₀ h h' : Heap} {L c : Addr} {m : Str → Option Value} (F : Fr h₀ L h m) (hs : Heap.SameBut c h h') (hc : h₀.get? c = none) (hne : L ≠ c) : Fr h₀ L h' m :=
  ⟨F.ns.sameBut hs hne, fun b o e => hs.extBut b o (fun q => by rw [q, hc] at e; cases e) (F.keep b o e), F.above⟩
/-- hiding only what is neither -/
theorem kq_hide {h : Heap} {S : List Addr} (hS : ∀ a ∈ S, ∀ o, h.get? a = some o → ¬ Pl o) : Kq h (hideAll h S) := fun b o p e => hideAll_get _ e fun hm => hS b hm o e p
end Mine

open PySem PySem.W PySem.Calls PyProof.Rows
set_option Elab.async false
set_option maxRecDepth 100000
namespace Mine
/-- one turn over a range done -/
structure TurnR (It : Addr) (n i : Nat) (J : Shared → Prop) (s : Shared) : Prop where
  iter : IsRangeIter s.heap It (i : Int) ((n : Int) - i) 1
  inv : J s
section
variable {prog : Program} {w : PySem.World} {A : Around} {env : Env}
theorem forR {R : Result → Shared → Prop} {x : Str} {px : Pos} {It : Addr} {body : List Stmt} {J : Nat → Shared → Prop} {n : Nat} (hh : A.handled = none)
    (hJ : ∀ i (s : Shared) h' tk, J i s → (s.heap.get? It).isSome = true → Heap.ExtBut It s.heap h' → J i { s with heap := h', toks := tk })
    (turn : ∀ (i : Nat) tk (s : Shared), i < n → IsRangeIter s.heap It ((i + 1 : Nat) : Int) ((n : Int) - (i + 1 : Nat)) 1 → J i s →
      wpAny (model prog w) A (storeName env x (.int (i : Nat) tk)) (fun _ s₂ => wpAny (model prog w) A (execs body env) (fun f s₃ => match f with
        | .next | .cont => TurnR It n (i + 1) (J (i + 1)) s₃
        | .brk => False
        | .ret v => R (.ok (.ret v)) s₃) (fun _ _ => False) s₂) (fun _ _ => False) s)
    (fin : ∀ s, J n s → R (.ok .next) s) :
    ∀ k i (s : Shared), n - i = k → i ≤ n → IsRangeIter s.heap It (i : Int) ((n : Int) - i) 1 → J i s → codeAny (model prog w) A (.forLoop (.Name x px) (.ref It) body [] env) R s := by
  intro k i s hk hi hit hj
  refine codeAny_forLoop (fun m s => ∃ i, n - i = m ∧ i ≤ n ∧ IsRangeIter s.heap It (i : Int) ((n : Int) - i) 1 ∧ J i s) ?_ k ⟨i, hk, hi, hit, hj⟩
  rintro m s ⟨i, hm, hi, hit, hj⟩
  by_cases hlt : i < n
  · refine wpAny_pyNext_range_item hit (by omega) fun h' hit' hs' => ?_
    refine wpAny_assign_Name ?_
    have e1 : ((i : Int) + 1) = ((i + 1 : Nat) : Int) := by omega
    have e2 : ((n : Int) - i - 1) = ((n : Int) - (i + 1 : Nat)) := by omega
    rw [e1, e2] at hit'
    refine wpAny_mono (turn i _ { s with heap := h', toks := s.toks + 1 } hlt hit' (hJ _ _ _ _ hj (by rw [hit]; rfl) hs'.extBut)) (fun _ s₂ h₂ => wpAny_mono h₂ (fun f s₃ h₃ => ?_) fun _ _ z => z.elim) fun _ _ z => z.elim
    rcases f with _ | _ | _ | v
    · exact ⟨n - (i + 1), by omega, i + 1, rfl, by omega, h₃.1, h₃.2⟩
    · exact h₃.elim
    · exact ⟨n - (i + 1), by omega, i + 1, rfl, by omega, h₃.1, h₃.2⟩
    · exact h₃
  · have hi' : i = n := by omega
    subst hi'
    refine wpAny_pyNext_range_end hh hit (by omega) fun h' he => ?_
    exact wpAny_pure (fin _ (hJ _ _ _ _ hj (by rw [hit]; rfl) he))
end

-- the plain law
theorem passL_append (k : Nat) : ∀ a b : List Nat, passL k (a ++ b) = match passL k a with | some false => passL k b | r => r
  | [], b => by rw [List.nil_append, passL]
  | x :: a, b => by
    rw [List.cons_append, passL, passL]
    by_cases h : 18 ≤ x
    · rw [if_pos h, if_pos h]
    · rw [if_neg h, if_neg h]
      cases below k x with
      | true => rfl
      | false => exact passL_append k a b
mutual
theorem pas_leaves (k : Nat) : ∀ u : T, pas k u = passL k u.leaves
  | .leaf j => by
    rw [pas, T.leaves, passL, passL]
    by_cases h : j < 18
    · rw [if_pos h, if_neg (by omega)]
      cases below k j <;> rfl
    · rw [if_neg h, if_pos (by omega)]
  | .node l => by rw [pas, T.leaves]; exact pasL_leaves k l
theorem pasL_leaves (k : Nat) : ∀ l : List T, pasL k l = passL k (T.leavesL l)
  | [] => by rw [pasL, T.leavesL, passL]
  | t :: ts => by
    rw [pasL, T.leavesL, passL_append, pas_leaves k t]
    cases h : passL k t.leaves with
    | none => rfl
    | some b =>
      cases b with
      | true => rfl
      | false => exact pasL_leaves k ts
end
/-- the first leaf that does not pass, else True -/
def endO (bs : List Nat) : List Nat → Option Bool
  | [] => some true
  | k :: r => match passO k bs with
    | some true => endO bs r
    | x => x
theorem endO_append (bs : List Nat) : ∀ a b : List Nat, endO bs (a ++ b) = match endO bs a with | some true => endO bs b | r => r
  | [], b => by rw [List.nil_append, endO]
  | x :: a, b => by
    rw [List.cons_append, endO, endO]
    cases h : passO x bs with
    | none => rfl
    | some c =>
      cases c with
      | true => exact endO_append bs a b
      | false => rfl
mutual
theorem isub_end (u : T) : ∀ t : T, isub u t = endO u.leaves t.leaves
  | .leaf i => by
    rw [isub, T.leaves, endO, endO, passO]
    by_cases h : i < 18
    · rw [if_pos h, if_neg (by omega), pas_leaves]
      cases h2 : passL i u.leaves with
      | none => rfl
      | some c => cases c <;> rfl
    · rw [if_neg h, if_pos (by omega)]
  | .node l => by rw [isub, T.leaves]; exact isubL_end u l
theorem isubL_end (u : T) : ∀ l : List T, isubL u l = endO u.leaves (T.leavesL l)
  | [] => by rw [isubL, T.leavesL, endO]
  | t :: ts => by
    rw [isubL, T.leavesL, endO_append, isub_end u t]
    cases h : endO u.leaves t.leaves with
    | none => rfl
    | some c =>
      cases c with
      | true => exact isubL_end u ts
      | false => rfl
end
/-- the law's list of bad leaves, for one class -/
def badO (k : Nat) (x : Nat) : Bool := decide (18 ≤ x) || !below x k
theorem endO_kind (k : Nat) (hk : k < 18) : ∀ l : List Nat, endO [k] l = some (l.filter (badO k)).isEmpty
  | [] => rfl
  | x :: r => by
    rw [endO, passO, passL, passL, if_neg (by omega : ¬ 18 ≤ k), List.filter_cons]
    by_cases h : 18 ≤ x
    · rw [if_pos h, show badO k x = true from by simp [badO, h]]
      rfl
    · rw [if_neg h]
      cases hb : below x k with
      | true =>
        rw [if_pos rfl, show badO k x = false from by simp [badO, h, hb]]
        exact endO_kind k hk r
      | false =>
        rw [if_neg (by decide), show badO k x = true from by simp [badO, hb]]
        rfl
theorem isub_kind (k : Nat) (hk : k < 18) (t : T) : isub (.leaf k) t = some (t.leaves.filter (badO k)).isEmpty := by
  rw [isub_end, T.leaves]; exact endO_kind k hk _
end Mine

open PySem PySem.W PySem.Calls PyProof.Rows
set_option Elab.async false
set_option maxRecDepth 100000
namespace Mine
section
variable {prog : Program} {w : PySem.World} {A : Around} {E : Value → Shared → Prop} {s : Shared} {cenv : Env} {m : Str → Option Value}
theorem bad_test {p1 p2 p3 p4 p5 p6 p7 p8 p9 : Pos} {k1 n k : Nat} {tn tk : Tok} {cK cA aA : Addr} {whole : Sem Value} {Q : Bool → Shared → Prop} (hk : cenv.scope.kind = .function) (h1 : cenv.kindOf "leaf" = some .local) (h2 : cenv.kindOf "kind" = some .cell) (h3 : cenv.kindOf "above" = some .cell)
    (c2 : cenv.cells.lookup (Str.ofString "kind") = some cK) (c3 : cenv.cells.lookup (Str.ofString "above") = some cA) (ns : s.heap.Ns cenv.locals m) (hm : m "leaf" = some (.int (n : Nat) tn)) (gK : s.heap.IsCell cK (some (.int (k : Nat) tk))) (gA : s.heap.IsCell cA (some (.ref aA))) (R : RowsAt s.heap aA 18)
    (hQ : ∀ tk', Q (badO k n) { s with toks := tk' }) :
    wpAny (model prog w) A (isTrue (.BoolOp .Or [.Compare (.Name "leaf" p1) [.GtE] [.Constant (.int 18) k1 p2] p3, .Compare (.Name "kind" p4) [.NotIn] [.Subscript (.Name "above" p5) (.Name "leaf" p6) p7] p8] p9) cenv whole) Q E s := by
  refine isTrue_or (wpAny_isTrue_Compare1 (wpAny_Name (wpAny_loadName_local hk h1 ns hm (wpAny_Constant_int (PySem.P.ge_int (wpAny_truthy_bool ?_))))))
  by_cases h : 18 ≤ n
  · have e : badO k n = true := by simp [badO, h]
    rw [if_pos (by simpa using (by omega : (n : Int) ≥ 18))]
    have := hQ (s.toks + 1)
    rw [e] at this
    exact this
  · rw [if_neg (by simpa using (by omega : ¬ (n : Int) ≥ 18))]
    obtain ⟨vr, hR, hvl, hrow⟩ := R
    obtain ⟨a, e1, _, wr, e3, e4⟩ := hrow n (by omega)
    refine isTrue_or (wpAny_isTrue_Compare1 (wpAny_Name (wpAny_loadName_cell hk h2 c2 gK ?_)))
    refine wpAny_Subscript_Name PySem.slot_list_getitem.lookup (wpAny_Name (wpAny_loadName_cell hk h3 c3 gA (wpAny_Name (wpAny_loadName_local hk h1 ns hm ⟨hR.isList.typeIs, wpAny_getItem_list hR.isList (by omega) (by omega) (by simpa using e1) ?_⟩))))
    refine notin_list_ints e3 e4 (wpAny_truthy_bool ?_)
    rw [any_cast]
    have hbl : (abv.getD n []).contains k = below n k := rfl
    rw [hbl]
    have e : badO k n = !below n k := by simp [badO, h]
    cases hb : below n k with
    | true =>
      rw [if_neg (by decide)]
      refine isTrue_or_nil ?_
      have := hQ (s.toks + 1)
      rw [e, hb] at this
      exact this
    | false =>
      rw [if_pos (by decide)]
      have := hQ (s.toks + 1)
      rw [e, hb] at this
      exact this
end
theorem paired_id : ∀ {l ys : List Value}, Paired (fun v y => y = v) l ys → ys = l
  | _, _, .nil => rfl
  | _, _, .cons h r => by rw [h, paired_id r]
/-- the value's own share of badO -/
def badV (k : Nat) (v : Value) : Bool := match v with | .int n _ => badO k n.toNat | _ => false
theorem badV_filter (k : Nat) : ∀ {vs : List Value} {ns : List Nat}, IntsAre vs (ns.map fun n : Nat => (n : Int)) → (vs.filter (badV k)).isEmpty = (ns.filter (badO k)).isEmpty
  | vs, [], h => by cases h; rfl
  | vs, n :: ns, h => by
    rw [List.map_cons] at h
    cases h with
    | cons _ t r =>
      rw [List.filter_cons, List.filter_cons]
      have e : badV k (.int (n : Nat) t) = badO k n := rfl
      rw [e]
      cases badO k n with
      | true => rfl
      | false => exact badV_filter k r
end Mine

open PySem PySem.W PySem.Calls PyProof.Rows
set_option Elab.async false
set_option maxRecDepth 100000
namespace Mine
theorem range18 {prog : Program} {w : PySem.World} {A : Around} {E : Value → Shared → Prop} {s : Shared} {t : Tok} {Q : Value → Shared → Prop}
    (h : ∀ h' It tk', Kp s.heap h' → IsRangeIter h' It ((0 : Nat) : Int) (((18 : Nat) : Int) - (0 : Nat)) 1 → s.heap.get? It = none → Q (.ref It) { s with heap := h', toks := tk' }) :
    wpAny (model prog w) A (call (.type "range") [.int 18 t]) (fun v s₁ => wpAny (model prog w) A (pyIter v) Q E s₁) E s := by
  refine call_range_1 ?_
  refine wpAny_pyIter_range (Heap.get?_push_size _ rfl) (by decide) ?_
  refine h _ _ _ (fun b o e => Heap.get?_push_of_some _ (Heap.get?_push_of_some _ e)) (Heap.get?_push_size _ rfl) ?_
  refine Heap.get?_none_of_le ?_
  dsimp only
  rw [Heap.size_push]
  exact Nat.le_succ _
/-- the law's loop, at one of its turns, told from the state s₀ that it began on -/
structure LoopAt (s₀ : Shared) (L : Nat) (It : Addr) (m : Option Value → Str → Option Value) (s : Shared) : Prop where
  same : ∃ h tk gs, s = { s₀ with heap := h, toks := tk, gens := gs }
  keeps : ∀ b o, b ≠ 16 → b ≠ L → b ≠ L + 1 + 1 → b ≠ It → s₀.heap.get? b = some o → s.heap.get? b = some o
  tab : TabUp s₀.heap s.heap
  gens : GOK s₀.gens s.gens
  ns : ∃ pb, s.heap.Ns L (m pb)
  cell : ∃ v, s.heap.IsCell (L + 1 + 1) v
theorem riter_ne_ns {h : Heap} {a L : Addr} {x y z : Int} {m : Str → Option Value} (i : IsRangeIter h a x y z) (n : h.Ns L m) : L ≠ a := by
  obtain ⟨o', es, ep, h3, h4, _⟩ := n
  rintro rfl
  rw [i] at h3; cases h3; cases h4
mutual
theorem leaves_lt {h : Heap} {ty : String} : ∀ (t : T) (v : Value), TreeAt h ty NumLeaf t v → ∀ n ∈ t.leaves, n < 23
  | .leaf k, v, x, n, hn => by
    rw [TreeAt] at x
    rw [T.leaves, List.mem_singleton] at hn
    rw [hn]; exact x.1
  | .node l, v, x, n, hn => by
    rw [TreeAt] at x
    obtain ⟨a, vs, m, _, _, r⟩ := x
    rw [T.leaves] at hn
    exact leavesL_lt l vs r n hn
theorem leavesL_lt {h : Heap} {ty : String} : ∀ (l : List T) (vs : List Value), TreesAt h ty NumLeaf l vs → ∀ n ∈ T.leavesL l, n < 23
  | [], vs, x, n, hn => by rw [T.leavesL] at hn; cases hn
  | t :: ts, vs, x, n, hn => by
    rw [TreesAt] at x
    obtain ⟨v, r, _, x1, x2⟩ := x
    rw [T.leavesL, List.mem_append] at hn
    rcases hn with hn | hn
    · exact leaves_lt t v x1 n hn
    · exact leavesL_lt ts r x2 n hn
end
mutual
theorem leaves_sz : ∀ t : T, t.leaves.length ≤ t.sz
  | .leaf k => by rw [T.leaves, T.sz]; exact Nat.le_refl _
  | .node l => by rw [T.leaves, T.sz]; exact Nat.le_succ_of_le (leavesL_sz l)
theorem leavesL_sz : ∀ l : List T, (T.leavesL l).length ≤ T.szL l
  | [] => by rw [T.leavesL, T.szL]; exact Nat.le_refl _
  | t :: ts => by
    rw [T.leavesL, T.szL, List.length_append]
    exact Nat.add_le_add (leaves_sz t) (leavesL_sz ts)
end
end Mine

open PySem PySem.W PySem.Calls PyProof.Rows
set_option Elab.async false
set_option maxRecDepth 100000
namespace Mine
theorem filled25 : (PySem.Challenge.rw_kr0026_01 = PySem.Challenge.rw_kr0026_01) ∧ (hd.heap_39 = hd.heap_39) := by
  k_fill
  exact ⟨rfl, rfl⟩
section
variable {prog : Program} {w : PySem.World} {mg mb : Str → Option Value} {A : Around} {E : Value → Shared → Prop} {s : Shared} {env : Env} {m : Str → Option Value} {W₀ : Heap}
/-- the loop's question: `_law_told(expected, things[kind]) != str(bad == [])` is never true -/
theorem kind_test {p1 p2 p3 p4 p5 p6 p7 p8 p9 p10 p11 p12 : Pos} {t : T} {vE : Value} {aT aBad cK L : Addr} {vT : List Value} {nT k nB : Nat} {tk : Tok} {bad : List Value} {whole : Sem Value} {Q : Bool → Shared → Prop}
    (D : Wo w mg mb W₀) (hk : env.scope.kind = .function) (kT : env.kindOf "_law_told" = some .globalImplicit) (kS : env.kindOf "str" = some .globalImplicit) (kE : env.kindOf "expected" = some .local) (kTh : env.kindOf "things" = some .local)
    (kB : env.kindOf "bad" = some .local) (kK : env.kindOf "kind" = some .cell) (hcK : env.cells.lookup (Str.ofString "kind") = some cK) (gl : env.globals = mainGlobals) (bl : env.builtins = builtinsNs) (hfr : A.frames = some [env]) (hfL : env.frame = some L) (hloc : env.locals = L)
    (st : W₀.StaysIn s.heap) (tab : ∃ ps, TabSt s.heap ps) (hh : A.handled = none) (hdp : A.depth + 2 * t.ht + 3 < recursionLimit) (hu : A.units < 90) (ht0 : t.ht < 300) (hW : W₀.get? L = none) (cK16 : cK ≠ 16) (L16 : L ≠ 16) (aB16 : aBad ≠ 16)
    (ns : s.heap.Ns L m) (mE : m "expected" = some vE) (mT : m "things" = some (.ref aT)) (mB : m "bad" = some (.ref aBad)) (gK : s.heap.IsCell cK (some (.int (k : Nat) tk))) (hk18 : k < 18)
    (xE : TreeAt W₀ "tuple" (Thing W₀) t vE) (gT : W₀.get? aT = some (seqOf "list" vT nT)) (lT : vT.length = 23) (tT : ∀ i v, vT[i]? = some v → Thing W₀ i v)
    (gB : s.heap.get? aBad = some (seqOf "list" bad nB)) (eB : bad.isEmpty = (t.leaves.filter (badO k)).isEmpty)
    (hQ : ∀ s', Gr s s' → Q false s') :
    wpAny (model prog w) A (isTrue (.Compare (.Call (.Name "_law_told" p1) [.Name "expected" p2, .Subscript (.Name "things" p3) (.Name "kind" p4) p5] [] p6) [.NotEq] [.Call (.Name "str" p7) [.Compare (.Name "bad" p8) [.Eq] [.List [] p9] p10] [] p11] p12) env whole) Q E s := by
  have hkind := isub_kind k hk18 t
  have hT0 : s.heap.get? aT = some (seqOf "list" vT nT) := st _ _ gT
  obtain ⟨v, hv⟩ : ∃ v, vT[k]? = some v := ⟨vT[k]'(by omega), by simp⟩
  have X := (D.D.up st).X
  refine wpAny_isTrue_Compare1 (Call_ (Name_function_global hk kT (loadGlobal_global (mg := mg) (by rw [gl]; exact (D.D.up st).T.g) (mg_of D.D.X D.D.T.g (v := .ref 68) (by k_is)) ?_)))
  refine callWith_K (K := hd.heap_39 w.params) X (by k_is) ?_
  refine spliced_more (wpAny_Name (wpAny_loadName_local hk kE (by rw [hloc]; exact ns) mE ?_))
  refine spliced_more (wpAny_Subscript_Name PySem.slot_list_getitem.lookup (wpAny_Name (wpAny_loadName_local hk kTh (by rw [hloc]; exact ns) mT (wpAny_Name (wpAny_loadName_cell hk kK hcK gK ⟨⟨_, hT0, rfl⟩, wpAny_getItem_list (items := vT.toArray) ⟨_, hT0, rfl, nT, rfl⟩ (by omega) (by omega) (by simpa using hv) ?_⟩)))))
  refine spliced_none ⟨X, ?_⟩
  refine told_call (u := .leaf k) (t := t) D (by rw [TreeAt]; exact tT _ _ hv) (by rw [T.ht]; omega) ht0 xE st tab hh hdp (by omega) hfr ?_ ?_ (fun tk₁ s₁ _ hg => ?_) fun tk₁ s₁ hn _ => ?_
  · intro e he
    rcases List.mem_cons.mp he with rfl | he
    · obtain ⟨o, es, ep, ho, hd', _⟩ := ns
      exact ⟨by rw [hk]; decide, L, o, hfL, ho, fun vs q => by rw [hd'] at q; cases q⟩
    · cases he
  · intro b o q hm
    obtain ⟨e, he, hf⟩ := List.mem_filterMap.mp hm
    rcases List.mem_cons.mp he with rfl | he
    · rw [hfL] at hf; cases hf; rw [hW] at q; cases q
    · cases he
  · rw [hkind]
    have ns₁ : s₁.heap.Ns L m := ns.at' fun o e => hg.keeps _ o L16 e
    have gB₁ : s₁.heap.get? aBad = some (seqOf "list" bad nB) := hg.keeps _ _ aB16 gB
    have st₁ : W₀.StaysIn s₁.heap := fun b o e => hg.keeps b o (fun q => by rw [q, D.noP] at e; cases e) (st b o e)
    have bstr : bootBuiltins "str" = some (.type "str") := by decide +kernel
    refine Call_ (Name_function_global hk kS (loadGlobal_builtin (mg := mg) (mb := mb) (by rw [gl]; exact (D.D.up st₁).T.g) (mg_none_of D.D.X D.D.T.g (by k_is)) (by rw [bl]; exact (D.D.up st₁).T.b) ((D.D.T.builtins _ (by decide)).trans bstr) ?_))
    refine PySem.Pv.callWith_type1 ?_
    refine spliced_more (wpAny_Compare1 (wpAny_Name (wpAny_loadName_local hk kB (by rw [hloc]; exact ns₁) mB (List_ (spliced_none (wpAny_newList ?_ (by rw [sizeLine_eq]; exact Nat.zero_le _)))))))
    have lB : ∀ o, (s₁.heap.push o).IsList aBad bad.toArray := fun o => ⟨_, Heap.get?_push_of_some _ gB₁, rfl, nB, rfl⟩
    have c99 : cLine = 9900 := rfl
    have lE : (s₁.heap.push { cls := .type "list", data := .seq ([] : List Value).toArray }).IsList s₁.heap.objs.size #[] := ⟨_, Heap.get?_push_size _ rfl, rfl, 0, rfl⟩
    cases bad with
    | nil =>
      refine PySem.SeqAt.eq_listAt (e := fun _ => true) (lB _) lE rfl (by omega) (fun j h1 => by simp at h1) ?_
      refine spliced_none (PySem.P.str_of_bool ?_)
      rw [← eB]
      refine PySem.P.ne_str (wpAny_truthy_bool ?_)
      exact hQ _ (hg.trans (Gr.keep (s := s₁) fun b o e => Heap.get?_push_of_some _ e))
    | cons x r =>
      refine PySem.SeqAt.eq_list_lengthsAt (lB _) lE (by simp) (by omega) ?_
      refine spliced_none (PySem.P.str_of_bool ?_)
      rw [← eB]
      refine PySem.P.ne_str (wpAny_truthy_bool ?_)
      exact hQ _ (hg.trans (Gr.keep (s := s₁) fun b o e => Heap.get?_push_of_some _ e))
  · rw [hkind] at hn; cases hn
end
end Mine

open PySem PySem.W PySem.Calls PyProof.Rows
set_option Elab.async false
set_option maxRecDepth 100000
namespace Mine
/-- what the law's call leaves -/
structure LawEnd (s s' : Shared) : Prop where
  same : ∃ h' tk gs, s' = { s with heap := h', toks := tk, gens := gs }
  keeps : ∀ b o, b ≠ cStatics → b ≠ 16 → s.heap.get? b = some o → s'.heap.get? b = some o
  tab : TabUp s.heap s'.heap
  stat : StatN s'.heap
  gens : GOK s.gens s'.gens
theorem opens_with (a D : String) : (Str.ofString (a ++ D)).opensWith (Str.ofString a) = true := by
  unfold Str.opensWith
  rw [Str.ofString_eq_toList, Str.ofString_eq_toList, String.toList_append, List.map_append]
  simp
theorem bases_first (D : String) : firstUseKey (Str.ofString s!"type.__bases__:{D}") = true := by
  have e : (s!"type.__bases__:{D}" : String) = "type.__bases__:" ++ D := by simp [toString]
  rw [e]
  have h : (Str.ofString ("type.__bases__:" ++ D)).opensWith "type.__bases__:" = true := opens_with _ _
  unfold firstUseKey
  rw [h]
  simp
theorem LawEnd.old {s s' : Shared} {ps : Array Value} (x : LawEnd s s') (tab : TabSt s.heap ps) (hs : s.heap.get? cStatics = some { cls := .none, data := .dict #[] }) : OldK s.heap s'.heap := by
  obtain ⟨more, z⟩ := x.tab ps tab
  obtain ⟨so, es, n, e1, e2, e3, e4⟩ := x.stat
  have emp : ∀ key, staticOf s.heap key = none := fun key => by simp [staticOf, hs]
  refine ⟨fun b o e => ?_, fun b o e => ?_⟩
  · by_cases h1 : b = cStatics
    · subst h1
      rw [hs] at e; cases e
      refine .inr (.inr ⟨rfl, rfl, ⟨so, es, n, e1, e2, e3, fun e he => ?_⟩, fun key => ?_⟩)
      · obtain ⟨D, t, q⟩ := e4 e he; exact ⟨_, t, q⟩
      · rw [emp key]
        cases hk : staticOf s'.heap key with
        | none => exact .inl rfl
        | some v =>
          refine .inr ⟨?_, rfl⟩
          unfold staticOf at hk
          rw [e1] at hk
          dsimp only at hk
          rw [e3] at hk
          dsimp only at hk
          obtain ⟨en, h2, _⟩ := Option.map_eq_some_iff.mp hk
          have h3 := List.find?_some (Array.find?_toList ▸ h2)
          obtain ⟨D, t, q⟩ := e4 en (Array.mem_of_find?_eq_some h2)
          rw [q] at h3
          have : Str.ofString s!"type.__bases__:{D}" = key := beq_iff_eq.mp h3
          rw [← this]
          exact bases_first D
    · by_cases h2 : b = 16
      · subst h2
        rw [tab.2.2] at e; cases e
        exact .inr (.inl ⟨tab.2.isCodeTable, rfl, ps, more, rfl, z.2.2⟩)
      · exact .inl (x.keeps b o h1 h2 e)
  · by_cases h1 : b = cStatics
    · exact ⟨so, h1 ▸ e1⟩
    · by_cases h2 : b = 16
      · exact ⟨_, h2 ▸ z.2.2⟩
      · exact ⟨o, x.keeps b o h1 h2 e⟩
theorem in_hide {w : PySem.World} {h : Heap} (X : (hd.heap_39 w.params).In h) : (hd.heap_39 w.params).In (hideAll h [16]) := fun a o e => by
  refine hideAll_get _ (X a o e) fun hm => ?_
  rcases List.mem_cons.mp hm with rfl | hm
  · have : (hd.heap_39 w.params).lookup 16 = none := by rfl
    rw [this] at e; cases e
  · cases hm
theorem hide19 {h : Heap} {b : Addr} {o : Obj} (n : b ≠ 16) (e : h.get? b = some o) : (hideAll h [16]).get? b = some o := hideAll_get _ e (by simp [n])
end Mine

open PySem PySem.W PySem.Calls PyProof.Rows
set_option Elab.async false
set_option maxRecDepth 100000
namespace Mine
theorem ns_slots {h h' : Heap} {L : Addr} {m : Str → Option Value} (n : h.Ns L m) (k : ∀ o, h.get? L = some o → ∃ sl, h'.get? L = some { o with slots := sl }) : h'.Ns L m := by
  obtain ⟨o, es, ep, h3, h4, h5⟩ := n
  obtain ⟨sl, e9⟩ := k o h3
  exact ⟨_, es, ep, e9, h4, h5⟩
/-- not the text True -/
def neT (x : Str) : Bool := x.cps.toList != ("True" : Str).cps.toList
theorem neT_told : ∀ r : Option Bool, neT (toldStr r) = !(r == some true)
  | none => by decide
  | some true => by decide
  | some false => by decide
theorem end_str (bs : List Nat) : ∀ l : List Nat, ((l.map fun k => toldStr (passO k bs)).filter neT ++ [("True" : Str)])[0]? = some (toldStr (endO bs l))
  | [] => rfl
  | k :: r => by
    rw [List.map_cons, List.filter_cons, neT_told, endO]
    cases h : passO k bs with
    | none => rfl
    | some b =>
      cases b with
      | false => rfl
      | true => exact end_str bs r
/-- what the first comprehension lays beside a leaf -/
def PassV (bs : List Nat) (v y : Value) : Prop := ∃ (k : Nat) (t t' : Tok), v = .int (k : Nat) t ∧ y = .str (toldStr (passO k bs)) t'
theorem strs_pass {bs : List Nat} : ∀ {vs ys : List Value} {ns : List Nat}, IntsAre vs (ns.map fun n : Nat => (n : Int)) → Paired (PassV bs) vs ys → StrsAre ys (ns.map fun k => toldStr (passO k bs))
  | _, _, [], hi, hp => by cases hi; cases hp; exact .nil
  | _, _, n :: ns, hi, hp => by
    rw [List.map_cons] at hi ⊢
    cases hi with
    | cons _ t r =>
      cases hp with
      | cons h r' =>
        obtain ⟨k, t1, t2, e1, rfl⟩ := h
        have e2 : n = k := by
          injection e1 with e1 _
          exact Int.ofNat.inj e1
        subst e2
        exact .cons _ _ (strs_pass r r')
def neV (v : Value) : Bool := match v with | .str x _ => neT x | _ => false
theorem strs_filter : ∀ {vs : List Value} {xs : List Str}, StrsAre vs xs → StrsAre (vs.filter neV) (xs.filter neT)
  | _, _, .nil => .nil
  | _, _, .cons y t r => by
    rw [List.filter_cons, List.filter_cons]
    have e : neV (.str y t) = neT y := rfl
    rw [e]
    cases neT y with
    | true => exact .cons y t (strs_filter r)
    | false => exact strs_filter r
theorem strs_len : ∀ {vs : List Value} {xs : List Str}, StrsAre vs xs → vs.length = xs.length
  | _, _, .nil => rfl
  | _, _, .cons y t r => by rw [List.length_cons, List.length_cons, strs_len r]
theorem strs_snoc (x : Str) (t : Tok) : ∀ {vs : List Value} {xs : List Str}, StrsAre vs xs → StrsAre (vs ++ [.str x t]) (xs ++ [x])
  | _, _, .nil => .cons x t .nil
  | _, _, .cons y u r => .cons y u (strs_snoc x t r)
theorem strs_head : ∀ {vs : List Value} {xs : List Str} {x : Str}, StrsAre vs xs → xs[0]? = some x → ∃ t, vs[0]? = some (.str x t)
  | _, _, _, .nil, e => by cases e
  | _, _, _, .cons y t r, e => by cases e; exact ⟨t, rfl⟩
theorem strs_mem : ∀ {vs : List Value} {xs : List Str} {v : Value}, StrsAre vs xs → v ∈ vs → ∃ x t, v = .str x t
  | _, _, _, .nil, h => by cases h
  | _, _, _, .cons y t r, h => by
    rcases List.mem_cons.mp h with rfl | h
    · exact ⟨y, t, rfl⟩
    · exact strs_mem r h
section
variable {prog : Program} {w : PySem.World} {A : Around} {E : Value → Shared → Prop} {s : Shared} {Q : Value → Shared → Prop} {env : Env}
/-- `[end for end in ends if end != 'True']` -/
theorem end_comp {iter : Expr} {scope : Scope} {px p1 p2 p3 p4 pos : Pos} {k1 : Nat} {aN : Addr} {wn : List Value} {xs : List Str} (hh : A.handled = none)
    (hfree : ∀ y ∈ scope.names, y.2 ≠ .free) (hcell : ∀ y ∈ scope.names, y.2 ≠ .cell) (hkind : scope.kind = .function) (hnames : ∀ y ∈ scope.names, y.2 = .local → scope.names.lookup y.1 = some .local) (hx : scope.names.lookup (Str.ofString "end") = some .local)
    (hN : s.heap.IsList aN wn.toArray) (hi : StrsAre wn xs) (hlen : wn.length ≤ 300) (hiter : ∀ Q' : Value → Shared → Prop, Q' (.ref aN) s → wpAny (model prog w) A (eval iter env) Q' E s)
    (hQ : ∀ D h' tk ys, s.heap.get? D = none → h'.IsList D (List.toArray ys) → StrsAre ys (xs.filter neT) → ys.length ≤ 300 → Kp s.heap h' → Q (.ref D) { s with heap := h', toks := tk })
    (hs : ∀ x, foldedSetIterable iter env x = pure x := by intro _; rfl) :
    wpAny (model prog w) A (eval (.ListComp (.Name "end" p1) [⟨.Name "end" px, iter, [.Compare (.Name "end" p2) [.NotEq] [.Constant (.str "True") k1 p3] p4], 0⟩] scope pos) env) Q E s := by
  refine wpAny_ListComp_map (p := neV) (F := fun v y => y = v) hh hfree hcell hkind hnames hx
    (hiter _ ⟨aN, wn.toArray, rfl, hN, by rw [sizeLine_eq]; simp; omega, fun C v s₂ m₂ E' hv hns hm hk => ?_, fun C v s₂ m₂ E' hv hp hns hm hk => ?_, fun D h' tk ys hD hl hp hk => ?_⟩) hs
  · obtain ⟨x, t, rfl⟩ := strs_mem hi (by simpa using hv)
    refine wpAny_tests_one (wpAny_isTrue_Compare1 (wpAny_Name (wpAny_loadName_local hkind hx hns hm (wpAny_Constant_str (PySem.P.ne_str (wpAny_truthy_bool ⟨rfl, _, _, rfl, fun _ _ e => e⟩))))))
  · exact wpAny_Name (wpAny_loadName_local hkind hx hns hm ⟨rfl, _, _, rfl, fun _ _ e => e⟩)
  · have e := paired_id hp
    have e1 := List.length_filter_le neV wn
    refine hQ D h' tk ys.toList hD (by simpa using hl) ?_ ?_ hk
    · rw [show ys.toList = wn.filter neV from e]; exact strs_filter hi
    · rw [show ys.toList = wn.filter neV from e]; omega
end
end Mine

open PySem PySem.W PySem.Calls PyProof.Rows
set_option Elab.async false
set_option maxRecDepth 100000
namespace Mine
theorem filled20 : (PySem.Challenge.rw_kr0026_01 = PySem.Challenge.rw_kr0026_01) ∧ (hd.heap_39 = hd.heap_39) := by
  k_fill
  exact ⟨rfl, rfl⟩
theorem paired_ints {F : Value → Value → Prop} (hF : ∀ v y, F v y → ∃ m t, y = .int m t ∧ 0 ≤ m ∧ m < 27) : ∀ {l ys : List Value}, Paired F l ys → ∃ ns, IntsAre ys ns ∧ (∀ n ∈ ns, 0 ≤ n ∧ n < 27)
  | _, _, .nil => ⟨[], .nil, fun n h => by cases h⟩
  | _, _, .cons h r => by
    obtain ⟨ns, h1, h2⟩ := paired_ints hF r
    obtain ⟨m, t, rfl, h3⟩ := hF _ _ h
    refine ⟨m :: ns, .cons m t h1, fun n hn => ?_⟩
    rcases List.mem_cons.mp hn with rfl | hn
    · exact h3
    · exact h2 n hn
theorem ints_mem {vs : List Value} {ns : List Int} (hi : IntsAre vs ns) {v : Value} (h : v ∈ vs) : ∃ n t, v = .int n t := by
  obtain ⟨i, e⟩ := List.getElem?_of_mem h
  obtain ⟨n, t, _, e'⟩ := ints_get hi i v e
  exact ⟨n, t, e'⟩
section
variable {prog : Program} {w : PySem.World} {A : Around} {E : Value → Shared → Prop} {s : Shared} {Q : Value → Shared → Prop} {env : Env}
theorem num_comp {iter : Expr} {scope : Scope} {r : Int} {px p1 p2 p3 p4 p5 p6 p7 p8 p9 p10 pos : Pos} {k1 k2 k3 k4 : Nat} {aN : Addr} {wn : List Value} {nn : List Int} (hh : A.handled = none)
    (hfree : ∀ y ∈ scope.names, y.2 ≠ .free) (hcell : ∀ y ∈ scope.names, y.2 ≠ .cell) (hkind : scope.kind = .function) (hnames : ∀ y ∈ scope.names, y.2 = .local → scope.names.lookup y.1 = some .local) (hx : scope.names.lookup (Str.ofString "x") = some .local)
    (hN : s.heap.IsList aN wn.toArray) (hi : IntsAre wn nn) (hlen : nn.length ≤ 100) (hiter : ∀ Q' : Value → Shared → Prop, Q' (.ref aN) s → wpAny (model prog w) A (eval iter env) Q' E s)
    (hQ : ∀ D h' tk ys ns, s.heap.get? D = none → h'.IsList D (List.toArray ys) → IntsAre ys ns → (∀ n ∈ ns, 0 ≤ n ∧ n < 27) → ns.length ≤ 100 → Kp s.heap h' → Q (.ref D) { s with heap := h', toks := tk })
    (hs : ∀ x, foldedSetIterable iter env x = pure x := by intro _; rfl) :
    wpAny (model prog w) A (eval (.ListComp (.BinOp (.BinOp (.Name "x" p1) .FloorDiv (.Constant (.int 2) k1 p2) p3) .Mod (.Constant (.int 27) k2 p4) p5) [⟨.Name "x" px, iter, [.Compare (.BinOp (.Name "x" p6) .Mod (.Constant (.int 2) k3 p7) p8) [.Eq] [.Constant (.int r) k4 p9] p10], 0⟩] scope pos) env) Q E s := by
  have hwl := hi.length
  refine wpAny_ListComp_map (p := fun v => match v with | .int n _ => (n.fmod 2 == r) | _ => false) (F := fun _ y => ∃ m t, y = .int m t ∧ 0 ≤ m ∧ m < 27) hh hfree hcell hkind hnames hx
    (hiter _ ⟨aN, wn.toArray, rfl, hN, by rw [sizeLine_eq]; simp; omega, fun C v s₂ m₂ E' hv hns hm hk => ?_, fun C v s₂ m₂ E' hv hp hns hm hk => ?_, fun D h' tk ys hD hl hp hk => ?_⟩) hs
  · obtain ⟨n, t, rfl⟩ := ints_mem hi (by simpa using hv)
    refine wpAny_tests_one (wpAny_isTrue_Compare1 (wpAny_BinOp (wpAny_Name (wpAny_loadName_local hkind hx hns hm (wpAny_Constant_int ?_)))))
    refine mod_int' (by decide) (wpAny_Constant_int (eq_int (wpAny_truthy_bool ⟨rfl, _, _, rfl, fun _ _ e => e⟩)))
  · obtain ⟨n, t, rfl⟩ := ints_mem hi (by simpa using hv)
    refine wpAny_BinOp (wpAny_BinOp (wpAny_Name (wpAny_loadName_local hkind hx hns hm (wpAny_Constant_int ?_))))
    refine floordiv_int (by decide) (wpAny_Constant_int (mod_int' (by decide) ⟨⟨_, _, rfl, ?_, ?_⟩, _, _, rfl, fun _ _ e => e⟩))
    · exact Int.fmod_nonneg_of_pos _ (by decide)
    · exact Int.fmod_lt_of_pos _ (by decide)
  · obtain ⟨ns, h1, h2⟩ := paired_ints (fun _ _ h => h) hp
    have e1 := hp.length
    have e2 := List.length_filter_le (fun v : Value => match v with | .int n _ => (n.fmod 2 == r) | _ => false) wn
    have e3 := h1.length
    refine hQ D h' tk ys.toList ns hD (by simpa using hl) h1 h2 ?_ hk
    have e1' : (wn.filter (fun v : Value => match v with | .int n _ => (n.fmod 2 == r) | _ => false)).length = ys.toList.length := e1
    omega
end
theorem newsSkip {h₀ h : Heap} {L : Addr} {a b : Addr × Obj} {r : List (Addr × Obj)} (N : News h₀ L h (a :: b :: r)) : News h₀ L h (a :: r) := fun p hm => by
  rcases List.mem_cons.mp hm with rfl | hm
  · exact N _ (List.mem_cons_self ..)
  · exact N _ (List.mem_cons_of_mem _ (List.mem_cons_of_mem _ hm))
theorem Fr.grow {h₀ h h' : Heap} {L : Addr} {m : Str → Option Value} (F : Fr h₀ L h m) (k : Kp h h') : Fr h₀ L h' m := ⟨F.ns.keeps k, fun b o e => k b o (F.keep b o e), F.above⟩
theorem unpack_kp {prog : Program} {w : PySem.World} {A : Around} {E : Value → Shared → Prop} {s : Shared} {t : Addr} {items : Array Value} {n : Nat} {Q : List Value → Shared → Prop} (hh : A.handled = none) (ht : IsTup s.heap t items) (hn : n = items.size)
    (h : ∀ h', Kp s.heap h' → Q items.toList { s with heap := h' }) : wpAny (model prog w) A (unpackItems (.ref t) n none) Q E s := by
  subst hn
  exact unpackItems_tuple hh ht fun h' he => h h' fun b o e => he b o (Nat.ne_of_lt (Heap.lt_size e)) e
/-- what stands behind the law's first line -/
structure Nums (H : Heap) (L : Addr) (cs : List (Addr × Obj)) (s : Shared) (f : Flow) (s' : Shared) : Prop where
  nx : f = .next
  ex : ∃ (h : Heap) (tk : Nat) (aN : Addr) (wn : List Value) (nn : List Int) (n : Nat) (m₀ : Str → Option Value), s' = { s with heap := h, toks := tk } ∧ Fr H L h (fun y => if y = "numbers" then some (.ref aN) else m₀ y) ∧ News H L h ((aN, W.listOf (List.toArray wn) n) :: cs) ∧ IntsAre wn nn ∧ nn.length ≤ 60
local macro_rules | `(tactic| walk_at "eval ListComp") => `(tactic| refine Mine.held2 ?_)
local macro_rules | `(tactic| walk_at "exec Assign cons ListComp") => `(tactic| refine Mine.held2 ?_)
local macro_rules | `(tactic| walk_at "newTuple") => `(tactic| refine Mine.held2 ?_)
local macro_rules | `(tactic| walk_at "exec If") => `(tactic| ((rename Mark => hmk'); refine Mine.held2 ?_))
local macro_rules | `(tactic| walk_at "exec For Name Call cons nil") => `(tactic| refine Mine.held2 ?_)
local macro_rules | `(tactic| walk_at "call type:range") => `(tactic| refine Mine.held2 ?_)
local macro_rules | `(tactic| walk_at "unpackItems ref") => `(tactic| refine Mine.held2 ?_)
local macro_rules | `(tactic| walk_at "assign Tuple") => `(tactic| refine Mine.held2 ?_)
local macro_rules | `(tactic| walk_at "newList") => `(tactic| ((rename Mark => hmk'); refine Mine.held2 ?_))
local macro_rules | `(tactic| walk_at "binaryOp Add") => `(tactic| refine Mine.held2 ?_)
local macro_rules | `(tactic| walk_at "storeName") => `(tactic| ((rename Mark => hmk'); refine Mine.held2 ?_))
set_option pp.deepTerms.threshold 5
set_option pp.maxSteps 30000
set_option maxHeartbeats 8000000 in
theorem law_call {prog : Program} {w : PySem.World} {mg mb : Str → Option Value} {s : Shared} {E : Value → Shared → Prop} {Q : Value → Shared → Prop} {aS : Addr} {ws : List Value} {ns : List Int}
    (D : Wd w mg mb (hideAll s.heap [16])) (hbm : ∃ bm ob, BMod (hideAll s.heap [16]) mainGlobals mg bm ob) (hS : s.heap.IsList aS ws.toArray) (hi : IntsAre ws ns) (hlen : ns.length ≤ 63) (tab : ∃ ps, TabSt s.heap ps) (hstat : s.heap.get? cStatics = some { cls := .none, data := .dict #[] })
    (hQ : ∀ s', LawEnd s s' → Q (.bool true) s') :
    wpAny (model prog w) callerA (call (.ref 73) [.ref aS]) Q E s := by
  have st : (hideAll s.heap [16]).StaysIn s.heap := fun b o e => of_hideAll _ e
  have X := (D.up st).X
  have T := (D.up st).T
  refine enterC X T.nolimit rfl rfl (by decide) rfl rfl (by decide +kernel) fun h₁ tk cells F₀ N₀ Y => ?_
  k_cells Y
  rename_i oB oK oA dB dK dA
  have F : Fr s.heap s.heap.objs.size h₁ _ := F₀
  have N : News s.heap s.heap.objs.size h₁ _ := N₀
  have D₀ := D
  have D : Wd w mg mb s.heap := D₀.up st
  clear F₀ N₀
  show wpAny _ _ _ _ _ _
  k_fold
  have c99 : cLine = 9900 := rfl
  refine wpAny_execs_cons (wpAny_mono (Q := Nums s.heap s.heap.objs.size [(s.heap.objs.size + 1 + 1 + 1, oB), (s.heap.objs.size + 1 + 1, oK), (s.heap.objs.size + 1, oA)] s) (E := ek) ?first ?rest fun _ _ e => e)
  case first =>
    k_steps
    · rename_i F₉ N₉
      refine ⟨rfl, _, _, _, _, [12, 46, 8, 46, 50, 18, 9, 47, 5, 37, 10, 24], _, _, rfl, F₉, newsSkip N₉, by repeat constructor, by decide⟩
    · rename_i F₉ N₉
      refine ⟨rfl, _, _, _, _, ns.take 60, _, _, rfl, F₉, newsSkip N₉, by assumption, by rw [List.length_take]; omega⟩
  case rest =>
    rintro f s' ⟨rfl, h₂, tk₂, aN, wn, nn, n, m₀, rfl, F₂, N₂, hin, hnl⟩
    clear F N
    dsimp only
    k_steps
    rename_i _ _ _ h₃ F₃ N₃
    refine ⟨?_⟩
    refine num_comp (aN := aN) rfl (by decide) (by decide) rfl (by decide) rfl (N₃.isList (List.mem_cons_self ..)) hin (by omega) (fun Q' h => nameX_L F₃ rfl h) fun D₁ h₄ tk₄ ys₁ ns₁ hD₁ hl₁ hi₁ hb₁ hlen₁ hk₁ => ?_
    have F₄ := Fr.grow F₃ hk₁
    have N₄ := N₃.grown hk₁
    clear F₃ N₃
    k_steps
    refine tree_call (D.up F₄.keep) (show callerA.depth + 1 < 800 by decide) rfl hl₁ hi₁ hb₁ hlen₁ fun v₁ h₅ tk₅ t₁ hk₂ ht₁ hz₁ => ?_
    have F₅ := Fr.grow F₄ hk₂
    have N₅ := N₄.grown hk₂
    clear F₄ N₄
    refine wpAny_storeName_local rfl F₅.ns (fun h₆ hn₆ hs₆ => ?_) rfl
    have ht₁' := TreeAt.monoS (fun b xs n e => hs₆.extBut b _ (seq_ne_ns e F₅.ns) e) _ _ ht₁
    have F₆ := F₅.set hn₆ hs₆
    have N₆ := N₅.set hs₆
    clear F₅ N₅ hn₆
    k_steps
    refine ⟨?_⟩
    refine num_comp (aN := aN) rfl (by decide) (by decide) rfl (by decide) rfl (N₆.isList (List.mem_cons_self ..)) hin (by omega) (fun Q' h => nameX_L F₆ rfl h) fun D₂ h₇ tk₇ ys₂ ns₂ hD₂ hl₂ hi₂ hb₂ hlen₂ hk₃ => ?_
    have F₇ := Fr.grow F₆ hk₃
    have N₇ := N₆.grown hk₃
    clear F₆ N₆
    k_steps
    refine tree_call (D.up F₇.keep) (show callerA.depth + 1 < 800 by decide) rfl hl₂ hi₂ hb₂ hlen₂ fun v₂ h₈ tk₈ t₂ hk₄ ht₂ hz₂ => ?_
    have F₈ := Fr.grow F₇ hk₄
    have N₈ := N₇.grown hk₄
    clear F₇ N₇
    have ht₁₈ := TreeAt.monoS (fun b xs n e => hk₄ b _ (hk₃ b _ e)) _ _ ht₁'
    refine wpAny_storeName_local rfl F₈.ns (fun h₉ hn₉ hs₉ => ?_) rfl
    have ht₁₉ := TreeAt.monoS (fun b xs n e => hs₉.extBut b _ (seq_ne_ns e F₈.ns) e) _ _ ht₁₈
    have ht₂₉ := TreeAt.monoS (fun b xs n e => hs₉.extBut b _ (seq_ne_ns e F₈.ns) e) _ _ ht₂
    have F₉ := F₈.set hn₉ hs₉
    have N₉ := N₈.set hs₉
    clear F₈ N₈ hn₉ ht₁ ht₁' ht₁₈ ht₂
    k_steps
    refine things_call (D.up F₉.keep) (show callerA.depth + 1 < 800 by decide) rfl fun aT vT nT h₁₀ tk₁₀ hk₁₀ fT gT lT tT => ?_
    have F₁₀ := Fr.grow F₉ hk₁₀
    have N₁₀ := N₉.grown hk₁₀
    clear F₉ N₉
    k_steps
    refine above_call (D.up F₁₀.keep) (show callerA.depth + 1 < 800 by decide) rfl fun aA h₁₁ tk₁₁ hk₁₁ fA rA => ?_
    have F₁₁ := Fr.grow F₁₀ hk₁₁
    have N₁₁ := N₁₀.grown hk₁₁
    have C₁₁ : Cells3 s.heap s.heap.objs.size h₁₁ _ _ _ := ⟨⟨oB, N₁₁.get (List.mem_cons_of_mem _ (List.mem_cons_self ..)), dB⟩, ⟨oK, N₁₁.get (List.mem_cons_of_mem _ (List.mem_cons_of_mem _ (List.mem_cons_self ..))), dK⟩, ⟨oA, N₁₁.get (List.mem_cons_of_mem _ (List.mem_cons_of_mem _ (List.mem_cons_of_mem _ (List.mem_cons_self ..)))), dA⟩,
      N₁₁.fresh (List.mem_cons_of_mem _ (List.mem_cons_self ..)), N₁₁.fresh (List.mem_cons_of_mem _ (List.mem_cons_of_mem _ (List.mem_cons_self ..))), N₁₁.fresh (List.mem_cons_of_mem _ (List.mem_cons_of_mem _ (List.mem_cons_of_mem _ (List.mem_cons_self ..))))⟩
    have up₁₁ : Kq h₉ h₁₁ := Kq.of fun b o e => hk₁₁ b o (hk₁₀ b o e)
    have ht₁₁ := ht₁₉.monoQ up₁₁
    have ht₂₁ := ht₂₉.monoQ up₁₁
    have tT₁ : ∀ i v, vT[i]? = some v → Thing h₁₁ i v := fun i v e => (tT i v e).mono hk₁₁
    have gT₁ := hk₁₁ _ _ gT
    clear F₁₀ N₁₀ ht₁₉ ht₂₉ tT gT
    k_steps
    refine ⟨wpAny_newTuple ?_⟩
    dsimp only
    obtain ⟨h₁₂, e₁₂⟩ : ∃ h, h = h₁₁.push { cls := .type "tuple", data := .seq [Value.ref aT, .ref aA].toArray } := ⟨_, rfl⟩
    rw [← e₁₂]
    have k₁₂ : Kp h₁₁ h₁₂ := fun b o e => e₁₂ ▸ Heap.get?_push_of_some _ e
    have hTup : IsTup h₁₂ h₁₁.objs.size #[Value.ref aT, .ref aA] := ⟨_, e₁₂ ▸ Heap.get?_push_size _ rfl, rfl, _, rfl⟩
    have F₁₂ := Fr.grow F₁₁ k₁₂
    have N₁₂ := N₁₁.grown k₁₂
    clear F₁₁ N₁₁
    k_steps
    refine ⟨assign_Tuple_tuple (by rfl) hTup (by rfl) (by rfl) fun h₁₃ he₁₃ => ?_⟩
    have k₁₃ : Kp h₁₂ h₁₃ := fun b o e => he₁₃ b o (Nat.ne_of_lt (Heap.lt_size e)) e
    have F₁₃ := Fr.grow F₁₂ k₁₃
    have N₁₃ := N₁₂.grown k₁₃
    clear F₁₂ N₁₂
    have hmk : Mark := trivial
    k_steps
    refine ⟨wpAny_storeName_local rfl F₁₃.ns (fun h₁₄ hn₁₄ hs₁₄ => ?_) rfl⟩
    have F₁₄ := F₁₃.set hn₁₄ hs₁₄
    have N₁₄ := N₁₃.set hs₁₄
    have C₁₄ := (C₁₁.keep fun b o _ e => k₁₃ b o (k₁₂ b o e)).store hs₁₄
    have q₁₄ : Kq h₁₁ h₁₄ := ((Kq.of k₁₂).trans (Kq.of k₁₃)).trans (kq_ns F₁₃.ns hs₁₄)
    clear F₁₃ N₁₃ hn₁₄ C₁₁
    k_steps
    refine ⟨wpAny_storeName_cell rfl rfl (c := s.heap.objs.size + 1) (by rfl) C₁₄.a fun h₁₅ hc₁₅ hs₁₅ => ?_⟩
    have F₁₅ := Fr.cell F₁₄ hs₁₅ C₁₄.fa (neN (by omega))
    have C₁₅ := C₁₄.setA hs₁₅ hc₁₅
    have q₁₅ : Kq h₁₁ h₁₅ := q₁₄.trans (kq_cell C₁₄.a hs₁₅)
    have ht₁₅ := ht₁₁.monoQ q₁₅
    have ht₂₅ := ht₂₁.monoQ q₁₅
    have tT₅ : ∀ i v, vT[i]? = some v → Thing h₁₅ i v := fun i v e => (tT₁ i v e).monoQ q₁₅
    have gT₅ := q₁₅ _ _ pl_seq gT₁
    have rA₅ := rA.monoQ q₁₅
    have N₁₅ := News.nil (h₀ := s.heap) (h := h₁₅) (L := s.heap.objs.size)
    clear F₁₄ N₁₄ C₁₄ ht₁₁ ht₂₁ tT₁ gT₁ rA
    k_steps
    refine real_call (W₀ := h₁₅) (D.up F₁₅.keep) gT₅ lT tT₅ t₁ _ _ _ _ _ (fun _ _ e => e) ht₁₅ ?_ rfl (by omega) fun vE h₁₆ tk₁₆ k₁₆ hE₁₆ => ?_
    · have := Mine.T.ht_sz t₁
      have hd9 : callerA.depth + 1 < 600 := by decide
      show callerA.depth + 1 + t₁.ht < 800
      omega
    have hlt₁ := leaves_lt t₁ v₁ ht₁₅
    have hls₁ := leaves_sz t₁
    have F₁₆ := Fr.grow F₁₅ k₁₆
    have N₁₆ := News.nil (h₀ := s.heap) (h := h₁₆) (L := s.heap.objs.size)
    have ht₁₆ := ht₁₅.monoQ (Kq.of k₁₆)
    clear F₁₅ N₁₅
    k_steps
    refine leaves_call (D.up F₁₆.keep) (show callerA.depth + 1 < 800 by decide) rfl (show callerA.units + 3 < 100 by decide) ht₁₆ (by omega) fun aL wL h₁₇ tk₁₇ k₁₇ fL pL iL => ?_
    have F₁₇ := Fr.grow F₁₆ k₁₇
    have N₁₇ := News.nil (h₀ := s.heap) (h := h₁₇) (L := s.heap.objs.size)
    clear F₁₆ N₁₆
    k_steps
    refine ⟨wpAny_newTuple ?_⟩
    dsimp only
    obtain ⟨h₁₈, e₁₈⟩ : ∃ h, h = h₁₇.push { cls := .type "tuple", data := .seq [vE, .ref aL].toArray } := ⟨_, rfl⟩
    rw [← e₁₈]
    have k₁₈ : Kp h₁₇ h₁₈ := fun b o e => e₁₈ ▸ Heap.get?_push_of_some _ e
    have hTup₂ : IsTup h₁₈ h₁₇.objs.size #[vE, .ref aL] := ⟨_, e₁₈ ▸ Heap.get?_push_size _ rfl, rfl, _, rfl⟩
    have F₁₈ := Fr.grow F₁₇ k₁₈
    have N₁₈ := News.nil (h₀ := s.heap) (h := h₁₈) (L := s.heap.objs.size)
    clear F₁₇ N₁₇
    k_steps
    refine ⟨unpack_kp (by rfl) hTup₂ (by rfl) fun h₁₉ k₁₉ => ?_⟩
    have F₁₉ := Fr.grow F₁₈ k₁₉
    have N₁₉ := News.nil (h₀ := s.heap) (h := h₁₉) (L := s.heap.objs.size)
    clear F₁₈ N₁₈
    k_steps
    refine ⟨wpAny_storeName_local rfl F₁₉.ns (fun h₂₀ hn₂₀ hs₂₀ => ?_) rfl⟩
    have F₂₀ := F₁₉.set hn₂₀ hs₂₀
    have N₂₀ := News.nil (h₀ := s.heap) (h := h₂₀) (L := s.heap.objs.size)
    have K₁₉ : Kp h₁₅ h₁₉ := fun b o e => k₁₉ b o (k₁₈ b o (k₁₇ b o (k₁₆ b o e)))
    have q₂₀ := kq_ns F₁₉.ns hs₂₀
    have C₂₀ := (C₁₅.keep fun b o _ e => K₁₉ b o e).store hs₂₀
    clear F₁₉ N₁₉ hn₂₀
    k_steps
    refine ⟨wpAny_storeName_local rfl F₂₀.ns (fun h₂₁ hn₂₁ hs₂₁ => ?_) rfl⟩
    have F₂₁ := F₂₀.set hn₂₁ hs₂₁
    have C₂₁ := C₂₀.store hs₂₁
    have q₂₁ : Kq h₁₉ h₂₁ := Kq.trans q₂₀ (kq_ns F₂₀.ns hs₂₁)
    have Q₂₁ : Kq h₁₅ h₂₁ := (Kq.of K₁₉).trans q₂₁
    have ht₂' := ht₂₅.monoQ Q₂₁
    have gT' := Q₂₁ _ _ pl_seq gT₅
    have tT' : ∀ i v, vT[i]? = some v → Thing h₂₁ i v := fun i v e => (tT₅ i v e).monoQ Q₂₁
    have rA' := rA₅.monoQ Q₂₁
    have Q₁₆ : Kq h₁₆ h₂₁ := (Kq.of fun b o e => k₁₉ b o (k₁₈ b o (k₁₇ b o e))).trans q₂₁
    have hE' := hE₁₆.monoQ Q₁₆
    have pL' := pll_q ((Kq.of fun b o e => k₁₉ b o (k₁₈ b o e)).trans q₂₁) pL
    clear F₂₀ N₂₀ hn₂₁ ht₂₅ gT₅ tT₅ rA₅ hE₁₆ pL
    dsimp only
    have N₂₁ := News.nil (h₀ := s.heap) (h := h₂₁) (L := s.heap.objs.size)
    k_steps
    refine ⟨wpAny_For (hs := by with_unfolding_all (intro _; rfl)) ?_⟩
    k_steps
    refine ⟨range18 fun h₂₂ It tk₂₂ k₂₂ it₂₂ fIt => ?_⟩
    dsimp only
    have F₂₂ := Fr.grow F₂₁ k₂₂
    obtain ⟨mz, F₂₃⟩ : ∃ mz : Str → Option Value, Fr s.heap s.heap.objs.size h₂₂ (fun y => if y = "expected" then some vE else if y = "leaves" then some (.ref aL) else if y = "things" then some (.ref aT) else if y = "second" then some v₂ else mz y) := ⟨_, F₂₂⟩
    have e₀ : (fun y : Str => if y = "bad" then mz "bad" else if y = "expected" then some vE else if y = "leaves" then some (.ref aL) else if y = "things" then some (.ref aT) else if y = "second" then some v₂ else mz y) = (fun y : Str => if y = "expected" then some vE else if y = "leaves" then some (.ref aL) else if y = "things" then some (.ref aT) else if y = "second" then some v₂ else mz y) := by
      funext y
      by_cases h1 : y = "bad"
      · subst h1; rfl
      · rw [if_neg h1]
    have C₂₂ := C₂₁.keep fun b o _ e => k₂₂ b o e
    have fIt0 : s.heap.get? It = none := by
      cases q : s.heap.get? It with
      | none => rfl
      | some o => have := F₂₁.keep _ _ q; dsimp only at fIt; rw [this] at fIt; cases fIt
    clear F₂₁ N₂₁ F₂₂ C₂₁
    have tab₂₂ : ∃ ps, TabSt h₂₂ ps := by obtain ⟨ps, z⟩ := tab; exact ⟨ps, z.at (F₂₃.keep 20) (F₂₃.keep 16)⟩
    have base : ∀ b o, Pl o → h₂₁.get? b = some o → b ≠ 16 ∧ b ≠ s.heap.objs.size ∧ b ≠ s.heap.objs.size + 1 + 1 ∧ b ≠ It := fun b o p e => by
      have e2 := k₂₂ b o e
      refine ⟨fun q => ?_, fun q => ?_, fun q => ?_, fun q => ?_⟩
      · obtain ⟨ps, z⟩ := tab₂₂
        rw [q, z.2.2] at e2; cases e2; exact p.three rfl
      · obtain ⟨o', es, ep, h3, h4, _⟩ := F₂₃.ns
        rw [q, h3] at e2; cases e2; exact p.one _ _ h4
      · obtain ⟨o', h3, h4⟩ := C₂₂.k
        rw [q, h3] at e2; cases e2; exact p.two _ h4
      · rw [q, fIt] at e; cases e
    have nA19 : (s.heap.objs.size + 1 : Addr) ≠ 16 := fun q => by
      obtain ⟨ps, z⟩ := tab₂₂
      obtain ⟨o, e1, e2⟩ := C₂₂.a
      rw [q, z.2.2] at e1; cases e1; cases e2
    have nAIt : (s.heap.objs.size + 1 : Addr) ≠ It := fun q => by
      obtain ⟨o, e1, e2⟩ := C₂₂.a
      rw [q, it₂₂] at e1; cases e1; cases e2
    have nKIt : (s.heap.objs.size + 1 + 1 : Addr) ≠ It := fun q => by
      obtain ⟨o, e1, e2⟩ := C₂₂.k
      rw [q, it₂₂] at e1; cases e1; cases e2
    have nLIt : (s.heap.objs.size : Addr) ≠ It := riter_ne_ns it₂₂ F₂₃.ns
    have n20It : (20 : Addr) ≠ It := fun q => by
      obtain ⟨ps, z⟩ := tab₂₂
      obtain ⟨⟨o, vs, e1, e2, _⟩, _⟩ := z.2
      rw [q, it₂₂] at e1; cases e1; injection e2 with e2; exact absurd e2 (by decide)
    have n19It : (16 : Addr) ≠ It := fun q => by
      obtain ⟨ps, z⟩ := tab₂₂
      have e1 := z.2.2
      rw [q, it₂₂] at e1; cases e1
    refine forR (J := fun i s' => LoopAt ⟨h₂₂, s.gens, s.drawn, tk₂₂, s.os⟩ s.heap.objs.size It (fun pb y => if y = "bad" then pb else if y = "expected" then some vE else if y = "leaves" then some (.ref aL) else if y = "things" then some (.ref aT) else if y = "second" then some v₂ else mz y) s') ?hh ?hJ ?turn ?fin 18 0 _ rfl (Nat.zero_le _) it₂₂ ?init
    case hh => rfl
    case init => exact ⟨⟨_, _, _, rfl⟩, fun _ _ _ _ _ _ e => e, .refl _, .refl _, ⟨mz "bad", by rw [e₀]; exact F₂₃.ns⟩, ⟨_, C₂₂.k⟩⟩
    case hJ =>
      rintro i s' h' tk' ⟨⟨_, _, _, rfl⟩, kk, tb, gn, ⟨pb, nsx⟩, ⟨v, ⟨o, c1, c2⟩⟩⟩ hIt he
      exact ⟨⟨_, _, _, rfl⟩, fun b o n1 n2 n3 n4 e => he b o n4 (kk b o n1 n2 n3 n4 e), tb.trans (.of (fun o e => he 20 o n20It e) (fun o e => he 16 o n19It e)), gn, ⟨pb, nsx.at' fun o e => he _ o nLIt e⟩, ⟨v, o, he _ _ nKIt c1, c2⟩⟩
    case turn =>
      rintro i tki s' hi18 it' ⟨sm, kk, tb, gn, ⟨pb, nsx⟩, ⟨vK, cx⟩⟩
      refine wpAny_storeName_cell rfl rfl (c := s.heap.objs.size + 1 + 1) (by rfl) cx fun h₃₀ c₃₀ hs₃₀ => ?_
      dsimp only
      have q₃₀ : Kq h₂₁ h₃₀ := Kq.trans (fun b o p e => kk b o (base b o p e).1 (base b o p e).2.1 (base b o p e).2.2.1 (base b o p e).2.2.2 (k₂₂ b o e)) (kq_cell cx hs₃₀)
      have rA₃ := rA'.monoQ q₃₀
      have pL₃ := pll_q q₃₀ pL'
      have nsL : h₃₀.Ns s.heap.objs.size _ := nsx.sameBut hs₃₀ (neN (by omega))
      have cA₃ : h₃₀.IsCell (s.heap.objs.size + 1) (some (.ref aA)) := by
        obtain ⟨o, e1, e2⟩ := C₂₂.a
        exact ⟨o, hs₃₀.extBut _ _ (neN (by omega)) (kk _ _ nA19 (neN (by omega)) (neN (by omega)) nAIt e1), e2⟩
      k_steps
      refine ⟨wpAny_Assign_ListComp_free (p := badV i) (F := fun v y => y = v) (cl := [("kind", s.heap.objs.size + 1 + 1), ("above", s.heap.objs.size + 1)]) (by rfl) (by rfl) (by decide) rfl (by decide) (by decide) rfl rfl ?_⟩
      refine wpAny_Name (wpAny_loadName_local rfl rfl nsL (by rfl) ?_)
      refine wpAny_pyIter_list pL₃.isList ?_
      have aLt : aL < h₃₀.objs.size := by obtain ⟨_, e⟩ := pL₃; exact Heap.lt_size e
      have Llt : s.heap.objs.size < h₃₀.objs.size := by obtain ⟨_, _, _, e, _⟩ := nsL; exact Heap.lt_size e
      have wll := iL.length
      rw [List.length_map] at wll
      refine ⟨h₃₀.objs.size, [h₃₀.objs.size, aL], [h₃₀.objs.size], wL.toArray.size, _, _, _, rfl, Walks.list rfl h₃₀.objs.size aL (Nat.ne_of_lt aLt) wL.toArray, ?_, ⟨⟨_, Heap.get?_push_size _ rfl, rfl, rfl⟩, pL₃.isList.push _⟩, ?_, ?_, nsL.keeps fun _ _ e => Heap.get?_push_of_some _ e, ⟨?_, ?_⟩, ?_⟩
      · rw [sizeLine_eq, List.size_toArray]; omega
      · intro b hb
        dsimp only
        rw [Heap.size_push]
        rcases List.mem_cons.mp hb with rfl | hb
        · exact Nat.lt_succ_self _
        · rcases List.mem_cons.mp hb with rfl | hb
          · exact Nat.lt_succ_of_lt aLt
          · cases hb
      · intro hm
        rcases List.mem_cons.mp hm with q | hm
        · exact absurd q (Nat.ne_of_lt Llt)
        · cases hm
      · intro C j v s₃ m₃ E' hC hP hns hm hk htk
        obtain ⟨nj, tj, hj, rfl⟩ := ints_get iL j v (by simpa using hP)
        rw [List.getElem?_map] at hj
        obtain ⟨b, hb, rfl⟩ := Option.map_eq_some_iff.mp hj
        have hb23 := hlt₁ b (List.mem_of_getElem? hb)
        have up : Kp h₃₀ s₃.heap := fun d o e => hk d o (fun hm => by
          rcases List.mem_cons.mp hm with q | hm
          · rw [q] at e; exact absurd (Heap.lt_size e) (Nat.lt_irrefl _)
          · cases hm) (Heap.get?_push_of_some _ e)
        obtain ⟨oK', k1, k2⟩ := c₃₀
        obtain ⟨oA', a1, a2⟩ := cA₃
        refine wpAny_tests_one ?_
        refine bad_test (n := b) (by rfl) (by rfl) (by rfl) (by rfl) (cK := s.heap.objs.size + 1 + 1) (cA := s.heap.objs.size + 1) (by rfl) (by rfl) hns hm ⟨oK', up _ _ k1, k2⟩ ⟨oA', up _ _ a1, a2⟩ (rA₃.monoQ (Kq.of up)) fun tk' => ?_
        exact ⟨rfl, _, _, rfl, fun _ _ e => e⟩
      · intro C j v s₃ m₃ E' hC hP hp hns hm hk htk
        exact wpAny_Name (wpAny_loadName_local rfl (by rfl) hns hm ⟨rfl, _, _, rfl, fun _ _ e => e⟩)
      · intro D₄ h₃₁ tk₃₁ ys vs hD₄ hl₄ hpl₄ hlen₄ hP₄ hF₄ hns₄ hk₄
        dsimp only
        k_steps
        refine ⟨wpAny_If ?_⟩
        have k31 : ∀ b o, b ≠ s.heap.objs.size → h₃₀.get? b = some o → h₃₁.get? b = some o := fun b o n e => hk₄ b o n (fun hm => by
          rcases List.mem_cons.mp hm with q | hm
          · rw [q] at e; exact absurd (Heap.lt_size e) (Nat.lt_irrefl _)
          · cases hm) (Heap.get?_push_of_some _ e)
        have lt16 : 16 < s.heap.objs.size := by obtain ⟨ps, z⟩ := tab; exact Heap.lt_size z.2.2
        have lt20 : 20 < s.heap.objs.size := by obtain ⟨ps, z⟩ := tab; obtain ⟨⟨o, vs, q, _⟩, _⟩ := z.2; exact Heap.lt_size q
        have ltS : cStatics < s.heap.objs.size := Heap.lt_size hstat
        have low : ∀ b o, b ≠ 16 → s.heap.get? b = some o → h₃₁.get? b = some o := fun b o n e => by
          have hb := ltN (Heap.lt_size e)
          exact k31 b o (neN (by omega)) (hs₃₀.extBut b o (neN (by omega)) (kk b o n (neN (by omega)) (neN (by omega)) (fun q => by rw [q, fIt0] at e; cases e) (F₂₃.keep b o e)))
        have q31 : Kq h₃₀ h₃₁ := fun b o p e => k31 b o (fun q => by
          obtain ⟨o', es, ep, h3, h4, _⟩ := nsL
          rw [q, h3] at e; cases e; exact p.one _ _ h4) e
        have t31 : ∃ ps, TabSt h₃₁ ps := by
          obtain ⟨ps, z⟩ := tab₂₂
          obtain ⟨more, z'⟩ := tb ps z
          exact ⟨_, z'.at (fun o e => k31 _ o (neN (by omega)) (hs₃₀.extBut _ o (neN (by omega)) e)) (fun o e => k31 _ o (neN (by omega)) (hs₃₀.extBut _ o (neN (by omega)) e))⟩
        have hide : Kq h₃₁ (hideAll h₃₁ [16, s.heap.objs.size]) := kq_hide fun a ha o e p => by
          rcases List.mem_cons.mp ha with rfl | ha
          · obtain ⟨ps, z⟩ := t31
            rw [z.2.2] at e; cases e; exact p.three rfl
          · rcases List.mem_cons.mp ha with rfl | ha
            · obtain ⟨o', es, ep, h3, h4, _⟩ := hns₄
              rw [show (h₃₁.get? s.heap.objs.size) = some o' from h3] at e; cases e; exact p.one _ _ h4
            · cases ha
        have qW : Kq h₂₁ (hideAll h₃₁ [16, s.heap.objs.size]) := (q₃₀.trans q31).trans hide
        have lowW : ∀ b o, (hideAll s.heap [16]).get? b = some o → (hideAll h₃₁ [16, s.heap.objs.size]).get? b = some o := fun b o e => by
          have e' := of_hideAll _ e
          have n16 : b ≠ 16 := fun q => by rw [q, hideAll_none _ (by simp)] at e; cases e
          have hb := ltN (Heap.lt_size e')
          refine hideAll_get _ (low b o n16 e') fun hm => ?_
          rcases List.mem_cons.mp hm with q | hm
          · exact n16 q
          · rcases List.mem_cons.mp hm with q | hm
            · rw [q] at hb; omega
            · cases hm
        have WO : Wo w mg mb (hideAll h₃₁ [16, s.heap.objs.size]) := ⟨D₀.up lowW, hideAll_none _ (by simp), lowW _ _ (hide19 (by decide) hstat), by obtain ⟨bm, ob, z⟩ := hbm; exact ⟨bm, ob, z.keeps lowW⟩⟩
        obtain ⟨nB, gB⟩ := hpl₄
        have evs : vs = wL := by
          refine List.ext_getElem? fun j => ?_
          cases e : vs[j]? with
          | some v => have := hP₄ j v e; simp at this; exact this.symm
          | none =>
            have h1 := List.getElem?_eq_none_iff.mp e
            rw [hlen₄, List.size_toArray] at h1
            exact (List.getElem?_eq_none_iff.mpr h1).symm
        have eys := paired_id hF₄
        rw [evs] at eys
        have eB : ys.toList.isEmpty = (t₁.leaves.filter (badO i)).isEmpty := by rw [eys]; exact badV_filter i iL
        have ht1 := Mine.T.ht_sz t₁
        have aB16 : D₄ ≠ 16 := fun q => by
          obtain ⟨ps, z⟩ := tab₂₂
          obtain ⟨more, z'⟩ := tb ps z
          have e1 := Heap.get?_push_of_some { cls := .type "list_iterator", data := .fields #[.ref aL, .int 0 0] } (hs₃₀.extBut 16 _ (neN (by omega)) z'.2.2)
          rw [q] at hD₄
          rw [show _ = some _ from e1] at hD₄; cases hD₄
        refine kind_test (W₀ := hideAll h₃₁ [16, s.heap.objs.size]) (t := t₁) (vE := vE) (aT := aT) (vT := vT) (nT := nT) (aBad := D₄) (bad := ys.toList) (nB := nB) (cK := s.heap.objs.size + 1 + 1) (L := s.heap.objs.size) (k := i) (tk := tki)
          WO rfl (by rfl) (by rfl) (by rfl) (by rfl) (by rfl) (by rfl) (by rfl) rfl rfl (Around.frames_deeper rfl) rfl rfl (fun b o e => of_hideAll _ e) t31 rfl ?_ (show callerA.units + 3 < 90 by decide) (by omega) (hideAll_none _ (by simp)) (neN (by omega)) (neN (by omega)) aB16
          hns₄ (by rfl) (by rfl) (by rfl) ?_ hi18 ?_ ?_ lT ?_ ?_ eB fun s₃ g => ?_
        · have : callerA.depth + 1 < 600 := by decide
          show callerA.depth + 1 + 2 * t₁.ht + 3 < 1000
          omega
        · obtain ⟨o, e1, e2⟩ := c₃₀
          exact ⟨o, k31 _ _ (neN (by omega)) e1, e2⟩
        · exact TreeAt.mono (fun b o e _ => e) (fun n v y => y.monoQ (Q₂₁.trans qW)) _ _ (hE'.monoQ qW)
        · exact qW _ _ pl_seq gT'
        · exact fun i v e => (tT' i v e).monoQ qW
        · dsimp only; rw [gB]
        rw [if_neg (by decide)]
        refine wpAny_execs_nil ?_
        refine wpAny_execs_nil ?_
        have gk : ∀ b o, b ≠ 16 → b ≠ s.heap.objs.size → b ≠ s.heap.objs.size + 1 + 1 → s'.heap.get? b = some o → s₃.heap.get? b = some o := fun b o n1 n2 n3 e => g.keeps b o n1 (k31 b o n2 (hs₃₀.extBut b o n3 e))
        refine ⟨gk _ _ (Ne.symm n19It) (Ne.symm nLIt) (Ne.symm nKIt) it', ⟨?_, fun b o n1 n2 n3 n4 e => gk b o n1 n2 n3 (kk b o n1 n2 n3 n4 e), (tb.trans (.of (fun o e => k31 _ o (neN (by omega)) (hs₃₀.extBut _ o (neN (by omega)) e)) (fun o e => k31 _ o (neN (by omega)) (hs₃₀.extBut _ o (neN (by omega)) e)))).trans g.tab, gn.trans g.gens, ⟨some (.ref D₄), ?_⟩, ⟨some (.int (i : Nat) tki), ?_⟩⟩⟩
        · obtain ⟨_, _, _, rfl⟩ := sm
          obtain ⟨_, _, _, rfl⟩ := g.same
          exact ⟨_, _, _, rfl⟩
        · have e : (fun z : Str => if z = "bad" then some (Value.ref D₄) else if z = "bad" then pb else if z = "expected" then some vE else if z = "leaves" then some (.ref aL) else if z = "things" then some (.ref aT) else if z = "second" then some v₂ else mz z) = (fun y : Str => if y = "bad" then some (Value.ref D₄) else if y = "expected" then some vE else if y = "leaves" then some (.ref aL) else if y = "things" then some (.ref aT) else if y = "second" then some v₂ else mz y) := by
            funext y
            by_cases h1 : y = "bad" <;> simp [h1]
          have L16 : (s.heap.objs.size : Addr) ≠ 16 := neN (by omega)
          have n := hns₄.at' (h' := s₃.heap) fun o e => g.keeps _ o L16 e
          rw [← e]
          exact n
        · obtain ⟨o, e1, e2⟩ := c₃₀
          exact ⟨o, g.keeps _ _ (neN (by omega)) (k31 _ _ (neN (by omega)) e1), e2⟩
    case fin =>
      rintro s' ⟨⟨hF, tkF, gsF, rfl⟩, kk, tb, gn, ⟨pb, nsx⟩, ⟨vK, cx⟩⟩
      dsimp only at kk tb gn nsx cx ⊢
      have lt16 : 16 < s.heap.objs.size := by obtain ⟨ps, z⟩ := tab; exact Heap.lt_size z.2.2
      have lt20 : 20 < s.heap.objs.size := by obtain ⟨ps, z⟩ := tab; obtain ⟨⟨o, vs, q, _⟩, _⟩ := z.2; exact Heap.lt_size q
      have ltS : cStatics < s.heap.objs.size := Heap.lt_size hstat
      have low : ∀ b o, b ≠ 16 → s.heap.get? b = some o → hF.get? b = some o := fun b o n e => by
        have hb := ltN (Heap.lt_size e)
        exact kk b o n (neN (by omega)) (neN (by omega)) (fun q => by rw [q, fIt0] at e; cases e) (F₂₃.keep b o e)
      have FF : Fr (hideAll s.heap [16]) s.heap.objs.size hF _ := ⟨nsx, fun b o e => low b o (fun q => by rw [q, hideAll_none _ (by simp)] at e; cases e) (of_hideAll _ e), Nat.le_of_eq (hideAll_size _ _)⟩
      have qF : Kq h₂₁ hF := fun b o p e => kk b o (base b o p e).1 (base b o p e).2.1 (base b o p e).2.2.1 (base b o p e).2.2.2 (k₂₂ b o e)
      have rAF := rA'.monoQ qF
      have pLF := pll_q qF pL'
      have htF := ht₂'.monoQ qF
      have gTF := qF _ _ pl_seq gT'
      have tTF : ∀ i v, vT[i]? = some v → Thing hF i v := fun i v e => (tT' i v e).monoQ qF
      have hEF := hE'.monoQ qF
      have QF := Q₂₁.trans qF
      have cAF : hF.IsCell (s.heap.objs.size + 1) (some (.ref aA)) := by
        obtain ⟨o, e1, e2⟩ := C₂₂.a
        exact ⟨o, kk _ _ nA19 (neN (by omega)) (neN (by omega)) nAIt e1, e2⟩
      have cBF : ∃ v, hF.IsCell (s.heap.objs.size + 1 + 1 + 1) v := by
        obtain ⟨o, e1, e2⟩ := C₂₂.b
        exact ⟨_, o, kk _ _ (neN (by omega)) (neN (by omega)) (neN (by omega)) (fun q => by rw [q, it₂₂] at e1; cases e1; cases e2) e1, e2⟩
      have tabF : ∃ ps, TabSt hF ps := by
        obtain ⟨ps, z⟩ := tab₂₂
        obtain ⟨more, z'⟩ := tb ps z
        exact ⟨_, z'⟩
      have up₂₂ : TabUp s.heap h₂₂ := .of (fun o => F₂₃.keep 20 o) (fun o => F₂₃.keep 16 o)
      have X₀ := D₀.X
      have T₀ := D₀.T
      have NF := News.nil (h₀ := hideAll s.heap [16]) (h := hF) (L := s.heap.objs.size)
      clear X T D F₂₃ rA' pL' ht₂' gT' tT' hE' nsx
      k_steps
      refine leaves_call (D₀.up FF.keep) (show callerA.depth + 1 < 800 by decide) rfl (show callerA.units + 3 < 100 by decide) htF (by omega) fun aB wB h₄₀ tk₄₀ k₄₀ fB pB iB => ?_
      dsimp only at k₄₀ fB
      obtain ⟨vB, cBF⟩ := cBF
      have cB₄₀ : h₄₀.IsCell (s.heap.objs.size + 1 + 1 + 1) vB := let ⟨o, e1, e2⟩ := cBF; ⟨o, k₄₀ _ _ e1, e2⟩
      refine wpAny_storeName_cell rfl rfl (c := s.heap.objs.size + 1 + 1 + 1) (by rfl) cB₄₀ fun h₄₁ c₄₁ hs₄₁ => ?_
      have F₄₁ := Fr.cell (Fr.grow FF k₄₀) hs₄₁ (Heap.get?_none_of_le (by rw [hideAll_size]; omega)) (neN (by omega))
      have q₄₁ : Kq hF h₄₁ := (Kq.of k₄₀).trans (kq_cell cB₄₀ hs₄₁)
      have rA₄₁ := rAF.monoQ q₄₁
      have pL₄₁ := pll_q q₄₁ pLF
      have ht₄₁ := htF.monoQ q₄₁
      have gT₄₁ := q₄₁ _ _ pl_seq gTF
      have tT₄₁ : ∀ i v, vT[i]? = some v → Thing h₄₁ i v := fun i v e => (tTF i v e).monoQ q₄₁
      have hE₄₁ := hEF.monoQ q₄₁
      have Q₄₁ := QF.trans q₄₁
      have pB₄₁ := pll_q (kq_cell cB₄₀ hs₄₁) pB
      have cA₄₁ : h₄₁.IsCell (s.heap.objs.size + 1) (some (.ref aA)) := let ⟨o, e1, e2⟩ := cAF; ⟨o, hs₄₁.extBut _ _ (neN (by omega)) (k₄₀ _ _ e1), e2⟩
      have tab₄₁ : ∃ ps, TabSt h₄₁ ps := by
        obtain ⟨ps, z⟩ := tabF
        exact ⟨ps, z.at (fun o e => hs₄₁.extBut _ _ (neN (by omega)) (k₄₀ _ _ e)) (fun o e => hs₄₁.extBut _ _ (neN (by omega)) (k₄₀ _ _ e))⟩
      have hlt₂ := leaves_lt t₂ v₂ htF
      have hls₂ := leaves_sz t₂
      have N₄₁ := News.nil (h₀ := hideAll s.heap [16]) (h := h₄₁) (L := s.heap.objs.size)
      clear FF NF rAF pLF htF gTF tTF hEF cAF tabF
      k_steps
      refine ⟨wpAny_Assign_ListComp_free (p := fun _ => true) (F := PassV t₂.leaves) (cl := [("bases", s.heap.objs.size + 1 + 1 + 1), ("above", s.heap.objs.size + 1)]) (by rfl) (by rfl) (by decide) rfl (by decide) (by decide) rfl rfl ?_⟩
      refine wpAny_Name (wpAny_loadName_local rfl rfl F₄₁.ns (by rfl) ?_)
      refine wpAny_pyIter_list pL₄₁.isList ?_
      have aLt : aL < h₄₁.objs.size := by obtain ⟨_, e⟩ := pL₄₁; exact Heap.lt_size e
      have Llt : s.heap.objs.size < h₄₁.objs.size := by obtain ⟨_, _, _, e, _⟩ := F₄₁.ns; exact Heap.lt_size e
      have wll := iL.length
      rw [List.length_map] at wll
      refine ⟨h₄₁.objs.size, [h₄₁.objs.size, aL], [h₄₁.objs.size], wL.toArray.size, _, _, _, rfl, Walks.list rfl h₄₁.objs.size aL (Nat.ne_of_lt aLt) wL.toArray, ?_, ⟨⟨_, Heap.get?_push_size _ rfl, rfl, rfl⟩, pL₄₁.isList.push _⟩, ?_, ?_, F₄₁.ns.keeps fun _ _ e => Heap.get?_push_of_some _ e, ⟨?_, ?_⟩, ?_⟩
      · rw [sizeLine_eq, List.size_toArray]; omega
      · intro b hb
        dsimp only
        rw [Heap.size_push]
        rcases List.mem_cons.mp hb with rfl | hb
        · exact Nat.lt_succ_self _
        · rcases List.mem_cons.mp hb with rfl | hb
          · exact Nat.lt_succ_of_lt aLt
          · cases hb
      · intro hm
        rcases List.mem_cons.mp hm with q | hm
        · exact absurd q (Nat.ne_of_lt Llt)
        · cases hm
      · intro C j v s₃ m₃ E' hC hP hns hm hk htk
        exact wpAny_pure ⟨rfl, _, _, rfl, fun _ _ e => e⟩
      · intro C j v s₃ m₃ E' hC hP hp hns hm hk htk
        obtain ⟨nj, tj, hj, rfl⟩ := ints_get iL j v (by simpa using hP)
        rw [List.getElem?_map] at hj
        obtain ⟨b, hb, rfl⟩ := Option.map_eq_some_iff.mp hj
        have hb23 := hlt₁ b (List.mem_of_getElem? hb)
        have up : Kp h₄₁ s₃.heap := fun d o e => hk d o (fun hm => by
          rcases List.mem_cons.mp hm with q | hm
          · rw [q] at e; exact absurd (Heap.lt_size e) (Nat.lt_irrefl _)
          · cases hm) (Heap.get?_push_of_some _ e)
        have D₃ : Wd w mg mb s₃.heap := D₀.up fun b o e => up _ _ (F₄₁.keep _ _ e)
        have cB3 : s₃.heap.IsCell (s.heap.objs.size + 1 + 1 + 1) (some (.ref aB)) := let ⟨o, e1, e2⟩ := c₄₁; ⟨o, up _ _ e1, e2⟩
        have cA3 : s₃.heap.IsCell (s.heap.objs.size + 1) (some (.ref aA)) := let ⟨o, e1, e2⟩ := cA₄₁; ⟨o, up _ _ e1, e2⟩
        refine Call_ (Name_function_global rfl (by rfl) (loadGlobal_global (mg := mg) D₃.T.g (mg_of X₀ T₀.g (v := .ref 61) (by k_is)) ?_))
        refine callWith_K (K := hd.heap_39 w.params) X₀ (by k_is) ?_
        refine spliced_more (wpAny_Name (wpAny_loadName_local rfl (by rfl) hns hm ?_))
        refine spliced_more (wpAny_Name (wpAny_loadName_cell rfl (by rfl) (c := s.heap.objs.size + 1 + 1 + 1) (by rfl) cB3 ?_))
        refine spliced_more (wpAny_Name (wpAny_loadName_cell rfl (by rfl) (c := s.heap.objs.size + 1) (by rfl) cA3 ?_))
        refine spliced_none ⟨D₃.X, ?_⟩
        exact passes_call D₃ (show callerA.depth + 1 < 800 by decide) rfl (show callerA.units + 3 < 100 by decide) (pll_q (Kq.of up) pB₄₁).isList iB hlt₂ (by omega) (rA₄₁.monoQ (Kq.of up)) hb23 fun h' tk tk' kp => ⟨⟨b, _, _, rfl, rfl⟩, _, _, rfl, kp⟩
      · intro D₅ h₄₂ tk₄₂ ys vs hD₅ hl₅ hpl₅ hlen₅ hP₅ hF₅ hns₅ hk₅
        have evs : vs = wL := by
          refine List.ext_getElem? fun j => ?_
          cases e : vs[j]? with
          | some v => have := hP₅ j v e; simp at this; exact this.symm
          | none =>
            have h1 := List.getElem?_eq_none_iff.mp e
            rw [hlen₅, List.size_toArray] at h1
            exact (List.getElem?_eq_none_iff.mpr h1).symm
        rw [evs, List.filter_eq_self.mpr (fun _ _ => rfl)] at hF₅
        have sy := strs_pass iL hF₅
        have syl := strs_len sy
        rw [List.length_map] at syl
        have k₄₂ : ∀ b o, b ≠ s.heap.objs.size → h₄₁.get? b = some o → h₄₂.get? b = some o := fun b o n e => hk₅ b o n (fun hm => by
          rcases List.mem_cons.mp hm with q | hm
          · rw [q] at e; exact absurd (Heap.lt_size e) (Nat.lt_irrefl _)
          · cases hm) (Heap.get?_push_of_some _ e)
        have F₄₂ : Fr (hideAll s.heap [16]) s.heap.objs.size h₄₂ _ := ⟨hns₅, fun b o e => k₄₂ b o (Nat.ne_of_lt (Heap.lt_size (of_hideAll _ e))) (F₄₁.keep b o e), F₄₁.above⟩
        have q₄₂ : Kq h₄₁ h₄₂ := fun b o p e => k₄₂ b o (fun q => by
          obtain ⟨o', es, ep, h3, h4, _⟩ := F₄₁.ns
          rw [q, h3] at e; cases e; exact p.one _ _ h4) e
        have N₄₂ := News.nil (h₀ := hideAll s.heap [16]) (h := h₄₂) (L := s.heap.objs.size)
        dsimp only
        clear N₄₁ hD₅ hP₅ hns₅ hk₅ aLt
        k_steps
        refine ⟨?_⟩
        refine end_comp (aN := D₅) (wn := ys.toList) rfl (by decide) (by decide) rfl (by decide) rfl (by simpa using hl₅) sy (by omega) (fun Q' h => nameX_L F₄₂ rfl h) fun D₆ h₄₃ tk₄₃ ys₆ hD₆ hl₆ sy₆ hle₆ hk₆ => ?_
        have F₄₃ := Fr.grow F₄₂ hk₆
        have N₄₃ := News.nil (h₀ := hideAll s.heap [16]) (h := h₄₃) (L := s.heap.objs.size)
        k_steps
        refine ⟨wpAny_newList ?_ (by rw [sizeLine_eq]; show 1 ≤ _; omega)⟩
        dsimp only
        generalize ho1 : ({ cls := .type "list", data := .seq [Value.str "True" tk₄₃].toArray } : Obj) = o1
        have hN1 : (h₄₃.push o1).IsList h₄₃.objs.size [Value.str "True" tk₄₃].toArray := ⟨o1, Heap.get?_push_size _ (by rw [← ho1]; rfl), by rw [← ho1], 0, by rw [← ho1]⟩
        refine add_pl (hl₆.push o1) hN1 ?_ (by rw [sizeLine_eq]; show ys₆.length + 1 ≤ _; omega)
        dsimp only
        generalize ho2 : ({ cls := .type "list", data := .seq (ys₆ ++ [Value.str "True" tk₄₃]).toArray } : Obj) = o2
        have g8 : ((h₄₃.push o1).push o2).get? (h₄₃.push o1).objs.size = some (seqOf "list" (ys₆ ++ [Value.str "True" tk₄₃]) 0) := by rw [← ho2]; exact Heap.get?_push_size _ rfl
        generalize hp5 : (h₄₃.push o1).push o2 = h₄₅ at g8 ⊢
        have k₄₅ : Kp h₄₃ h₄₅ := fun b o e => hp5 ▸ Heap.get?_push_of_some _ (Heap.get?_push_of_some _ e)
        generalize (h₄₃.push o1).objs.size = D₈ at g8 ⊢
        have F₄₅ := Fr.grow F₄₃ k₄₅
        refine wpAny_storeName_local rfl F₄₅.ns (fun h₄₆ hn₄₆ hs₄₆ => ?_) rfl
        have F₄₆ := F₄₅.set hn₄₆ hs₄₆
        have q₄₆ : Kq h₄₅ h₄₆ := kq_ns F₄₅.ns hs₄₆
        have gD₈ := q₄₆ _ _ pl_seq g8
        have Qx : Kq h₄₁ h₄₆ := (q₄₂.trans (Kq.of hk₆)).trans ((Kq.of k₄₅).trans q₄₆)
        have kL6 : ∀ b o, b ≠ s.heap.objs.size → h₄₁.get? b = some o → h₄₆.get? b = some o := fun b o n e => hs₄₆.extBut b o n (k₄₅ b o (hk₆ b o (k₄₂ b o n e)))
        have ht₄₆ := ht₄₁.monoQ Qx
        have gT₄₆ := Qx _ _ pl_seq gT₄₁
        have tT₄₆ : ∀ i v, vT[i]? = some v → Thing h₄₆ i v := fun i v e => (tT₄₁ i v e).monoQ Qx
        have N₄₆ := News.nil (h₀ := hideAll s.heap [16]) (h := h₄₆) (L := s.heap.objs.size)
        clear F₄₁ F₄₂ F₄₃ F₄₅ N₄₂ N₄₃ hn₄₆
        k_steps
        refine real_call (W₀ := h₄₆) (D₀.up F₄₆.keep) gT₄₆ lT tT₄₆ t₂ _ _ _ _ _ (fun _ _ e => e) ht₄₆ ?_ rfl (by omega) fun vU h₄₇ tk₄₇ k₄₇ hU₄₇ => ?_
        · have := Mine.T.ht_sz t₂
          have hd9 : callerA.depth + 1 < 600 := by decide
          show callerA.depth + 1 + t₂.ht < 800
          omega
        have F₄₇ := Fr.grow F₄₆ k₄₇
        have N₄₇ := News.nil (h₀ := hideAll s.heap [16]) (h := h₄₇) (L := s.heap.objs.size)
        k_steps
        have hstr := end_str t₂.leaves t₁.leaves
        rw [← isub_end] at hstr
        obtain ⟨tE, hD0⟩ := strs_head (strs_snoc "True" tk₄₃ sy₆) hstr
        have low7 : ∀ b o, b ≠ 16 → s.heap.get? b = some o → h₄₇.get? b = some o := fun b o n e => F₄₇.keep b o (hide19 n e)
        have k7 : ∀ b o, b ≠ s.heap.objs.size → h₄₁.get? b = some o → h₄₇.get? b = some o := fun b o n e => k₄₇ b o (kL6 b o n e)
        have t47 : ∃ ps, TabSt h₄₇ ps := by
          obtain ⟨ps, z⟩ := tab₄₁
          exact ⟨ps, z.at (fun o e => k7 _ o (neN (by omega)) e) (fun o e => k7 _ o (neN (by omega)) e)⟩
        have L16 : (s.heap.objs.size : Addr) ≠ 16 := neN (by omega)
        have hide : Kq h₄₇ (hideAll h₄₇ [16, s.heap.objs.size]) := kq_hide fun a ha o e p => by
          rcases List.mem_cons.mp ha with rfl | ha
          · obtain ⟨ps, z⟩ := t47
            rw [z.2.2] at e; cases e; exact p.three rfl
          · rcases List.mem_cons.mp ha with rfl | ha
            · obtain ⟨o', es, ep, h3, h4, _⟩ := F₄₇.ns
              rw [h3] at e; cases e; exact p.one _ _ h4
            · cases ha
        have qW : Kq h₄₆ (hideAll h₄₇ [16, s.heap.objs.size]) := (Kq.of k₄₇).trans hide
        have lowW : ∀ b o, (hideAll s.heap [16]).get? b = some o → (hideAll h₄₇ [16, s.heap.objs.size]).get? b = some o := fun b o e => by
          have e' := of_hideAll _ e
          have n16 : b ≠ 16 := fun q => by rw [q, hideAll_none _ (by simp)] at e; cases e
          have hb := ltN (Heap.lt_size e')
          refine hideAll_get _ (low7 b o n16 e') fun hm => ?_
          rcases List.mem_cons.mp hm with q | hm
          · exact n16 q
          · rcases List.mem_cons.mp hm with q | hm
            · rw [q] at hb; omega
            · cases hm
        have WO : Wo w mg mb (hideAll h₄₇ [16, s.heap.objs.size]) := ⟨D₀.up lowW, hideAll_none _ (by simp), lowW _ _ (hide19 (by decide) hstat), by obtain ⟨bm, ob, z⟩ := hbm; exact ⟨bm, ob, z.keeps lowW⟩⟩
        have gD₇ : h₄₇.get? D₈ = some (seqOf "list" (ys₆ ++ [Value.str "True" tk₄₃]) 0) := k₄₇ _ _ gD₈
        have nD16 : D₈ ≠ 16 := fun q => by
          obtain ⟨ps, z⟩ := t47
          rw [q, z.2.2] at gD₇; cases gD₇
        have nDS : D₈ ≠ cStatics := fun q => by
          rw [q, low7 _ _ (by decide) hstat] at gD₇; cases gD₇
        have nDL : D₈ ≠ s.heap.objs.size := fun q => by
          obtain ⟨o', es, ep, h3, h4, _⟩ := F₄₇.ns
          rw [q, h3] at gD₇; cases gD₇; cases h4
        have ht1 := Mine.T.ht_sz t₁
        have ht2 := Mine.T.ht_sz t₂
        have tabU : TabUp s.heap h₄₇ := ((up₂₂.trans tb).trans (.of (fun o e => hs₄₁.extBut _ _ (neN (by omega)) (k₄₀ _ _ e)) (fun o e => hs₄₁.extBut _ _ (neN (by omega)) (k₄₀ _ _ e)))).trans (.of (fun o e => k7 _ o (neN (by omega)) e) (fun o e => k7 _ o (neN (by omega)) e))
        have isE : ∀ h₉ : Heap, h₉.get? D₈ = some (seqOf "list" (ys₆ ++ [Value.str "True" tk₄₃]) 0) → h₉.IsList D₈ (ys₆ ++ [Value.str "True" tk₄₃]).toArray := fun h₉ e => ⟨_, e, rfl, 0, rfl⟩
        refine told_call (W₀ := hideAll h₄₇ [16, s.heap.objs.size]) (u := t₂) (t := t₁) WO ?_ (by omega) (by omega) ?_ (fun b o e => of_hideAll _ e) t47 rfl ?_ (show callerA.units + 3 < 100 by decide) (Around.frames_deeper rfl) ?_ ?_ (fun tk₉ s₉ hn hg => ?_) fun tk₉ s₉ hn hg => ?_
        · exact TreeAt.mono (fun b o e _ => e) (fun n v y => y.monoQ qW) _ _ (hU₄₇.monoQ hide)
        · exact TreeAt.mono (fun b o e _ => e) (fun n v y => y.monoQ ((Q₄₁.trans Qx).trans qW)) _ _ (hE₄₁.monoQ (Qx.trans qW))
        · have : callerA.depth + 1 < 600 := by decide
          show callerA.depth + 1 + 2 * t₁.ht + 3 < 1000
          omega
        · intro e he
          rcases List.mem_cons.mp he with rfl | he
          · obtain ⟨o, es, ep, ho, hd', _⟩ := F₄₇.ns
            exact ⟨(by show ScopeKind.function ≠ ScopeKind.module; decide), s.heap.objs.size, o, rfl, ho, fun vs q => by rw [hd'] at q; cases q⟩
          · cases he
        · intro b o q hm
          obtain ⟨e, he, hf⟩ := List.mem_filterMap.mp hm
          rcases List.mem_cons.mp he with rfl | he
          · cases hf; rw [hideAll_none _ (by simp)] at q; cases q
          · cases he
        · obtain ⟨h₉, tkk, gs₉, rfl⟩ := hg.same
          have ns₉ := F₄₇.ns.at' (h' := h₉) fun o e => hg.keeps _ o L16 e
          have gD₉ : h₉.get? D₈ = some (seqOf "list" (ys₆ ++ [Value.str "True" tk₄₃]) 0) := hg.keeps _ _ nD16 gD₇
          refine wpAny_Subscript_Constant_late (wpAny_Name (wpAny_loadName_local rfl (by rfl) ns₉ (by rfl) (wpAny_Constant_int ⟨"list", _, PySem.slot_list_getitem.lookup, (show Shared.TypeIs _ (.ref D₈) "list" from ⟨_, gD₉, rfl⟩), wpAny_getItem_list (isE _ gD₉) (by decide) (by decide) (by simpa using hD0) ?_⟩)))
          refine PySem.P.eq_str ?_
          rw [beq_self_eq_true]
          exact hQ _ ⟨⟨_, _, _, rfl⟩, fun b o n1 n2 e => hg.keeps b o n2 (low7 b o n2 e), tabU.trans hg.tab, ⟨_, _, _, hg.keeps _ _ (by decide) (low7 _ _ (by decide) hstat), rfl, rfl, fun e he => by simp at he⟩, gn.trans hg.gens⟩
        · obtain ⟨h₉, tkk, gs₉, rfl⟩ := hg.same
          have ns₉ := ns_slots (h' := h₉) F₄₇.ns fun o e => hg.frames _ o (List.mem_filterMap.mpr ⟨_, List.mem_cons_self .., rfl⟩) e
          have gD₉ : h₉.get? D₈ = some (seqOf "list" (ys₆ ++ [Value.str "True" tk₄₃]) 0) := hg.keeps _ _ nDS nD16 (fun hm => by
            obtain ⟨e, he, hf⟩ := List.mem_filterMap.mp hm
            rcases List.mem_cons.mp he with rfl | he
            · cases hf; exact nDL rfl
            · cases he) gD₇
          rw [hn] at hD0
          refine wpAny_Subscript_Constant_late (wpAny_Name (wpAny_loadName_local rfl (by rfl) ns₉ (by rfl) (wpAny_Constant_int ⟨"list", _, PySem.slot_list_getitem.lookup, (show Shared.TypeIs _ (.ref D₈) "list" from ⟨_, gD₉, rfl⟩), wpAny_getItem_list (isE _ gD₉) (by decide) (by decide) (by simpa using hD0) ?_⟩)))
          refine PySem.P.eq_str ?_
          rw [show (("TypeError" : Str).cps.toList == (toldStr none).cps.toList) = true from by decide]
          exact hQ _ ⟨⟨_, _, _, rfl⟩, fun b o n1 n2 e => hg.keeps b o n1 n2 (fun hm => by
            obtain ⟨e', he, hf⟩ := List.mem_filterMap.mp hm
            rcases List.mem_cons.mp he with rfl | he
            · cases hf; exact absurd (Heap.lt_size e) (Nat.lt_irrefl _)
            · cases he) (low7 b o n2 e), tabU.trans hg.tab, hg.stat, gn.trans hg.gens⟩
end Mine

open PySem PySem.W PySem.Calls PyProof.Rows
set_option Elab.async false
set_option maxRecDepth 100000
set_option pp.deepTerms.threshold 5
set_option pp.maxSteps 30000
set_option maxHeartbeats 8000000 in
theorem PySem.Challenge.cw_kr0026_01_holds : PySem.Challenge.rw_kr0026_01.Holds := by
  refine Mine.hd ?_
  k_fill
  intro w s₀ s₁ mg mb G Y fa o pm cd doc dV kV ho hd' hcd hD hmg hg args vals as hpre hlay hrd hwl hlo
  have KX := kIn_of Y
  refine Ground.open G ?_
  intro T B D TE TW
  clear D TE TW B
  obtain ⟨bm, ob, M⟩ := bmod_of_top T
  wrow_args hpre hlay hrd hwl hlo
  rename_i ns _ _ _ _ _ _ _ aS ws _ hS _ _ _ hi _ _ hc
  have TR := topRead_of T
  have h73 : mg "law" = some (.ref 73) := mg_of KX T.g (by k_is)
  have e73 : fa = 73 := by
    have : mg "law" = some (.ref fa) := hmg
    rw [h73] at this; cases this; rfl
  subst e73
  have h21 : mg "_is_subtype" = some (.ref 21) := mg_of KX T.g (by k_is)
  obtain ⟨d, hdm⟩ : ∃ d, (recsOf Mine.hd.view_39).find? (fun e => e.name == ("_is_subtype" : Str)) = some d := ⟨_, rfl⟩
  have hn : d.name = ("_is_subtype" : Str) := beq_iff_eq.mp (List.find?_some (p := fun e : DefRec => e.name == ("_is_subtype" : Str)) hdm)
  obtain ⟨a', o', fd', c', P', t1, t2, t3, t4, t5, t6⟩ := T.tab d (List.mem_of_find?_eq_some hdm)
  rw [hn, h21] at t1
  cases t1
  have k21 := KX 21 _ rfl
  rw [t2] at k21
  cases k21
  cases t3
  cases t4
  have k20 := KX 20 _ rfl
  obtain ⟨⟨oc, vc, c1, c2, c3, c4⟩, c5⟩ := id t6
  rw [c1] at k20
  cases k20
  cases c3
  cases c4
  have hst : s₁.heap.get? cStatics = some { cls := .none, data := .dict #[] } := KX 2 _ rfl
  have tb : Mine.TabSt s₁.heap #[] := ⟨t5, t6⟩
  have n19 : ∀ {b : Addr} {ob : Obj}, s₁.heap.get? b = some ob → ob.cls ≠ .none → b ≠ 16 := fun e c q => by
    subst q
    rw [c5] at e; cases e; exact c rfl
  refine Mine.law_call (mg := mg) (mb := mb) (aS := aS) (ws := ws) (ns := ns) ⟨Mine.in_hide KX, ?_⟩ ⟨bm, ob, ?_⟩ hS hi (by omega) ⟨_, tb⟩ hst fun s' x => ?_
  · refine ⟨?_, ?_, ?_, TR.builtins, TR.free⟩
    · exact TR.g.at' fun o e => Mine.hide19 (by decide) e
    · exact TR.b.at' fun o e => Mine.hide19 (by decide) e
    · obtain ⟨mc, q1, q2⟩ := TR.nolimit
      exact ⟨mc, q1.at' fun o e => Mine.hide19 (by decide) e, q2⟩
  · exact ⟨M.ns.at' fun o e => Mine.hide19 (by decide) e, M.name, M.ne, Mine.hide19 (n19 M.obj (by rw [M.cls]; nofun)) M.obj, M.cls, M.dict, M.data⟩
  · have nr : ∀ cls, PySem.Challenge.rw_kr0026_01.row.toRowW.claim.raises [ofPy (PyData.list (List.map PyData.int ns))] cls = false := raisesW_false (by wrow_none_raised)
    have po : PySem.Challenge.rw_kr0026_01.row.toRowW.claim.post [ofPy (PyData.list (List.map PyData.int ns))] (.bool true) [ofPy (PyData.list (List.map PyData.int ns))] = true := by wrow_post
    have z1 := x.old tb hst
    have z2 : s'.os = s₁.os := by obtain ⟨_, _, _, q⟩ := x.same; rw [q]
    have z3 := x.gens.bare (AllBare.of_eq hg)
    exact ⟨.inl ⟨.bool true, .bool true, [], rfl, nr, .bool true, po, unshared_nil⟩, z1, z2, z3⟩
