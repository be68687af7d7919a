import PyProof.Rows.All
import Wide.All
import OpenK.AllK
import Wide.FinOn
import Lean
import PySem.Challenge.RW_fc0203_01
set_option Elab.async false
set_option maxRecDepth 100000
section
open PySem PySem.W PyProof.Rows PySem.Calls
namespace MineSup
open Lean Elab Tactic Meta

def bound (x : Addr) : Obj := { cls := .type "method-wrapper", data := .fields #[.builtin "object.__init__", .ref x] }
theorem slot_wd : Slot "wrapper_descriptor" "__get__" "wrapper_descriptor.__get__" :=
  .of (owner := "wrapper_descriptor") (n := "__get__") (by rw [typeLookup_type, builtinLookup_eq_fast]; kernel_rfl) (by decide +kernel) (by decide +kernel) (by decide +kernel)
    (by first | exact .inl (by decide +kernel) | exact .inr (by decide +kernel)) (by rw [isSubtype_type]; kernel_rfl)
theorem entry_wd : entryFor table "wrapper_descriptor.__get__" = some Builtin.«wrapper_descriptor.__get__» := entryFor_of_tree (by kernel_rfl)
theorem args_wd (a b c : Value) : argsOk "wrapper_descriptor.__get__" ⟨[a, b, c], []⟩ := by unfold argsOk; kernel_rfl
theorem type_oi : typeOf (.builtin "object.__init__") = pure (.type "wrapper_descriptor") := by show builtinType _ = _; rw [builtinType_eq_fast]; kernel_rfl

section
variable {prog : Program} {w : World} {M : Model} {A : Around} {E : Value → Shared → Prop} {s : Shared} {K : Frag} {h₀ : Heap} {L : Addr} {m : PySem.Str → Option Value} {news : List (Addr × Obj)}

theorem run_wd {x C : Addr} {P : Fin → Shared → Prop} (hi : Looks M s.heap (isInstance (.ref x) (.type "object")) true) (h : P (.done (.ret (.ref s.heap.objs.size))) { s with heap := s.heap.push (bound x) }) :
    wpAny M A (Builtin.«wrapper_descriptor.__get__» ⟨[.builtin "object.__init__", .ref x, .ref C], []⟩) P E s := by
  unfold Builtin.«wrapper_descriptor.__get__»
  refine wpAny_bind (wpAny_of_eq (a := (.builtin "object.__init__", some (.ref x), some (.ref C))) (by first | rfl | kernel_rfl) ?_)
  dsimp only
  show wpAny M A ((kfb_private% "checkInstance") (.builtin "object.__init__") (.ref x) >>= fun _ => newFields "method-wrapper" [.builtin "object.__init__", .ref x] >>= fun v => ret v) P E s
  refine wpAny_bind ?_
  refine wpAny_bind (wpAny_of_eq (a := (Str.ofString "__init__", .type "object")) (by kernel_rfl) ?_)
  refine wpAny_bind (hi.here ?_)
  refine KFB.if_not rfl ?_
  refine wpAny_pure ?_
  exact wpAny_bind (wpAny_newObj_type (wpAny_pure h))

theorem super_ga {so D x C : Addr} {l₀ l : List Value} {name : Str} {tk : Tok} {h : Heap} {g : Array GenState} {d : Drawn} {t : Nat} {os : OsState} {Q : Fin → Shared → Prop}
    (hso : h.get? so = some { cls := .type "super", dict := none, data := .fields #[.ref D, .ref x, .ref C], slots := #[] }) (hno : Looks (model prog w) h (opaqueClassAbove (.ref C)) none)
    (hC : Looks (model prog w) h (mroOf (.ref C)) l₀) (hl : (l₀.dropWhile (· != .ref D)).drop 1 = l) (X : K.In h)
    (hf : alongIn K name l = some (some (.builtin "object.__init__"))) (hxC : x ≠ C) (hn : (name == ("__class__" : Str)) = false)
    (hi : Looks (model prog w) h (isInstance (.ref x) (.type "object")) true)
    (hq : Q (.done (.ret (.ref h.objs.size))) ⟨h.push (bound x), g, d, t, os⟩) :
    wpAny (model prog w) A (Builtin.«super.__getattribute__» ⟨[.ref so, .str name tk], []⟩) Q E ⟨h, g, d, t, os⟩ := by
  have hlk := slot_wd.lookup
  have hne : (Value.ref x == Value.ref C) = false := by simp [hxC]
  have hto := type_oi
  have hTf : (⟨h, g, d, t, os⟩ : Shared).TypeIs (.builtin "object.__init__") "wrapper_descriptor" := type_oi
  have hdt : ({ cls := .type "super", dict := none, data := .fields #[.ref D, .ref x, .ref C], slots := #[] } : Obj).data = .fields #[.ref D, .ref x, .ref C] := rfl
  have f0 : (#[.ref D, .ref x, .ref C] : Array Value)[0]? = some (.ref D) := rfl
  have f1 : (#[.ref D, .ref x, .ref C] : Array Value)[1]? = some (.ref x) := rfl
  have f2 : (#[.ref D, .ref x, .ref C] : Array Value)[2]? = some (.ref C) := rfl
  unfold Builtin.«super.__getattribute__»
  repeat (first
    | (with_reducible refine wpAny_field hso hdt f0 ?_) | (with_reducible refine wpAny_field hso hdt f1 ?_) | (with_reducible refine wpAny_field hso hdt f2 ?_)
    | (with_reducible refine ks_wpAny_notOpaque hno ?_)
    | (with_reducible refine Looks.at hC ?_; rw [hl])
    | (refine ks_forIn_along X (fun _ _ => rfl) rfl ?_ hf)
    | (with_reducible refine wpAny_of_eq hto ?_)
    | (with_reducible refine wpAny_call_entry slot_wd hTf entry_wd ?_ (args_wd _ _ _))
    | (with_reducible refine run_wd (s := ⟨_, _, _, _, _⟩) hi ?_)
    | (with_reducible refine ⟨_, rfl, ?_⟩)
    | (simp only [hn, hne, Bool.or_false, Bool.false_eq_true, if_false])
    | wp_step
    | dsimp only)
  all_goals exact hq

theorem getMethod_super {so D x C : Addr} {l₀ l : List Value} {name : Str} {pl : Sem Bool} {h : Heap} {g : Array GenState} {d : Drawn} {t : Nat} {os : OsState} {Q : Value × List Value → Shared → Prop}
    (hso : h.get? so = some { cls := .type "super", dict := none, data := .fields #[.ref D, .ref x, .ref C], slots := #[] }) (hno : Looks (model prog w) h (opaqueClassAbove (.ref C)) none)
    (hC : Looks (model prog w) h (mroOf (.ref C)) l₀) (hl : (l₀.dropWhile (· != .ref D)).drop 1 = l) (X : K.In h)
    (hf : alongIn K name l = some (some (.builtin "object.__init__"))) (hxC : x ≠ C) (hn : (name == ("__class__" : Str)) = false)
    (hi : Looks (model prog w) h (isInstance (.ref x) (.type "object")) true)
    (hq : Q (.ref h.objs.size, []) ⟨h.push (bound x), g, d, t + 1, os⟩) :
    wpAny (model prog w) A (getMethod (.ref so) name pl) Q E ⟨h, g, d, t, os⟩ := by
  have hlk := F.ks_slot_super_ga.lookup
  have hcan := F.ks_canon_super_ga
  have hT : ∀ t', (⟨h, g, d, t', os⟩ : Shared).TypeIs (.ref so) "super" := fun _ => ⟨_, hso, rfl⟩
  unfold getMethod
  refine wpAny_bind (wpAny_specialOf (hT _) hlk ?_)
  show wpAny _ _ (if (Manifest.canonical "super.__getattribute__" != "object.__getattribute__") = true then _ else _) _ _ _
  rw [if_pos hcan]
  unfold getAttr getAttrBy
  refine wpAny_bind (wpAny_bind (wpAny_mkText (wpAny_holding (wpAny_bind (wpAny_typeOf (hT _) (wpAny_bind (wpAny_of_eq hlk ?_)))))))
  show wpAny _ _ (getAttrByItsOwn (.ref so) (.str name t) (.type "super") (.builtin "super.__getattribute__") true false) _ _ _
  unfold getAttrByItsOwn hookBefore callGetattribute boundAndCalled
  refine wpAny_bind (wpAny_of_eq (show (if onTheHeap (.type "super") then typeLookup (.type "super") "__getattr__" else pure none) = pure none from rfl) ?_)
  refine wpAny_bind (wpAny_attempt (wpAny_holding ?_))
  show wpAny _ _ (bindSpecial (.builtin "super.__getattribute__") (.ref so) >>= _) _ _ _
  refine wpAny_bind (wpAny_of_eq (F.ks_slot_super_ga.bind _) ?_)
  refine wpAny_mono (Q := fun v s' => v = .ref h.objs.size ∧ s' = ⟨h.push (bound x), g, d, t + 1, os⟩) (E := fun _ _ => False)
    (wpAny_call_entry F.ks_slot_super_ga (hT _) F.ks_entry_super_ga (super_ga hso hno hC hl X hf hxC hn hi ⟨_, rfl, rfl, rfl⟩) (F.ks_gaArgs_super _ _)) (fun v s' hv => ?_) fun _ _ z => z.elim
  obtain ⟨rfl, rfl⟩ := hv
  exact wpAny_pure (wpAny_pure hq)

theorem method {x C D so : Addr} {ox : Obj} {odx : Option Obj} {name : Str} {pl : Sem Bool} {Q : Value × List Value → Shared → Prop} (F : Fr h₀ L s.heap m) (X₀ : K.In h₀) (N : News h₀ L s.heap news) (hso : (so, ks_superObj D x C) ∈ news) (I : InstAt s.heap x ox C odx) (ho : nsIn K cStatics "thirdparty.any" = some none)
    (hm : ks_superIn K C D name = some (some (.builtin "object.__init__"))) (hn : (name == ("__class__" : Str)) = false) (ht : subIn K (.ref C) (.type "object") = some true)
    (h : ∀ q h', Fr h₀ L h' m → News h₀ L h' ((q, bound x) :: news) → (∀ p ∈ news, p.1 < q) → Q (.ref q, []) { s with heap := h', toks := s.toks + 1 }) : wpAny (model prog w) A (getMethod (.ref so) name pl) Q E s := by
  have X : K.In s.heap := X₀.keeps F.keep
  obtain ⟨hh, g, d, t, os⟩ := s
  cases hc : clsIn K C with
  | none => unfold ks_superIn at hm; rw [hc] at hm; cases hm
  | some cd =>
    unfold ks_superIn at hm
    rw [hc] at hm
    have hi : Looks (model prog w) hh (isInstance (.ref x) (.type "object")) true := I.type.andThen (looks_subIn X ht)
    refine getMethod_super (N _ hso).1 (looks_opaque X ho) (l₀ := cd.mro) ?_ rfl X hm (ks_ne X I hc) hn hi ?_
    · exact fun A Q E s k q => wpAny_bind ((looks_clsIn X hc) A _ E s k (wpAny_pure q))
    · obtain ⟨F', N', l'⟩ := ks_newsPush (s := ⟨hh, g, d, t, os⟩) (o := bound x) F N rfl (Heap.get?_push_at rfl rfl) (fun b o e => Heap.get?_push_of_some _ e)
      exact h _ _ F' N' l'

def StandsAt (q x : Addr) (h : Heap) : Prop := h.get? q = some (bound x)
theorem at_of {q x : Addr} {h : Heap} (N : News h₀ L h news) (hm : (q, bound x) ∈ news) : h.get? q = some (bound x) := N.get hm

theorem quiet_oi {as : Args} : (Code.builtin "object.__init__" as).quiet = true := Code.quiet_builtin _ (by decide +kernel)
theorem check_oi {x : Addr} : checkBoundCall "object.__init__" ⟨[.ref x], []⟩ = pure () := by first | kernel_rfl | rfl
theorem call_oi {q x : Addr} {Q : Value → Shared → Prop} (N : News h₀ L s.heap news) (hq : (q, bound x) ∈ news) (h : Q .none s) : wpAny (model prog w) A (call (.ref q) []) Q E s := by
  refine wpAny_call (codeAny_of_tree ?_)
  show wpAny _ A.in1 (callAny (.ref q) ⟨[], []⟩) _ _ s
  simp only [callAny]
  refine wpAny_bind (wpAny_load (at_of N hq) ?_)
  simp only [bound, show (Value.type "method-wrapper" == Value.type "method" || Value.type "method-wrapper" == Value.type "builtin_function_or_method" || Value.type "method-wrapper" == Value.type "method-wrapper") = true by decide, if_true]
  refine KFB.if_so (by decide) ?_
  refine wpAny_bind (wpAny_of_eq (a := ()) check_oi ?_)
  refine wpAny_bind (wpAny_pure (wpAny_pure ?_))
  refine ⟨quiet_oi, codeAny_builtin entry_oi ?_⟩
  rw [oi_run]
  exact wpAny_pure h

theorem callWith_oi {pos : Pos} {q x : Addr} {env : Env} {Q : Value → Shared → Prop} (N : News h₀ L s.heap news) (hq : (q, bound x) ∈ news) (h : Q .none s) :
    wpAny (model prog w) A (callWith pos (.ref q) [] (backTo pos (starEach [] env)) []) Q E s := by
  show wpAny (model prog w) A (callWith pos (.ref q) [] [] []) Q E s
  unfold callWith
  refine wpAny_bind (wpAny_holding ?_)
  unfold evalArgs
  refine wpAny_bind (m := spliced []) (Calls.spliced_nil ?_)
  refine wpAny_bind (wpAny_pure ?_)
  refine wpAny_holding ?_
  refine wpAny_bind (m := evalAll []) (wpAny_pure ?_)
  refine wpAny_bind (wpAny_pure (wpAny_pure ?_))
  refine wpAny_bind (wpAny_standAt ?_)
  refine wpAny_bind (m := keeperOf (.ref q)) ?_
  unfold keeperOf
  refine wpAny_bind (wpAny_load (at_of N hq) ?_)
  simp only [bound, show (Value.type "method-wrapper" != Value.type "method") = true by decide, show (Value.type "method-wrapper" == Value.type "builtin_function_or_method" || Value.type "method-wrapper" == Value.type "method-wrapper") = true by decide, if_true]
  refine wpAny_pure ?_
  exact wpAny_bind (wpAny_mono (call_oi N hq (Q := fun v s' => v = .none ∧ s' = s) ⟨rfl, rfl⟩) (fun r s₂ hr => by obtain ⟨rfl, rfl⟩ := hr; exact wpAny_bind (wpAny_holding (wpAny_point (wpAny_pure h)))) fun _ _ x => x)
end
end MineSup

end
section
open PySem PySem.W PyProof.Rows PySem.Calls
namespace Mine

inductive D where
  | none
  | int (i : Int)
  | empty
  | one (k : Str) (d : D)
def D.depth : D → Nat
  | .one _ d => d.depth + 1
  | _ => 0

section
variable {prog : Program} {w : World}

inductive Rep (prog : Program) (w : World) (T : List (Addr × Obj)) : Value → D → Prop
  | none : Rep prog w T .none .none
  | int (i : Int) (t : Tok) : Rep prog w T (.int i t) (.int i)
  | empty {a : Addr} {o : Obj} : (a, o) ∈ T → (a == sysModules) = false → o.IsDictOf (PySem.strKind prog w) [] → Rep prog w T (.ref a) .empty
  | one {a : Addr} {o : Obj} {k : Str} {v : Value} {d : D} : (a, o) ∈ T → (a == sysModules) = false → o.IsDictOf (PySem.strKind prog w) [(k, v)] → Rep prog w T v d → Rep prog w T (.ref a) (.one k d)

theorem Rep.mono {T T' : List (Addr × Obj)} (hs : ∀ p ∈ T, p ∈ T') {v : Value} {d : D} (h : Rep prog w T v d) : Rep prog w T' v d := by
  induction h with
  | none => exact .none
  | int i t => exact .int i t
  | empty hm ha ho => exact .empty (hs _ hm) ha ho
  | one hm ha ho _ ih => exact .one (hs _ hm) ha ho ih

theorem Rep.handed {T : List (Addr × Obj)} {v : Value} {d : D} (h : Rep prog w T v d) : handedIn v = true := by cases h <;> rfl
theorem Rep.none_inv {T : List (Addr × Obj)} {v : Value} (h : Rep prog w T v .none) : v = .none := by cases h; rfl
theorem Rep.ref_inv {T : List (Addr × Obj)} {v : Value} {d : D} (h : Rep prog w T v d) (hn : d ≠ .none) (hi : ∀ i, d ≠ .int i) : ∃ a, v = .ref a := by
  cases h with
  | none => exact absurd rfl hn
  | int i t => exact absurd rfl (hi i)
  | empty => exact ⟨_, rfl⟩
  | one => exact ⟨_, rfl⟩

variable {A : Around} {E : Value → Shared → Prop} {s : Shared} {h₀ : Heap} {L : Addr} {m : Str → Option Value}

theorem same_nil {nm : String} {a b : Addr} {Q : Bool → Shared → Prop} (ha : (a == sysModules) = false) (hb : (b == sysModules) = false)
    (da : s.heap.DictOf (PySem.strKind prog w) a []) (db : s.heap.DictOf (PySem.strKind prog w) b []) (h : Q true s) :
    wpAny (model prog w) A (Builtin.Dict.samePairs nm a b) Q E s :=
  keq_samePairs ha hb da db (fun _ => .nil) (by simpa using h)

theorem same_one {nm : String} {a b : Addr} {k : Str} {v u : Value} {Q : Bool → Shared → Prop} (ha : (a == sysModules) = false) (hb : (b == sysModules) = false)
    (da : s.heap.DictOf (PySem.strKind prog w) a [(k, v)]) (db : s.heap.DictOf (PySem.strKind prog w) b [(k, u)])
    (he : ∀ (E : Value → Shared → Prop) (Q : Bool → Shared → Prop), Q true s → wpAny (model prog w) A (eqBool v u) Q E s) (h : Q true s) :
    wpAny (model prog w) A (Builtin.Dict.samePairs nm a b) Q E s := by
  obtain ⟨oa, es, ep, hoa, _, hda, hka, hpa, _⟩ := da
  obtain ⟨ob, es', ep', hob, _, hdb, hkb, hpb, _⟩ := db
  obtain ⟨l⟩ := es
  obtain ⟨l'⟩ := es'
  change Pairs _ l _ at hpa
  change Pairs _ l' _ at hpb
  cases hpa with
  | @cons e _ _ _ hk1 hv1 hr1 =>
  cases hr1
  cases hpb with
  | @cons e' _ _ _ hk2 hv2 hr2 =>
  cases hr2
  simp only at hk1 hv1 hk2 hv2
  have hh : e.hash = (PySem.strKind prog w).hash k := by
    obtain ⟨k', q1, q2⟩ := hka e (by simp)
    rw [q2, (PySem.strKind prog w).inj _ _ _ q1 hk1]
  unfold Builtin.Dict.samePairs Builtin.Dict.showsAll
  rw [if_neg (show ¬ (a == sysModules) = true by rw [ha]; exact Bool.false_ne_true), if_neg (show ¬ (b == sysModules) = true by rw [hb]; exact Bool.false_ne_true)]
  refine wpAny_bind (wpAny_pure (wpAny_bind (wpAny_pure ?_)))
  refine wpAny_bind (wpAny_dictEntries hoa hda ?_)
  dsimp only
  refine wpAny_bind (wpAny_dictEntries hob hdb ?_)
  rw [if_neg (by simp)]
  refine wpAny_bind (wpAny_dictEpoch hoa hda ?_)
  refine wpAny_bind ?_
  have hidx : (({ toList := [e'] } : Array DictEntry).findIdx? fun e => (PySem.strKind prog w).is k e.key) = some 0 := by
    simp [List.findIdx?_toArray, hk2]
  rw [Std.Legacy.Range.forIn_eq_forIn_range']
  have hr : List.range' [:({ toList := [e] } : Array DictEntry).size].start [:({ toList := [e] } : Array DictEntry).size].size [:({ toList := [e] } : Array DictEntry).size].step = [0] := by
    simp [Std.Legacy.Range.size]
  rw [hr]
  rw [List.forIn_cons]
  refine wpAny_bind ?_
  refine wpAny_bind (wpAny_dictEntries hoa hda ?_)
  rw [show ({ toList := [e] } : Array DictEntry)[0]? = some e from rfl]
  dsimp only
  rw [hh]
  refine wpAny_bind (wpAny_holding (wpAny_bind (wpAny_dictFind_of hk1 hob hdb hkb ?_)))
  rw [hidx]
  refine wpAny_bind (wpAny_dictEntries hob hdb ?_)
  rw [show ({ toList := [e'] } : Array DictEntry)[0]? = some e' from rfl]
  dsimp only
  rw [hv1, hv2]
  refine wpAny_holding (he _ _ ?_)
  show wpAny _ _ (if (!true) = true then _ else _) _ _ _
  rw [if_neg (by decide)]
  refine wpAny_bind (wpAny_dictEpoch hoa hda ?_)
  rw [if_neg (by simp)]
  exact wpAny_pure (wpAny_pure (wpAny_pure h))

theorem dict_eq {a b : Addr} {ka kb : List (Str × Value)} {Q : Value → Shared → Prop}
    (da : s.heap.DictOf (PySem.strKind prog w) a ka) (db : s.heap.DictOf (PySem.strKind prog w) b kb) (hu : A.units < cLine)
    (hs : ∀ (A' : Around) (nm : String) (E : Value → Shared → Prop) (Q : Bool → Shared → Prop), A' = A.in1 → Q true s → wpAny (model prog w) A' (Builtin.Dict.samePairs nm a b) Q E s) (h : Q (.bool true) s) :
    wpAny (model prog w) A (richCompare .Eq (.ref a) (.ref b)) Q E s := by
  refine wpAny_richCompare_same_room (op := .Eq) da.typeIs db.typeIs PySem.F.slot_dict_eq (wpAny_call_entry PySem.F.slot_dict_eq da.typeIs PySem.F.entry_dict_eq ?_ (PySem.F.args_dict_eq_2 _ _)) hu
  show wpAny _ _ (Builtin.Dict.dictSlotArgs "__eq__" ⟨[.ref a, .ref b], []⟩ >>= _) _ _ s
  refine wpAny_bind ?_
  unfold Builtin.Dict.dictSlotArgs
  refine wpAny_bind (wpAny_notOrdered_dict da.typeIs ?_)
  show wpAny _ _ (pure (Value.ref a, Value.ref b)) _ _ s
  refine wpAny_pure ?_
  refine wpAny_bind (wpAny_isInstance (T := "dict") db.typeIs PySem.F.sub_dict_dict ?_)
  simp only [Bool.not_true, Bool.false_eq_true, if_false]
  refine wpAny_bind (wpAny_pure (wpAny_bind (wpAny_pure ?_)))
  refine wpAny_bind (hs _ _ _ _ rfl ?_)
  refine wpAny_pure ⟨_, rfl, ?_, ?_⟩
  · exact fun x => nomatch x
  · simpa using h
theorem dict_ne {a b : Addr} {ka kb : List (Str × Value)} {Q : Value → Shared → Prop}
    (da : s.heap.DictOf (PySem.strKind prog w) a ka) (db : s.heap.DictOf (PySem.strKind prog w) b kb) (hu : A.units < cLine)
    (hs : ∀ (A' : Around) (nm : String) (E : Value → Shared → Prop) (Q : Bool → Shared → Prop), A' = A.in1 → Q true s → wpAny (model prog w) A' (Builtin.Dict.samePairs nm a b) Q E s) (h : Q (.bool false) s) :
    wpAny (model prog w) A (richCompare .NotEq (.ref a) (.ref b)) Q E s := by
  refine wpAny_richCompare_same_room (op := .NotEq) da.typeIs db.typeIs PySem.F.slot_dict_ne (wpAny_call_entry PySem.F.slot_dict_ne da.typeIs PySem.F.entry_dict_ne ?_ (PySem.F.args_dict_ne_2 _ _)) hu
  show wpAny _ _ (Builtin.Dict.dictSlotArgs "__ne__" ⟨[.ref a, .ref b], []⟩ >>= _) _ _ s
  refine wpAny_bind ?_
  unfold Builtin.Dict.dictSlotArgs
  refine wpAny_bind (wpAny_notOrdered_dict da.typeIs ?_)
  show wpAny _ _ (pure (Value.ref a, Value.ref b)) _ _ s
  refine wpAny_pure ?_
  refine wpAny_bind (wpAny_isInstance (T := "dict") db.typeIs PySem.F.sub_dict_dict ?_)
  simp only [Bool.not_true, Bool.false_eq_true, if_false]
  refine wpAny_bind (wpAny_pure (wpAny_bind (wpAny_pure ?_)))
  refine wpAny_bind (hs _ _ _ _ rfl ?_)
  refine wpAny_pure ⟨_, rfl, ?_, ?_⟩
  · exact fun x => nomatch x
  · simpa using h

theorem dictAt {h₀ h : Heap} {L a : Addr} {o : Obj} {news : List (Addr × Obj)} {kvs : List (Str × Value)} (N : News h₀ L h news) (hm : (a, o) ∈ news) (hd : o.IsDictOf (PySem.strKind prog w) kvs) :
    h.DictOf (PySem.strKind prog w) a kvs := Heap.dictOf_iff.mpr ⟨o, (N _ hm).1, hd⟩

theorem eqBool_of_rc {v u : Value} {Q : Bool → Shared → Prop} (hr : ∀ (Q : Value → Shared → Prop), Q (.bool true) s → wpAny (model prog w) A (richCompare .Eq v u) Q E s) (hv : ∃ a, v = .ref a) (h : Q true s) :
    wpAny (model prog w) A (eqBool v u) Q E s := by
  obtain ⟨a, rfl⟩ := hv
  unfold eqBool
  refine wpAny_holding ?_
  split
  · exact wpAny_bind (wpAny_rule (wpAny_pure h))
  · exact wpAny_bind (hr _ (wpAny_truthy_bool h))

theorem rep_eqBool {news T₁ T₂ : List (Addr × Obj)} (N : News h₀ L s.heap news) (s1 : ∀ p ∈ T₁, p ∈ news) (s2 : ∀ p ∈ T₂, p ∈ news) :
    ∀ {d : D} {A : Around} {E : Value → Shared → Prop} {v u : Value}, Rep prog w T₁ v d → Rep prog w T₂ u d → A.units + d.depth < cLine → ∀ (Q : Bool → Shared → Prop), Q true s → wpAny (model prog w) A (eqBool v u) Q E s := by
  intro d
  induction d with
  | none =>
    intro A E v u r1 r2 hu Q h
    cases r1; cases r2
    exact SeqAt.EqAt.same _ _ _ _ _ h
  | int i =>
    intro A E v u r1 r2 hu Q h
    cases r1; cases r2
    refine SeqAt.EqAt.int_int _ _ _ _ _ _ _ _ ?_
    simpa using h
  | empty =>
    intro A E v u r1 r2 hu Q h
    cases r1 with
    | empty m1 a1 o1 =>
    cases r2 with
    | empty m2 a2 o2 =>
    have hu' : A.units < cLine := by simp only [D.depth] at hu; omega
    exact eqBool_of_rc (fun Q hq => dict_eq (dictAt N (s1 _ m1) o1) (dictAt N (s2 _ m2) o2) hu' (fun A' _ _ Q _ hq => same_nil a1 a2 (dictAt N (s1 _ m1) o1) (dictAt N (s2 _ m2) o2) hq) hq) ⟨_, rfl⟩ h
  | one k d ih =>
    intro A E v u r1 r2 hu Q h
    cases r1 with
    | one m1 a1 o1 t1 =>
    cases r2 with
    | one m2 a2 o2 t2 =>
    simp only [D.depth] at hu
    have hu' : A.units < cLine := by omega
    refine eqBool_of_rc (fun Q hq => dict_eq (dictAt N (s1 _ m1) o1) (dictAt N (s2 _ m2) o2) hu' (fun A' _ _ Q e hq => ?_) hq) ⟨_, rfl⟩ h
    subst e
    refine same_one a1 a2 (dictAt N (s1 _ m1) o1) (dictAt N (s2 _ m2) o2) (fun _ Q hq => ih t1 t2 ?_ Q hq) hq
    rw [units_in1]; omega

theorem rep_eq {news T₁ T₂ : List (Addr × Obj)} {v u : Value} {d : D} {Q : Value → Shared → Prop} (N : News h₀ L s.heap news) (s1 : ∀ p ∈ T₁, p ∈ news) (s2 : ∀ p ∈ T₂, p ∈ news)
    (r1 : Rep prog w T₁ v d) (r2 : Rep prog w T₂ u d) (hu : A.units + d.depth < cLine) (h : Q (.bool true) s) : wpAny (model prog w) A (compareOp .Eq v u) Q E s := by
  show wpAny (model prog w) A (richCompare .Eq v u) Q E s
  cases r1 with
  | none => cases r2; exact EqNone.eq_none_none h
  | int i t => cases r2; exact eq_int (by simpa using h)
  | empty m1 a1 o1 =>
    cases r2 with
    | empty m2 a2 o2 =>
    exact dict_eq (dictAt N (s1 _ m1) o1) (dictAt N (s2 _ m2) o2) (by simp only [D.depth] at hu; omega) (fun A' _ _ Q _ hq => same_nil a1 a2 (dictAt N (s1 _ m1) o1) (dictAt N (s2 _ m2) o2) hq) h
  | one m1 a1 o1 t1 =>
    cases r2 with
    | one m2 a2 o2 t2 =>
    simp only [D.depth] at hu
    refine dict_eq (dictAt N (s1 _ m1) o1) (dictAt N (s2 _ m2) o2) (by omega) (fun A' _ _ Q e hq => ?_) h
    subst e
    exact same_one a1 a2 (dictAt N (s1 _ m1) o1) (dictAt N (s2 _ m2) o2) (fun _ Q hq => rep_eqBool N s1 s2 t1 t2 (by rw [units_in1]; omega) Q hq) hq

theorem rep_ne {news T₁ T₂ : List (Addr × Obj)} {v u : Value} {d : D} {Q : Value → Shared → Prop} (N : News h₀ L s.heap news) (s1 : ∀ p ∈ T₁, p ∈ news) (s2 : ∀ p ∈ T₂, p ∈ news)
    (r1 : Rep prog w T₁ v d) (r2 : Rep prog w T₂ u d) (hu : A.units + d.depth < cLine) (h : Q (.bool false) s) : wpAny (model prog w) A (compareOp .NotEq v u) Q E s := by
  show wpAny (model prog w) A (richCompare .NotEq v u) Q E s
  cases r1 with
  | none => cases r2; exact EqNone.ne_none_none h
  | int i t => cases r2; exact ne_int (by simpa using h)
  | empty m1 a1 o1 =>
    cases r2 with
    | empty m2 a2 o2 =>
    exact dict_ne (dictAt N (s1 _ m1) o1) (dictAt N (s2 _ m2) o2) (by simp only [D.depth] at hu; omega) (fun A' _ _ Q _ hq => same_nil a1 a2 (dictAt N (s1 _ m1) o1) (dictAt N (s2 _ m2) o2) hq) h
  | one m1 a1 o1 t1 =>
    cases r2 with
    | one m2 a2 o2 t2 =>
    simp only [D.depth] at hu
    refine dict_ne (dictAt N (s1 _ m1) o1) (dictAt N (s2 _ m2) o2) (by omega) (fun A' _ _ Q e hq => ?_) h
    subst e
    exact same_one a1 a2 (dictAt N (s1 _ m1) o1) (dictAt N (s2 _ m2) o2) (fun _ Q hq => rep_eqBool N s1 s2 t1 t2 (by rw [units_in1]; omega) Q hq) hq
end
end Mine

end
section
open PySem PySem.W PyProof.Rows PySem.Calls PySem.Spec PyProof.V
namespace Mine

def NoDict (prog : Program) (w : World) (o : Obj) : Prop := ∀ kvs, ¬ o.IsDictOf (PySem.strKind prog w) kvs

def offOf (T : List (Addr × Obj)) (I : Addr) : List (Addr × Obj) := T.filter fun p => decide (p.1 ≠ I)
theorem mem_offOf {T : List (Addr × Obj)} {I : Addr} {p : Addr × Obj} : p ∈ offOf T I ↔ p ∈ T ∧ p.1 ≠ I := by
  simp [offOf]

section
variable {prog : Program} {w : World}
theorem Rep.off {T : List (Addr × Obj)} {I : Addr} (hI : ∀ p ∈ T, p.1 = I → NoDict prog w p.2) {v : Value} {d : D} (h : Rep prog w T v d) : Rep prog w (offOf T I) v d := by
  induction h with
  | none => exact .none
  | int i t => exact .int i t
  | empty hm ha ho => exact .empty (mem_offOf.mpr ⟨hm, fun e => hI _ hm e _ ho⟩) ha ho
  | one hm ha ho _ ih => exact .one (mem_offOf.mpr ⟨hm, fun e => hI _ hm e _ ho⟩) ha ho ih

variable {A : Around} {E : Value → Shared → Prop} {s : Shared} {env : Env} {h₀ : Heap} {x : Str} {body : List Stmt} {Q : Flow → Shared → Prop}

structure Plan (σ : Type) where
  Led : σ → List (Addr × Obj)
  cst : List (Addr × Obj)
  ps : σ → List (Str × Value)
  stored : List Str
  adr : List Addr
  Facts : List (Addr × Obj) → σ → Prop
  P : Nat → σ → Prop

structure Plan.Names {σ : Type} (J : Plan σ) (x : Str) (m₀ m : Str → Option Value) (c : σ) : Prop where
  at_ : ∀ p ∈ J.ps c, m p.1 = some p.2
  off : ∀ z, z ≠ x → (∀ p ∈ J.ps c, z ≠ p.1) → J.stored.contains z = false → m z = m₀ z

def Plan.End {σ : Type} (J : Plan σ) (h₀ : Heap) (L : Addr) (x : Str) (m₀ : Str → Option Value) (T : List (Addr × Obj)) (i : Nat) (s₁ s₂ : Shared) : Prop :=
  ∃ (c : σ) (T' news' : List (Addr × Obj)) (m' : Str → Option Value) (h' : Heap) (tk : Nat), s₂ = { s₁ with heap := h', toks := tk } ∧ Fr h₀ L h' m' ∧ News h₀ L h' news' ∧ (∀ p ∈ J.Led c ++ (J.cst ++ T'), p ∈ news') ∧ (∀ p ∈ T, p ∈ T') ∧ OwnOff T' J.adr ∧ J.Facts T' c ∧ J.Names x m₀ m' c ∧ J.P i c
def Plan.Post {σ : Type} (J : Plan σ) (h₀ : Heap) (L : Addr) (x : Str) (m₀ : Str → Option Value) (T : List (Addr × Obj)) (i : Nat) (s₁ : Shared) (Q : Flow → Shared → Prop) (f : Flow) (s₂ : Shared) : Prop :=
  match f with
  | .ret v => Q (.ret v) s₂
  | .brk => Q .next s₂
  | _ => J.End h₀ L x m₀ T i s₁ s₂

theorem rng {σ : Type} (J : Plan σ) {r : Addr} {b₀ : Int} {t₀ u₀ v₀ : Tok} {n : Nat} {m₀ : Str → Option Value} {news T₀ : List (Addr × Obj)} (c₀ : σ)
    (hh : A.handled = none) (hr : IsRange s.heap r 0 b₀ 1 t₀ u₀ v₀) (hsmall : Builtin.Range.small 0 b₀ 1 = true) (hsz : Builtin.Range.rangeSize 0 b₀ 1 = (n : Int))
    (F : Fr h₀ env.locals s.heap m₀) (N : News h₀ env.locals s.heap news) (hn : ∀ p ∈ J.Led c₀ ++ (J.cst ++ T₀), p ∈ news) (hadr : ∀ c, (J.Led c ++ J.cst).map (·.1) = J.adr) (hoff : OwnOff T₀ J.adr)
    (hf : J.Facts T₀ c₀) (hk : ∀ p ∈ J.ps c₀, m₀ p.1 = some p.2) (hp : J.P 0 c₀)
    (mono : ∀ T T' c, (∀ p ∈ T, p ∈ T') → J.Facts T c → J.Facts T' c) (offs : ∀ T I c, (∀ p ∈ T, p.1 = I → NoDict prog w p.2) → J.Facts T c → J.Facts (offOf T I) c)
    (turn : ∀ (c : σ) T (i : Nat) t (u : Str → Option Value) h tk, i < n → OwnOff T J.adr → (∀ p ∈ T₀, p ∈ T) → J.Facts T c → J.P i c →
      Fr h₀ env.locals h (fun y => if y = x then some (.int i t) else kstB (fun z => if J.stored.contains z then u z else m₀ z) (J.ps c) y) → News h₀ env.locals h (J.Led c ++ (J.cst ++ T)) →
      wpAny (model prog w) A (execs body env) (J.Post h₀ env.locals x m₀ T (i + 1) { s with heap := h, toks := tk } Q) E { s with heap := h, toks := tk })
    (done : ∀ (c : σ) T (u : Str → Option Value) h tk, OwnOff T J.adr → (∀ p ∈ T₀, p ∈ T) → J.Facts T c → J.P n c →
      Fr h₀ env.locals h (fun y => if y = x then u y else kstB (fun z => if J.stored.contains z then u z else m₀ z) (J.ps c) y) → News h₀ env.locals h (J.Led c ++ (J.cst ++ T)) → Q .next { s with heap := h, toks := tk }) :
    wpAny (model prog w) A (pyIter (.ref r)) (fun it s₂ => LoopAtV prog w A h₀ env x body Q E it s₂) E s := by
  refine wpAny_pyIter_range hr hsmall ?_
  have W : Walks prog w A s.heap.objs.size [s.heap.objs.size] [s.heap.objs.size] n (fun i v => i < n ∧ ∃ t, v = .int (0 + i * 1) t)
      (fun i h => IsRangeIter h s.heap.objs.size (0 + (i : Nat) * 1) ((n : Int) - (i : Nat)) 1) := (Walks.range hh _ 0 1 n).bound
  have old : ∀ p ∈ J.Led c₀ ++ (J.cst ++ T₀), p.1 < s.heap.objs.size := fun p hp => Heap.lt_size (N p (hn p hp)).1
  let K : Nat → (Str → Option Value) → List (Addr × Obj) → Prop := fun i m nx =>
    ∃ c T, nx = J.Led c ++ (J.cst ++ T) ∧ OwnOff T J.adr ∧ (∀ p ∈ T₀, p ∈ T) ∧ J.Facts T c ∧ J.Names x m₀ m c ∧ J.P i c
  refine ⟨s.heap.objs.size, _, _, n, _, _, m₀, J.Led c₀ ++ (J.cst ++ T₀), K, rfl, W, ?_, ?_, ?_, by show IsRangeIter _ _ _ _ _; rw [hsz]; simpa using Heap.get?_push_size _ rfl, F.push _, (fun p hp => ⟨Heap.get?_push_of_some _ (N p (hn p hp)).1, (N p (hn p hp)).2⟩), ⟨c₀, T₀, rfl, hoff, fun _ h => h, hf, ⟨hk, fun _ _ _ _ => rfl⟩, hp⟩, ?_, ?_⟩
  · intro hm
    exact absurd F.ns.lt ((List.mem_singleton.mp hm) ▸ Nat.lt_irrefl _)
  · intro b hb
    rw [List.mem_singleton.mp hb]
    exact next_is_new F
  · intro p hp hI
    exact absurd (old p hp) ((List.mem_singleton.mp hI) ▸ Nat.lt_irrefl _)
  · rintro i v m₁ news₁ s₁ own ⟨hh', tk', rfl⟩ hin ⟨_, t, rfl⟩ ⟨c, T, rfl, hoT, hT0, hfT, hnm, hP⟩ hoff1 hown hget hmem hst F₁ N₁
    have hin' : i < n := hin
    have hst' : IsRangeIter hh' s.heap.objs.size (0 + ((i + 1 : Nat) : Int) * 1) ((n : Int) - ((i + 1 : Nat) : Int)) 1 := hst
    obtain ⟨oI, hoI⟩ : ∃ o, hh'.get? s.heap.objs.size = some o := ⟨_, hst'⟩
    have hIown : (s.heap.objs.size, oI) ∈ own := hmem _ (List.mem_cons.mpr (.inl rfl)) (next_is_new F) _ hoI
    have hno : NoDict prog w oI := by
      have e : oI = { cls := .type "range_iterator", data := .fields #[rawInt (0 + ((i + 1 : Nat) : Int) * 1), rawInt ((n : Int) - ((i + 1 : Nat) : Int)), rawInt 1] } := by
        have := hst'
        unfold IsRangeIter at this
        rw [hoI] at this
        exact Option.some.inj this
      rintro kvs ⟨es, ep, _, hd, _⟩
      rw [e] at hd
      exact nomatch hd
    have hT₁ : OwnOff (T ++ own) J.adr := by
      intro p hp b hb
      rcases List.mem_append.mp hp with hp | hp
      · exact hoT p hp b hb
      · intro e
        rw [← hadr c] at hb
        obtain ⟨q, hq, rfl⟩ := List.mem_map.mp hb
        refine hoff1 q ?_ (by rw [← e]; exact hown p hp)
        rcases List.mem_append.mp hq with hq | hq
        · exact List.mem_append.mpr (.inl hq)
        · exact List.mem_append.mpr (.inr (List.mem_append.mpr (.inl hq)))
    have N₂ : News h₀ env.locals hh' (J.Led c ++ (J.cst ++ (T ++ own))) := by
      intro p hp
      refine N₁ p ?_
      rcases List.mem_append.mp hp with hp | hp
      · exact List.mem_append.mpr (.inr (List.mem_append.mpr (.inl hp)))
      · rcases List.mem_append.mp hp with hp | hp
        · exact List.mem_append.mpr (.inr (List.mem_append.mpr (.inr (List.mem_append.mpr (.inl hp)))))
        · rcases List.mem_append.mp hp with hp | hp
          · exact List.mem_append.mpr (.inr (List.mem_append.mpr (.inr (List.mem_append.mpr (.inr hp)))))
          · exact List.mem_append.mpr (.inl hp)
    have e1 : (0 : Int) + (i : Int) * 1 = (i : Int) := by omega
    have F₂ : Fr h₀ env.locals hh' (fun y => if y = x then some (Value.int (i : Int) t) else m₁ y) := by
      have := F₁
      rw [e1] at this
      exact this
    refine wpAny_mono (turn c (T ++ own) i t m₁ hh' tk' hin' hT₁ (fun p hp => List.mem_append.mpr (.inl (hT0 p hp))) (mono _ _ _ (fun p hp => List.mem_append.mpr (.inl hp)) hfT) hP (kst_fr hnm.at_ hnm.off F₂) N₂) (fun f s₂ p => ?_) fun _ _ e => e
    have fin : J.End h₀ env.locals x m₀ (T ++ own) (i + 1) { s with heap := hh', toks := tk' } s₂ → LoopStepU h₀ env.locals [s.heap.objs.size] own (K (i + 1)) { s with heap := hh', toks := tk' } .next s₂ := by
      rintro ⟨c', T', news', m', h', tk, e, F', N', hs, hTT, hoT', hf', hn', hP'⟩
      have hI : ∀ p ∈ T', p.1 = s.heap.objs.size → NoDict prog w p.2 := by
        intro p hp e
        have h1 := (N' p (hs p (List.mem_append.mpr (.inr (List.mem_append.mpr (.inr hp)))))).1
        have h2 := (N' _ (hs _ (List.mem_append.mpr (.inr (List.mem_append.mpr (.inr (hTT _ (List.mem_append.mpr (.inr hIown)))))))))
        rw [e, h2.1] at h1
        rw [← Option.some.inj h1]
        exact hno
      refine ⟨rfl, h', tk, m', J.Led c' ++ (J.cst ++ offOf T' s.heap.objs.size), e, F', ?_, ?_, c', _, rfl, ?_, ?_, offs _ _ _ hI hf', hn', hP'⟩
      · intro p hp
        refine N' p ?_
        rcases List.mem_append.mp hp with hp | hp
        · exact hs p (List.mem_append.mpr (.inr (List.mem_append.mpr (.inr (hTT p (List.mem_append.mpr (.inr hp)))))))
        · rcases List.mem_append.mp hp with hp | hp
          · exact hs p (List.mem_append.mpr (.inl hp))
          · rcases List.mem_append.mp hp with hp | hp
            · exact hs p (List.mem_append.mpr (.inr (List.mem_append.mpr (.inl hp))))
            · exact hs p (List.mem_append.mpr (.inr (List.mem_append.mpr (.inr (mem_offOf.mp hp).1))))
      · intro p hp hq
        have hq := List.mem_singleton.mp hq
        have side : ∀ p ∈ J.Led c' ++ J.cst, p.1 ≠ s.heap.objs.size := by
          intro p hp e
          have hb : p.1 ∈ J.adr := by rw [← hadr c']; exact List.mem_map.mpr ⟨p, hp, rfl⟩
          exact hT₁ _ (List.mem_append.mpr (.inr hIown)) _ hb e.symm
        rcases List.mem_append.mp hp with hp | hp
        · exact side p (List.mem_append.mpr (.inl hp)) hq
        · rcases List.mem_append.mp hp with hp | hp
          · exact side p (List.mem_append.mpr (.inr hp)) hq
          · exact (mem_offOf.mp hp).2 hq
      · intro p hp b hb
        exact hoT' p (mem_offOf.mp hp).1 b hb
      · intro p hp
        refine mem_offOf.mpr ⟨hTT p (List.mem_append.mpr (.inl (hT0 p hp))), fun e => ?_⟩
        exact absurd (old p (List.mem_append.mpr (.inr (List.mem_append.mpr (.inr hp))))) (e ▸ Nat.lt_irrefl _)
    cases f with
    | ret v => exact .ret p
    | brk => exact .brk p
    | next => exact .next (fin p)
    | cont => exact .cont (fin p)
  · rintro h' tk m' news' F' N' _ ⟨c, T, rfl, hoT, hT0, hfT, hnm, hP⟩
    exact done c T m' h' tk hoT hT0 hfT hP (kst_frOut hnm.at_ hnm.off F') N'
end
end Mine

end
section
open PySem PySem.W PyProof.Rows PySem.Calls PySem.Spec PyProof.V
namespace Mine

inductive Tail (T : List (Addr × Obj)) : List (Addr × Obj) → (List (Addr × Obj) → List (Addr × Obj)) → Prop
  | here : Tail T T (fun T' => T')
  | cons {p : Addr × Obj} {r : List (Addr × Obj)} {g : List (Addr × Obj) → List (Addr × Obj)} : Tail T r g → Tail T (p :: r) (fun T' => p :: g T')
theorem Tail.mem {T add : List (Addr × Obj)} {news : List (Addr × Obj)} {g : List (Addr × Obj) → List (Addr × Obj)} (h : Tail T news g) : ∀ p ∈ g (add ++ T), p ∈ add ++ news := by
  induction h with
  | here => exact fun _ h => h
  | @cons q r g _ ih =>
    intro p hp
    rcases List.mem_cons.mp hp with rfl | hp
    · exact List.mem_append.mpr (.inr (.head _))
    · rcases List.mem_append.mp (ih p hp) with h | h
      · exact List.mem_append.mpr (.inl h)
      · exact List.mem_append.mpr (.inr (.tail _ h))
theorem Tail.sub {T : List (Addr × Obj)} {news : List (Addr × Obj)} {g : List (Addr × Obj) → List (Addr × Obj)} (h : Tail T news g) : ∀ p ∈ T, p ∈ news := by
  induction h with
  | here => exact fun _ h => h
  | cons _ ih => exact fun p hp => .tail _ (ih p hp)

structure Sub (T T' : List (Addr × Obj)) : Prop where
  sub : ∀ p ∈ T, p ∈ T'
theorem Sub.refl {T : List (Addr × Obj)} : Sub T T := ⟨fun _ h => h⟩
theorem Sub.trans {T T' T'' : List (Addr × Obj)} (h : Sub T T') (k : Sub T' T'') : Sub T T'' := ⟨fun p hp => k.sub p (h.sub p hp)⟩
theorem Sub.tail {T r : List (Addr × Obj)} {p : Addr × Obj} (h : Sub T r) : Sub T (p :: r) := ⟨fun q hq => .tail _ (h.sub q hq)⟩

section
variable {prog : Program} {w : World} {A : Around} {E : Value → Shared → Prop} {s : Shared} {h₀ : Heap} {L : Addr} {m : Str → Option Value}

def dataD (made : Int) : D := if Int.fmod made 3 = 2 then .empty else .one (Str.ofString "t") (.one (Str.ofString "1") (.one (Str.ofString "n") (.int made)))

def DataPost (prog : Program) (w : World) (h₀ : Heap) (L : Addr) (m : Str → Option Value) (s : Shared) (news : List (Addr × Obj)) (adr : List Addr) (made : Int) (v : Value) (s' : Shared) : Prop :=
  ∃ (h' : Heap) (tk : Nat) (add : List (Addr × Obj)), s' = { s with heap := h', toks := tk } ∧ Fr h₀ L h' m ∧ News h₀ L h' (add ++ news) ∧ OwnOff add adr ∧ Rep prog w add v (dataD made)

theorem data_join {T news : List (Addr × Obj)} {adr : List Addr} {g : List (Addr × Obj) → List (Addr × Obj)} {f : Addr} {made : Int} {tm : Tok} {Q : Value → Shared → Prop}
    (_F : Fr h₀ L s.heap m) (_N : News h₀ L s.heap news) (hT : OwnOff T adr) (hg : Tail T news g)
    (rest : ∀ v T' h' tk', Sub T T' → OwnOff T' adr → Rep prog w T' v (dataD made) → Fr h₀ L h' m → News h₀ L h' (g T') → Q v { s with heap := h', toks := tk' })
    (hcall : wpAny (model prog w) A (call (.ref f) [.int made tm]) (DataPost prog w h₀ L m s news adr made) E s) :
    wpAny (model prog w) A (call (.ref f) [.int made tm]) Q E s := by
  refine wpAny_mono hcall (fun v s' h => ?_) fun _ _ e => e
  obtain ⟨h', tk, add, rfl, F', N', hab, hr⟩ := h
  refine rest v (add ++ T) h' tk ⟨fun p hp => List.mem_append.mpr (.inr hp)⟩ ?_ (hr.mono fun p hp => List.mem_append.mpr (.inl hp)) F' fun p hp => N' p (hg.mem p hp)
  intro p hp b hb
  rcases List.mem_append.mp hp with hp | hp
  · exact hab p hp b hb
  · exact hT p hp b hb

theorem ownOff_nil {adr : List Addr} : OwnOff [] adr := fun _ h => nomatch h
theorem ownOff_cons {a : Addr} {o : Obj} {r : List (Addr × Obj)} {adr : List Addr} (h : ∀ b ∈ adr, a ≠ b) (hr : OwnOff r adr) : OwnOff ((a, o) :: r) adr := by
  intro p hp
  rcases List.mem_cons.mp hp with rfl | hp
  · exact h
  · exact hr p hp

theorem data_end0 {news : List (Addr × Obj)} {adr : List Addr} {made : Int} {h' : Heap} {tk : Nat} {a : Addr} {o : Obj} (F' : Fr h₀ L h' m) (N' : News h₀ L h' ((a, o) :: news)) (ha : (a == sysModules) = false)
    (ho : o.IsDictOf (PySem.strKind prog w) []) (hm : Int.fmod made 3 = 2) (hoff : ∀ b ∈ adr, a ≠ b) : DataPost prog w h₀ L m s news adr made (.ref a) { s with heap := h', toks := tk } := by
  refine ⟨h', tk, [(a, o)], rfl, F', N', ownOff_cons hoff ownOff_nil, ?_⟩
  unfold dataD
  rw [if_pos hm]
  exact .empty (.head _) ha ho
theorem data_end3 {news : List (Addr × Obj)} {adr : List Addr} {made : Int} {h' : Heap} {tk : Nat} {a1 a2 a3 : Addr} {o1 o2 o3 : Obj} {t : Tok} (F' : Fr h₀ L h' m) (N' : News h₀ L h' ((a1, o1) :: (a2, o2) :: (a3, o3) :: news))
    (k1 : (a1 == sysModules) = false) (k2 : (a2 == sysModules) = false) (k3 : (a3 == sysModules) = false)
    (p1 : o1.IsDictOf (PySem.strKind prog w) [(Str.ofString "n", .int made t)]) (p2 : o2.IsDictOf (PySem.strKind prog w) [(Str.ofString "1", .ref a1)]) (p3 : o3.IsDictOf (PySem.strKind prog w) [(Str.ofString "t", .ref a2)])
    (hm : ¬ Int.fmod made 3 = 2) (f1 : ∀ b ∈ adr, a1 ≠ b) (f2 : ∀ b ∈ adr, a2 ≠ b) (f3 : ∀ b ∈ adr, a3 ≠ b) : DataPost prog w h₀ L m s news adr made (.ref a3) { s with heap := h', toks := tk } := by
  refine ⟨h', tk, [(a1, o1), (a2, o2), (a3, o3)], rfl, F', N', ownOff_cons f1 (ownOff_cons f2 (ownOff_cons f3 ownOff_nil)), ?_⟩
  unfold dataD
  rw [if_neg hm]
  exact .one (.tail _ (.tail _ (.head _))) k3 p3 (.one (.tail _ (.head _)) k2 p2 (.one (.head _) k1 p1 (.int made t)))

def DrawPost (h₀ : Heap) (L : Addr) (m : Str → Option Value) (s : Shared) (g : Obj → List (Addr × Obj)) (nums : Addr) (at_ many : Int) (v : Value) (s' : Shared) : Prop :=
  ∃ (h' : Heap) (tk : Nat) (r : Int) (t ta tz : Tok) (z : Int), s' = { s with heap := h', toks := tk } ∧ v = .int r t ∧ 0 ≤ r ∧ r < many ∧ 0 ≤ z ∧ z < 7883 ∧ Fr h₀ L h' m ∧ News h₀ L h' (g (W.listOf #[.int (at_ + 1) ta, .ref nums, .int z tz] 0))

theorem draw_join {news : List (Addr × Obj)} {g : Obj → List (Addr × Obj)} {f l nums : Addr} {at_ z many : Int} {ta tz tm : Tok} {Q : Value → Shared → Prop}
    (_F : Fr h₀ L s.heap m) (_N : News h₀ L s.heap news) (_U : UpdF l (W.listOf #[.int at_ ta, .ref nums, .int z tz] 0) news g)
    (rest : ∀ r t ta' tz' z' h' tk', 0 ≤ r → r < many → 0 ≤ z' → z' < 7883 → Fr h₀ L h' m → News h₀ L h' (g (W.listOf #[.int (at_ + 1) ta', .ref nums, .int z' tz'] 0)) → Q (.int r t) { s with heap := h', toks := tk' })
    (hcall : wpAny (model prog w) A (call (.ref f) [.ref l, .int many tm]) (DrawPost h₀ L m s g nums at_ many) E s) :
    wpAny (model prog w) A (call (.ref f) [.ref l, .int many tm]) Q E s := by
  refine wpAny_mono hcall (fun v s' h => ?_) fun _ _ e => e
  obtain ⟨h', tk, r, t, ta', tz', z', rfl, rfl, h0, h1, h2, h3, F', N'⟩ := h
  exact rest r t ta' tz' z' h' tk h0 h1 h2 h3 F' N'

theorem draw_end {g : Obj → List (Addr × Obj)} {nums : Addr} {at_ many : Int} {h' : Heap} {tk : Nat} {r z : Int} {t ta tz : Tok}
    (h0 : 0 ≤ r) (h1 : r < many) (h2 : 0 ≤ z) (h3 : z < 7883) (F' : Fr h₀ L h' m) (N' : News h₀ L h' (g (W.listOf #[.int (at_ + 1) ta, .ref nums, .int z tz] 0))) :
    DrawPost h₀ L m s g nums at_ many (.int r t) { s with heap := h', toks := tk } := ⟨h', tk, r, t, ta, tz, z, rfl, rfl, h0, h1, h2, h3, F', N'⟩

def nth : List Value → Nat → Option Value
  | [], _ => none
  | x :: _, 0 => some x
  | _ :: r, i + 1 => nth r i
theorem nth_get : ∀ (l : List Value) (i : Nat), nth l i = l[i]?
  | [], _ => by simp [nth]
  | _ :: _, 0 => rfl
  | _ :: r, i + 1 => by simpa [nth] using nth_get r i
theorem my_item {value slice : PySem.Expr} {l : Addr} {a : Array Value} {n : Nat} {k : Int} {u : Tok} {v : Value} {news : List (Addr × Obj)} {Q : Value → Shared → Prop}
    (N : News h₀ L s.heap news) (hm : (l, W.listOf a n) ∈ news) (h0 : 0 ≤ k) (hhi : k < 2 ^ 63) (hx : nth a.toList k.toNat = some v) (h : Q v s)
    (hs : subscripted slice false (.ref l) (.int k u) = operate [.ref l, .int k u] (getItem (.ref l) (.int k u)) := by with_unfolding_all rfl) :
    wpAny (model prog w) A (subscriptTail value slice (.ref l) (.int k u)) Q E s := by
  have hl : s.heap.IsList l a := ⟨_, (N _ hm).1, rfl, n, rfl⟩
  exact tail_any hl.typeIs slot_list_getitem.lookup (wpAny_getItem_list hl h0 hhi (by rw [nth_get] at hx; simpa using hx) h) hs

theorem is_none {T : List (Addr × Obj)} {v : Value} {d : D} {Q : Value → Shared → Prop} (r : Rep prog w T v d) (h1 : d = .none → Q (.bool true) s) (h2 : d ≠ .none → Q (.bool false) s) :
    wpAny (model prog w) A (compareOp .Is v .none) Q E s := by
  cases r with
  | none => exact is_none_none (h1 rfl)
  | int i t => exact is_int_none (h2 fun e => nomatch e)
  | empty => exact is_ref_none (h2 fun e => nomatch e)
  | one => exact is_ref_none (h2 fun e => nomatch e)
end
end Mine

end
section
open PySem PySem.W PyProof.Rows PySem.Calls PySem.Spec PyProof.V
namespace Mine

structure Good (d : D) : Prop where
  low : d.depth ≤ 3
  noInt : ∀ i, d ≠ .int i
theorem good_none : Good .none := ⟨by decide, fun _ e => nomatch e⟩
theorem good_data (made : Int) : Good (dataD made) := by
  unfold dataD
  split
  · exact ⟨by decide, fun _ e => nomatch e⟩
  · exact ⟨by simp [D.depth], fun _ e => nomatch e⟩

section
variable {prog : Program} {w : World} {A : Around} {E : Value → Shared → Prop} {s : Shared} {h₀ : Heap} {L : Addr}
theorem cmp_eq {news T₁ T₂ : List (Addr × Obj)} {v u : Value} {d : D} {Q : Value → Shared → Prop} (N : News h₀ L s.heap news) (r1 : Rep prog w T₁ v d) (r2 : Rep prog w T₂ u d) (s1 : Sub T₁ news) (s2 : Sub T₂ news)
    (g : Good d) (hu : A.units + 3 < cLine) (h : Q (.bool true) s) : wpAny (model prog w) A (compareOp .Eq v u) Q E s :=
  rep_eq N s1.sub s2.sub r1 r2 (by have := g.low; omega) h
theorem cmp_ne {news T₁ T₂ : List (Addr × Obj)} {v u : Value} {d : D} {Q : Value → Shared → Prop} (N : News h₀ L s.heap news) (r1 : Rep prog w T₁ v d) (r2 : Rep prog w T₂ u d) (s1 : Sub T₁ news) (s2 : Sub T₂ news)
    (g : Good d) (hu : A.units + 3 < cLine) (h : Q (.bool false) s) : wpAny (model prog w) A (compareOp .NotEq v u) Q E s :=
  rep_ne N s1.sub s2.sub r1 r2 (by have := g.low; omega) h
end

structure St where
  vb : Value
  vh : Value
  vc : Value
  vm : Value
  db : D
  dh : D
  n : Int
  made : Int
  at_ : Int
  z : Int
  tt : Tok
  tm : Tok
  tn : Tok
  ta : Tok
  tz : Tok

abbrev midO (P : Params) (t1 t2 t3 : Tok) (xu : Addr) (vc : Value) (n : Int) (tn : Tok) : Obj :=
  dictOf [{ hash := PyData.keyHash P (Str.ofString "storage"), key := .str (Str.ofString "storage") t1, val := .ref xu }, { hash := PyData.keyHash P (Str.ofString "cache"), key := .str (Str.ofString "cache") t2, val := vc },
    { hash := PyData.keyHash P (Str.ofString "_cache_modified_count"), key := .str (Str.ofString "_cache_modified_count") t3, val := .int n tn }] 3
abbrev undO (P : Params) (t4 : Tok) (vm : Value) : Obj := dictOf [{ hash := PyData.keyHash P (Str.ofString "memory"), key := .str (Str.ofString "memory") t4, val := vm }] 1
abbrev stO (at_ : Int) (ta : Tok) (nums : Addr) (z : Int) (tz : Tok) : Obj := W.listOf #[.int at_ ta, .ref nums, .int z tz] 0

structure Fact (prog : Program) (w : World) (T : List (Addr × Obj)) (c : St) : Prop where
  rb : Rep prog w T c.vb c.db
  rm : Rep prog w T c.vm c.db
  rh : Rep prog w T c.vh c.dh
  rc : Rep prog w T c.vc c.dh
  gb : Good c.db
  gh : Good c.dh
  n0 : 0 ≤ c.n
  m0 : 0 ≤ c.made
  a0 : 0 ≤ c.at_
  z0 : 0 ≤ c.z
  z1 : c.z < 7883
structure Bnd (i : Nat) (c : St) : Prop where
  n : c.n ≤ 3 * (i : Int)
  m : c.made ≤ 3 * (i : Int)
  a : c.at_ ≤ 1 + 2 * (i : Int)

def plan (prog : Program) (w : World) (P : Params) (xm dm xu du l nums : Addr) (t1 t2 t3 t4 : Tok) (lst : Obj) : Plan St where
  Led := fun c => [(dm, midO P t1 t2 t3 xu c.vc c.n c.tn), (du, undO P t4 c.vm), (l, stO c.at_ c.ta nums c.z c.tz)]
  cst := [(xm, instObj 59 dm), (xu, instObj 131 du), (nums, lst)]
  ps := fun c => [(Str.ofString "below", c.vb), (Str.ofString "held", c.vh), (Str.ofString "times", .int c.n c.tt), (Str.ofString "made", .int c.made c.tm)]
  stored := [Str.ofString "way", Str.ofString "again"]
  adr := [dm, du, l, xm, xu, nums]
  Facts := Fact prog w
  P := Bnd

section
variable {prog : Program} {w : World} {A : Around} {E : Value → Shared → Prop} {s : Shared} {env : Env} {h₀ : Heap} {body : List Stmt} {Q : Flow → Shared → Prop}
  {P : Params} {xm dm xu du l nums : Addr} {t1 t2 t3 t4 : Tok} {lst : Obj}

theorem outer {r : Addr} {t₀ u₀ v₀ tt tm tn ta tz : Tok} {z : Int} {m₀ : Str → Option Value} {news : List (Addr × Obj)}
    (hh : A.handled = none) (hr : IsRange s.heap r 0 8 1 t₀ u₀ v₀) (F : Fr h₀ env.locals s.heap m₀) (N : News h₀ env.locals s.heap news)
    (m1 : (xm, instObj 59 dm) ∈ news) (m2 : (dm, midO P t1 t2 t3 xu .none 0 tn) ∈ news) (m3 : (xu, instObj 131 du) ∈ news) (m4 : (du, undO P t4 .none) ∈ news) (m5 : (l, stO (0 + 1) ta nums z tz) ∈ news) (m6 : (nums, lst) ∈ news)
    (n1 : m₀ (Str.ofString "below") = some .none) (n2 : m₀ (Str.ofString "held") = some .none) (n3 : m₀ (Str.ofString "times") = some (.int 0 tt)) (n4 : m₀ (Str.ofString "made") = some (.int 0 tm)) (hz0 : 0 ≤ z) (hz1 : z < 7883)
    (turn : ∀ (vb vh vc vm : Value) (db dh : D) (n made at_ z : Int) (tt tm tn ta tz : Tok) T (i : Nat) t (u : Str → Option Value) h tk, i < 8 → OwnOff T [dm, du, l, xm, xu, nums] →
      Rep prog w T vb db → Rep prog w T vm db → Rep prog w T vh dh → Rep prog w T vc dh → Good db → Good dh → 0 ≤ n → 0 ≤ made → 0 ≤ at_ → 0 ≤ z → z < 7883 → n ≤ 3 * (i : Int) → made ≤ 3 * (i : Int) → at_ ≤ 1 + 2 * (i : Int) →
      Fr h₀ env.locals h (fun y => if y = Str.ofString "turn" then some (.int i t) else if y = Str.ofString "below" then some vb else if y = Str.ofString "held" then some vh else if y = Str.ofString "times" then some (.int n tt) else
        if y = Str.ofString "made" then some (.int made tm) else if ([Str.ofString "way", Str.ofString "again"] : List Str).contains y then u y else m₀ y) →
      News h₀ env.locals h ((dm, midO P t1 t2 t3 xu vc n tn) :: (du, undO P t4 vm) :: (l, stO at_ ta nums z tz) :: (xm, instObj 59 dm) :: (xu, instObj 131 du) :: (nums, lst) :: T) →
      wpAny (model prog w) A (execs body env) ((plan prog w P xm dm xu du l nums t1 t2 t3 t4 lst).Post h₀ env.locals (Str.ofString "turn") m₀ T (i + 1) { s with heap := h, toks := tk } Q) E { s with heap := h, toks := tk })
    (done : ∀ (vb vh vc vm : Value) (db dh : D) (n made at_ z : Int) (tt tm tn ta tz : Tok) T (u : Str → Option Value) h tk, OwnOff T [dm, du, l, xm, xu, nums] →
      Rep prog w T vb db → Rep prog w T vm db → Rep prog w T vh dh → Rep prog w T vc dh → Good db → Good dh → 0 ≤ n → 0 ≤ made → n ≤ 24 →
      Fr h₀ env.locals h (fun y => if y = Str.ofString "turn" then u y else if y = Str.ofString "below" then some vb else if y = Str.ofString "held" then some vh else if y = Str.ofString "times" then some (.int n tt) else
        if y = Str.ofString "made" then some (.int made tm) else if ([Str.ofString "way", Str.ofString "again"] : List Str).contains y then u y else m₀ y) →
      News h₀ env.locals h ((dm, midO P t1 t2 t3 xu vc n tn) :: (du, undO P t4 vm) :: (l, stO at_ ta nums z tz) :: (xm, instObj 59 dm) :: (xu, instObj 131 du) :: (nums, lst) :: T) →
      Q .next { s with heap := h, toks := tk }) :
    wpAny (model prog w) A (pyIter (.ref r)) (fun it s₂ => LoopAtV prog w A h₀ env (Str.ofString "turn") body Q E it s₂) E s := by
  refine rng (plan prog w P xm dm xu du l nums t1 t2 t3 t4 lst) (n := 8) (T₀ := []) ⟨.none, .none, .none, .none, .none, .none, 0, 0, 0 + 1, z, tt, tm, tn, ta, tz⟩ hh hr (by decide) (by decide) F N ?_ (fun _ => rfl) (fun _ h => nomatch h) ?_ ?_ ?_ ?_ ?_ ?_ ?_
  · intro p hp
    simp only [plan, List.cons_append, List.nil_append, List.append_nil, List.mem_cons, List.not_mem_nil, or_false] at hp
    rcases hp with rfl | rfl | rfl | rfl | rfl | rfl <;> assumption
  · exact ⟨.none, .none, .none, .none, good_none, good_none, (show (0 : Int) ≤ 0 by decide), (show (0 : Int) ≤ 0 by decide), (show (0 : Int) ≤ 0 + 1 by decide), hz0, hz1⟩
  · intro p hp
    simp only [plan, List.mem_cons, List.not_mem_nil, or_false] at hp
    rcases hp with rfl | rfl | rfl | rfl <;> assumption
  · exact ⟨by simp, by simp, by simp⟩
  · rintro T T' c hs ⟨a1, a2, a3, a4, a5, a6, a7, a8, a9, b1, b2⟩
    exact ⟨a1.mono hs, a2.mono hs, a3.mono hs, a4.mono hs, a5, a6, a7, a8, a9, b1, b2⟩
  · rintro T I c hI ⟨a1, a2, a3, a4, a5, a6, a7, a8, a9, b1, b2⟩
    exact ⟨a1.off hI, a2.off hI, a3.off hI, a4.off hI, a5, a6, a7, a8, a9, b1, b2⟩
  · rintro ⟨vb, vh, vc, vm, db, dh, n, made, at_, z, tt, tm, tn, ta, tz⟩ T i t u h tk hi hoT _ ⟨a1, a2, a3, a4, a5, a6, a7, a8, a9, b1, b2⟩ ⟨c1, c2, c3⟩ F' N'
    exact turn vb vh vc vm db dh n made at_ z tt tm tn ta tz T i t u h tk hi hoT a1 a2 a3 a4 a5 a6 a7 a8 a9 b1 b2 c1 c2 c3 F' N'
  · rintro ⟨vb, vh, vc, vm, db, dh, n, made, at_, z, tt, tm, tn, ta, tz⟩ T u h tk hoT _ ⟨a1, a2, a3, a4, a5, a6, a7, a8, a9, b1, b2⟩ ⟨c1, c2, c3⟩ F' N'
    exact done vb vh vc vm db dh n made at_ z tt tm tn ta tz T u h tk hoT a1 a2 a3 a4 a5 a6 a7 a8 (by simp only at c1; omega) F' N'

theorem outer_end {L : Addr} {m₀ m' : Str → Option Value} {T T' news' : List (Addr × Obj)} {i : Nat} {s₁ : Shared} {h' : Heap} {tk : Nat} {vb vh vc vm : Value} {db dh : D} {n nc made at_ z : Int} {tt tm tn ta tz : Tok}
    (F : Fr h₀ L h' m') (N : News h₀ L h' news')
    (n1 : m' (Str.ofString "below") = some vb) (n2 : m' (Str.ofString "held") = some vh) (n3 : m' (Str.ofString "times") = some (.int n tt)) (n4 : m' (Str.ofString "made") = some (.int made tm))
    (m2 : (dm, midO P t1 t2 t3 xu vc nc tn) ∈ news') (hnn : nc = n) (m4 : (du, undO P t4 vm) ∈ news') (m5 : (l, stO at_ ta nums z tz) ∈ news') (m1 : (xm, instObj 59 dm) ∈ news') (m3 : (xu, instObj 131 du) ∈ news') (m6 : (nums, lst) ∈ news')
    (hT : Sub T' news') (hoT : OwnOff T' [dm, du, l, xm, xu, nums]) (hs : Sub T T')
    (a1 : Rep prog w T' vb db) (a2 : Rep prog w T' vm db) (a3 : Rep prog w T' vh dh) (a4 : Rep prog w T' vc dh) (a5 : Good db) (a6 : Good dh) (a7 : 0 ≤ n) (a8 : 0 ≤ made) (a9 : 0 ≤ at_) (b1 : 0 ≤ z) (b2 : z < 7883)
    (c1 : n ≤ 3 * ((i + 1 : Nat) : Int)) (c2 : made ≤ 3 * ((i + 1 : Nat) : Int)) (c3 : at_ ≤ 1 + 2 * ((i + 1 : Nat) : Int))
    (off : ∀ y, y ≠ Str.ofString "turn" → y ≠ Str.ofString "below" → y ≠ Str.ofString "held" → y ≠ Str.ofString "times" → y ≠ Str.ofString "made" → y ≠ Str.ofString "way" → y ≠ Str.ofString "again" → m' y = m₀ y) :
    (plan prog w P xm dm xu du l nums t1 t2 t3 t4 lst).Post h₀ L (Str.ofString "turn") m₀ T (i + 1) s₁ Q .next { s₁ with heap := h', toks := tk } := by
  obtain rfl : n = nc := hnn.symm
  refine ⟨⟨vb, vh, vc, vm, db, dh, n, made, at_, z, tt, tm, tn, ta, tz⟩, T', news', m', h', tk, rfl, F, N, ?_, hs.sub, hoT, ⟨a1, a2, a3, a4, a5, a6, a7, a8, a9, b1, b2⟩, ⟨?_, ?_⟩, ⟨c1, c2, c3⟩⟩
  · intro p hp
    simp only [plan, List.cons_append, List.nil_append, List.mem_cons] at hp
    rcases hp with rfl | rfl | rfl | rfl | rfl | rfl | hp <;> first | assumption | exact hT.sub _ hp
  · intro p hp
    simp only [plan, List.mem_cons, List.not_mem_nil, or_false] at hp
    rcases hp with rfl | rfl | rfl | rfl <;> assumption
  · intro y hy hps hst
    have hc : y ≠ Str.ofString "way" ∧ y ≠ Str.ofString "again" := by
      simp only [plan, List.contains_cons, List.contains_nil, Bool.or_false, Bool.or_eq_false_iff, beq_eq_false_iff_ne, ne_eq] at hst
      exact hst
    exact off y hy (hps (_, vb) (.head _)) (hps (_, vh) (.tail _ (.head _))) (hps (_, .int n tt) (.tail _ (.tail _ (.head _)))) (hps (_, .int made tm) (.tail _ (.tail _ (.tail _ (.head _))))) hc.1 hc.2
end
end Mine

end
section
open PySem PySem.W PyProof.Rows PySem.Calls PySem.Spec PyProof.V
namespace Mine

structure St2 where
  vh : Value
  vc : Value
  dh : D
  n : Int
  made : Int
  tt : Tok
  tm : Tok
  tn : Tok
structure Fact2 (prog : Program) (w : World) (T : List (Addr × Obj)) (c : St2) : Prop where
  rh : Rep prog w T c.vh c.dh
  rc : Rep prog w T c.vc c.dh
  gh : Good c.dh
  n0 : 0 ≤ c.n
  m0 : 0 ≤ c.made
structure Bnd2 (n₀ made₀ : Int) (j : Nat) (c : St2) : Prop where
  n : c.n ≤ n₀ + (j : Int)
  m : c.made ≤ made₀ + (j : Int)

def plan2 (prog : Program) (w : World) (P : Params) (xm dm xu du l nums : Addr) (t1 t2 t3 : Tok) (lst od ol : Obj) (n₀ made₀ : Int) : Plan St2 where
  Led := fun c => [(dm, midO P t1 t2 t3 xu c.vc c.n c.tn)]
  cst := [(du, od), (l, ol), (xm, instObj 59 dm), (xu, instObj 131 du), (nums, lst)]
  ps := fun c => [(Str.ofString "held", c.vh), (Str.ofString "times", .int c.n c.tt), (Str.ofString "made", .int c.made c.tm)]
  stored := []
  adr := [dm, du, l, xm, xu, nums]
  Facts := Fact2 prog w
  P := Bnd2 n₀ made₀

section
variable {prog : Program} {w : World} {A : Around} {E : Value → Shared → Prop} {s : Shared} {env : Env} {h₀ : Heap} {body : List Stmt} {Q : Flow → Shared → Prop}
  {P : Params} {xm dm xu du l nums : Addr} {t1 t2 t3 : Tok} {lst od ol : Obj}

theorem inner {r : Addr} {k : Int} {t₀ u₀ v₀ tt tm tn : Tok} {vh vc : Value} {dh : D} {n made : Int} {m₀ : Str → Option Value} {T news : List (Addr × Obj)}
    (hh : A.handled = none) (hr : IsRange s.heap r 0 (1 + k) 1 t₀ u₀ v₀) (F : Fr h₀ env.locals s.heap m₀) (N : News h₀ env.locals s.heap news) (hk0 : 0 ≤ k) (hk3 : k < 3)
    (n2 : m₀ (Str.ofString "held") = some vh) (n3 : m₀ (Str.ofString "times") = some (.int n tt)) (n4 : m₀ (Str.ofString "made") = some (.int made tm))
    (m2 : (dm, midO P t1 t2 t3 xu vc n tn) ∈ news) (m4 : (du, od) ∈ news) (m5 : (l, ol) ∈ news) (m1 : (xm, instObj 59 dm) ∈ news) (m3 : (xu, instObj 131 du) ∈ news) (m6 : (nums, lst) ∈ news)
    (hoT : OwnOff T [dm, du, l, xm, xu, nums]) (hT : Sub T news) (a3 : Rep prog w T vh dh) (a4 : Rep prog w T vc dh) (a6 : Good dh) (a7 : 0 ≤ n) (a8 : 0 ≤ made)
    (turn : ∀ (vh vc : Value) (dh : D) (n' made' : Int) (tt tm tn : Tok) T' (i : Nat) t (u : Str → Option Value) h tk, i < 3 → OwnOff T' [dm, du, l, xm, xu, nums] → Sub T T' →
      Rep prog w T' vh dh → Rep prog w T' vc dh → Good dh → 0 ≤ n' → 0 ≤ made' → n' ≤ n + (i : Int) → made' ≤ made + (i : Int) →
      Fr h₀ env.locals h (fun y => if y = Str.ofString "again" then some (.int i t) else if y = Str.ofString "held" then some vh else if y = Str.ofString "times" then some (.int n' tt) else
        if y = Str.ofString "made" then some (.int made' tm) else if ([] : List Str).contains y then u y else m₀ y) →
      News h₀ env.locals h ((dm, midO P t1 t2 t3 xu vc n' tn) :: (du, od) :: (l, ol) :: (xm, instObj 59 dm) :: (xu, instObj 131 du) :: (nums, lst) :: T') →
      wpAny (model prog w) A (execs body env) ((plan2 prog w P xm dm xu du l nums t1 t2 t3 lst od ol n made).Post h₀ env.locals (Str.ofString "again") m₀ T' (i + 1) { s with heap := h, toks := tk } Q) E { s with heap := h, toks := tk })
    (done : ∀ (vh vc : Value) (dh : D) (n' made' : Int) (tt tm tn : Tok) T' (u : Str → Option Value) h tk, OwnOff T' [dm, du, l, xm, xu, nums] → Sub T T' →
      Rep prog w T' vh dh → Rep prog w T' vc dh → Good dh → 0 ≤ n' → 0 ≤ made' → n' ≤ n + 3 → made' ≤ made + 3 →
      Fr h₀ env.locals h (fun y => if y = Str.ofString "again" then u y else if y = Str.ofString "held" then some vh else if y = Str.ofString "times" then some (.int n' tt) else
        if y = Str.ofString "made" then some (.int made' tm) else if ([] : List Str).contains y then u y else m₀ y) →
      News h₀ env.locals h ((dm, midO P t1 t2 t3 xu vc n' tn) :: (du, od) :: (l, ol) :: (xm, instObj 59 dm) :: (xu, instObj 131 du) :: (nums, lst) :: T') →
      Q .next { s with heap := h, toks := tk }) :
    wpAny (model prog w) A (pyIter (.ref r)) (fun it s₂ => LoopAtV prog w A h₀ env (Str.ofString "again") body Q E it s₂) E s := by
  refine rng (plan2 prog w P xm dm xu du l nums t1 t2 t3 lst od ol n made) (n := (1 + k - 0).toNat) (T₀ := T) ⟨vh, vc, dh, n, made, tt, tm, tn⟩ hh hr (small_one (by omega) (by omega) (by omega) (by omega)) (rangeSize_nat _ _) F N ?_ (fun _ => rfl) hoT ?_ ?_ ?_ ?_ ?_ ?_ ?_
  · intro p hp
    simp only [plan2, List.cons_append, List.nil_append, List.mem_cons] at hp
    rcases hp with rfl | rfl | rfl | rfl | rfl | rfl | hp <;> first | assumption | exact hT.sub _ hp
  · exact ⟨a3, a4, a6, a7, a8⟩
  · intro p hp
    simp only [plan2, List.mem_cons, List.not_mem_nil, or_false] at hp
    rcases hp with rfl | rfl | rfl <;> assumption
  · exact ⟨by simp, by simp⟩
  · rintro T T' c hs ⟨a1, a2, a3, a4, a5⟩
    exact ⟨a1.mono hs, a2.mono hs, a3, a4, a5⟩
  · rintro T I c hI ⟨a1, a2, a3, a4, a5⟩
    exact ⟨a1.off hI, a2.off hI, a3, a4, a5⟩
  · rintro ⟨vh, vc, dh, n', made', tt, tm, tn⟩ T' i t u h tk hi hoT' hs ⟨b1, b2, b3, b4, b5⟩ ⟨c1, c2⟩ F' N'
    exact turn vh vc dh n' made' tt tm tn T' i t u h tk (by omega) hoT' ⟨hs⟩ b1 b2 b3 b4 b5 c1 c2 F' N'
  · rintro ⟨vh, vc, dh, n', made', tt, tm, tn⟩ T' u h tk hoT' hs ⟨b1, b2, b3, b4, b5⟩ ⟨c1, c2⟩ F' N'
    exact done vh vc dh n' made' tt tm tn T' u h tk hoT' ⟨hs⟩ b1 b2 b3 b4 b5 (by simp only at c1; omega) (by simp only at c2; omega) F' N'

theorem inner_end {L : Addr} {m₀ m' : Str → Option Value} {T T' news' : List (Addr × Obj)} {i : Nat} {s₁ : Shared} {h' : Heap} {tk : Nat} {vh vc : Value} {dh : D} {n made n₀ made₀ : Int} {tt tm tn : Tok}
    (F : Fr h₀ L h' m') (N : News h₀ L h' news')
    (n2 : m' (Str.ofString "held") = some vh) (n3 : m' (Str.ofString "times") = some (.int n tt)) (n4 : m' (Str.ofString "made") = some (.int made tm))
    (m2 : (dm, midO P t1 t2 t3 xu vc n tn) ∈ news') (m4 : (du, od) ∈ news') (m5 : (l, ol) ∈ news') (m1 : (xm, instObj 59 dm) ∈ news') (m3 : (xu, instObj 131 du) ∈ news') (m6 : (nums, lst) ∈ news')
    (hT : Sub T' news') (hoT : OwnOff T' [dm, du, l, xm, xu, nums]) (hs : Sub T T') (a3 : Rep prog w T' vh dh) (a4 : Rep prog w T' vc dh) (a6 : Good dh) (a7 : 0 ≤ n) (a8 : 0 ≤ made)
    (c1 : n ≤ n₀ + ((i + 1 : Nat) : Int)) (c2 : made ≤ made₀ + ((i + 1 : Nat) : Int))
    (off : ∀ y, y ≠ Str.ofString "again" → y ≠ Str.ofString "held" → y ≠ Str.ofString "times" → y ≠ Str.ofString "made" → m' y = m₀ y) :
    (plan2 prog w P xm dm xu du l nums t1 t2 t3 lst od ol n₀ made₀).Post h₀ L (Str.ofString "again") m₀ T (i + 1) s₁ Q .next { s₁ with heap := h', toks := tk } := by
  refine ⟨⟨vh, vc, dh, n, made, tt, tm, tn⟩, T', news', m', h', tk, rfl, F, N, ?_, hs.sub, hoT, ⟨a3, a4, a6, a7, a8⟩, ⟨?_, ?_⟩, ⟨c1, c2⟩⟩
  · intro p hp
    simp only [plan2, List.cons_append, List.nil_append, List.mem_cons] at hp
    rcases hp with rfl | rfl | rfl | rfl | rfl | rfl | hp <;> first | assumption | exact hT.sub _ hp
  · intro p hp
    simp only [plan2, List.mem_cons, List.not_mem_nil, or_false] at hp
    rcases hp with rfl | rfl | rfl <;> assumption
  · intro y hy hps _
    exact off y hy (hps (_, vh) (.head _)) (hps (_, .int n tt) (.tail _ (.head _))) (hps (_, .int made tm) (.tail _ (.tail _ (.head _))))
end
end Mine

end
section
open PySem PySem.W PyProof.Rows PySem.Calls PySem.Spec PyProof.V
namespace Mine

theorem one_ne {k : Str} {d : D} : D.one k d ≠ D.none := fun h => nomatch h

structure St3 where
  vc : Value
  n : Int
  tn : Tok
def Fact3 (prog : Program) (w : World) (T : List (Addr × Obj)) (c : St3) : Prop := 0 < c.n → Rep prog w T c.vc (.one (Str.ofString "v") (.int (c.n - 1)))

def plan3 (prog : Program) (w : World) (P : Params) (xm dm xu du l nums : Addr) (t1 t2 t3 : Tok) (lst od ol : Obj) : Plan St3 where
  Led := fun c => [(dm, midO P t1 t2 t3 xu c.vc c.n c.tn)]
  cst := [(du, od), (l, ol), (xm, instObj 59 dm), (xu, instObj 131 du), (nums, lst)]
  ps := fun _ => []
  stored := []
  adr := [dm, du, l, xm, xu, nums]
  Facts := Fact3 prog w
  P := fun j c => c.n = (j : Int)

section
variable {prog : Program} {w : World} {A : Around} {E : Value → Shared → Prop} {s : Shared} {env : Env} {h₀ : Heap} {body : List Stmt} {Q : Flow → Shared → Prop}
  {P : Params} {xm dm xu du l nums : Addr} {t1 t2 t3 : Tok} {lst od ol : Obj}

theorem last {r : Addr} {t₀ u₀ v₀ tn : Tok} {vc : Value} {n : Int} {m₀ : Str → Option Value} {T news : List (Addr × Obj)}
    (hh : A.handled = none) (hr : IsRange s.heap r 0 999 1 t₀ u₀ v₀) (F : Fr h₀ env.locals s.heap m₀) (N : News h₀ env.locals s.heap news)
    (m2 : (dm, midO P t1 t2 t3 xu vc n tn) ∈ news) (hn : n = 0) (m4 : (du, od) ∈ news) (m5 : (l, ol) ∈ news) (m1 : (xm, instObj 59 dm) ∈ news) (m3 : (xu, instObj 131 du) ∈ news) (m6 : (nums, lst) ∈ news)
    (hoT : OwnOff T [dm, du, l, xm, xu, nums]) (hT : Sub T news)
    (turn : ∀ (vc : Value) (tn : Tok) T' (i : Nat) t (u : Str → Option Value) h tk, i < 999 → OwnOff T' [dm, du, l, xm, xu, nums] → Sub T T' →
      Fr h₀ env.locals h (fun y => if y = Str.ofString "turn" then some (.int i t) else if ([] : List Str).contains y then u y else m₀ y) →
      News h₀ env.locals h ((dm, midO P t1 t2 t3 xu vc (i : Int) tn) :: (du, od) :: (l, ol) :: (xm, instObj 59 dm) :: (xu, instObj 131 du) :: (nums, lst) :: T') →
      wpAny (model prog w) A (execs body env) ((plan3 prog w P xm dm xu du l nums t1 t2 t3 lst od ol).Post h₀ env.locals (Str.ofString "turn") m₀ T' (i + 1) { s with heap := h, toks := tk } Q) E { s with heap := h, toks := tk })
    (done : ∀ (vc : Value) (tn : Tok) T' (u : Str → Option Value) h tk, OwnOff T' [dm, du, l, xm, xu, nums] → Sub T T' → Rep prog w T' vc (.one (Str.ofString "v") (.int 998)) →
      Fr h₀ env.locals h (fun y => if y = Str.ofString "turn" then u y else if ([] : List Str).contains y then u y else m₀ y) →
      News h₀ env.locals h ((dm, midO P t1 t2 t3 xu vc 999 tn) :: (du, od) :: (l, ol) :: (xm, instObj 59 dm) :: (xu, instObj 131 du) :: (nums, lst) :: T') →
      Q .next { s with heap := h, toks := tk }) :
    wpAny (model prog w) A (pyIter (.ref r)) (fun it s₂ => LoopAtV prog w A h₀ env (Str.ofString "turn") body Q E it s₂) E s := by
  refine rng (plan3 prog w P xm dm xu du l nums t1 t2 t3 lst od ol) (n := 999) (T₀ := T) ⟨vc, n, tn⟩ hh hr (by decide) (by decide) F N ?_ (fun _ => rfl) hoT ?_ ?_ ?_ ?_ ?_ ?_ ?_
  · intro p hp
    simp only [plan3, List.cons_append, List.nil_append, List.mem_cons] at hp
    rcases hp with rfl | rfl | rfl | rfl | rfl | rfl | hp <;> first | assumption | exact hT.sub _ hp
  · intro h
    simp only at h
    omega
  · exact fun _ hp => nomatch hp
  · exact hn
  · exact fun T T' c hs h hc => (h hc).mono hs
  · exact fun T I c hI h hc => (h hc).off hI
  · rintro ⟨vc, n', tn⟩ T' i t u h tk hi hoT' hs _ hP F' N'
    have hP' : n' = (i : Int) := hP
    subst hP'
    exact turn vc tn T' i t u h tk hi hoT' ⟨hs⟩ F' N'
  · rintro ⟨vc, n', tn⟩ T' u h tk hoT' hs hf hP F' N'
    have hP' : n' = ((999 : Nat) : Int) := hP
    subst hP'
    exact done vc tn T' u h tk hoT' ⟨hs⟩ (hf (show (0 : Int) < ((999 : Nat) : Int) by decide)) F' N'

theorem last_end {L : Addr} {m₀ m' : Str → Option Value} {T news' : List (Addr × Obj)} {i : Nat} {s₁ : Shared} {h' : Heap} {tk : Nat} {tn t : Tok} {a : Addr} {o : Obj}
    (F : Fr h₀ L h' m') (N : News h₀ L h' news')
    (m2 : (dm, midO P t1 t2 t3 xu (.ref a) ((i : Int) + 1) tn) ∈ news') (mD : (a, o) ∈ news') (kD : (a == sysModules) = false) (pD : o.IsDictOf (PySem.strKind prog w) [(Str.ofString "v", .int (i : Int) t)]) (fD : ∀ b ∈ [dm, du, l, xm, xu, nums], a ≠ b)
    (m4 : (du, od) ∈ news') (m5 : (l, ol) ∈ news') (m1 : (xm, instObj 59 dm) ∈ news') (m3 : (xu, instObj 131 du) ∈ news') (m6 : (nums, lst) ∈ news')
    (hoT : OwnOff T [dm, du, l, xm, xu, nums]) (hT : Sub T news') (off : ∀ y, y ≠ Str.ofString "turn" → m' y = m₀ y) :
    (plan3 prog w P xm dm xu du l nums t1 t2 t3 lst od ol).Post h₀ L (Str.ofString "turn") m₀ T (i + 1) s₁ Q .next { s₁ with heap := h', toks := tk } := by
  refine ⟨⟨.ref a, (i : Int) + 1, tn⟩, (a, o) :: T, news', m', h', tk, rfl, F, N, ?_, fun p hp => .tail _ hp, ownOff_cons fD hoT, ?_, ⟨(fun _ hp => nomatch hp), (fun y hy _ _ => off y hy)⟩, ?_⟩
  · intro p hp
    simp only [plan3, List.cons_append, List.nil_append, List.mem_cons] at hp
    rcases hp with rfl | rfl | rfl | rfl | rfl | rfl | rfl | hp <;> first | assumption | exact hT.sub _ hp
  · intro _
    refine .one (.head _) kD pD ?_
    show Rep prog w _ _ (.int ((i : Int) + 1 - 1))
    rw [Int.add_sub_cancel]
    exact .int _ _
  · show (i : Int) + 1 = ((i + 1 : Nat) : Int)
    omega

theorem cmp_ne_disp {news T₁ : List (Addr × Obj)} {v : Value} {a : Addr} {o : Obj} {k : Str} {j : Int} {t : Tok} {L : Addr} {Q : Value → Shared → Prop} (N : News h₀ L s.heap news) (r1 : Rep prog w T₁ v (.one k (.int j))) (s1 : Sub T₁ news)
    (m : (a, o) ∈ news) (ka : (a == sysModules) = false) (ho : o.IsDictOf (PySem.strKind prog w) [(k, .int j t)]) (hu : A.units + 3 < cLine) (h : Q (.bool false) s) : wpAny (model prog w) A (compareOp .NotEq v (.ref a)) Q E s :=
  rep_ne N s1.sub (fun _ h => h) r1 (.one m ka ho (.int j t)) (by simp only [D.depth]; omega) h
theorem cmp_eq_disp {news : List (Addr × Obj)} {a b : Addr} {o o' : Obj} {k : Str} {j : Int} {t t' : Tok} {L : Addr} {Q : Value → Shared → Prop} (N : News h₀ L s.heap news)
    (m : (a, o) ∈ news) (m' : (b, o') ∈ news) (ka : (a == sysModules) = false) (kb : (b == sysModules) = false) (ho : o.IsDictOf (PySem.strKind prog w) [(k, .int j t)]) (ho' : o'.IsDictOf (PySem.strKind prog w) [(k, .int j t')]) (hu : A.units + 3 < cLine) (h : Q (.bool true) s) :
    wpAny (model prog w) A (compareOp .Eq (.ref a) (.ref b)) Q E s :=
  rep_eq N (fun _ h => h) (fun _ h => h) (.one m ka ho (.int j t)) (.one m' kb ho' (.int j t')) (by simp only [D.depth]; omega) h
end
end Mine

end
open PySem PySem.W PyProof.Rows
local macro_rules | `(tactic| walk_at "getMethod ref") => `(tactic| (k_here; ks_any; k_dflt (refine' MineSup.method ?k1 ?k2 ?k3 ?k4 ?k5 ?k6 ?k7 ?k8 ?k9 ?_; (case k1 => k_asm); (case k2 => k_asm); (case k3 => k_asm); (case k4 => k_mem); (case k5 => k_inst); (case k6 => k_is); (case k7 => ks_is); (case k8 => decide); (case k9 => k_is); intro q' h' F' N' l1; (try k_lt l1))))
local macro_rules | `(tactic| walk_at "callWith ref") => `(tactic| (k_here; (with_reducible show wpAny _ (_root_.PySem.Around.deeper _ (ksEnv _ _ _ _ _ _)) (callWith _ (Value.ref _) [] (backTo _ (starEach [] _)) []) _ _ _); k_dflt (refine' MineSup.callWith_oi ?kN ?kM ?_; (case kN => k_asm); (case kM => k_mem))))
local macro_rules | `(tactic| walk_at "call ref") => `(tactic| (k_here; (with_reducible show wpAny _ _ (call (Value.ref _) [Value.ref _, Value.int _ _]) _ _ _); (fail_if_success (with_reducible show wpAny _ _ _ (Mine.DrawPost _ _ _ _ _ _ _ _) _ _)); k_dflt (refine' Mine.draw_join ?kF ?kN ?kU ?_ ?_; (case kF => k_asm); (case kN => k_asm); (case kU => k_updF)); (intro r' t' ta' tz' z' h' tk' hr0' hr1' hz0' hz1' F' N'; (try dsimp only at N'); (try dsimp only); (try k_fold))))
local macro_rules | `(tactic| walk_at "DrawPost") => `(tactic| (k_dflt (refine' Mine.draw_end ?k1 ?k2 ?k3 ?k4 ?kF ?kN; (case kF => k_asm); (case kN => k_asm); (case k1 => exact Int.fmod_nonneg_of_pos _ (by decide)); (case k2 => exact Int.fmod_lt_of_pos _ (by decide)); (case k3 => first | assumption | exact Int.fmod_nonneg_of_pos _ (by decide)); (case k4 => first | assumption | exact Int.fmod_lt_of_pos _ (by decide)))))
local macro_rules | `(tactic| walk_at "exec For Name Call cons nil") => `(tactic| (k_here; (rename Fr _ _ _ _ => lF'); (with_unfolding_all refine' For_invVF lF' ?k1 ?k2 ?_; (case k1 => exact rfl); (case k2 => exact rfl); k_whole)))
local macro_rules | `(tactic| walk_at "pyIter ref") => `(tactic| (k_here; (with_reducible show wpAny _ _ (pyIter (Value.ref _)) (fun it s₂ => LoopAtV _ _ _ _ _ (PySem.Str.ofString "turn") _ _ _ it s₂) _ _); (rename Fr _ _ _ _ => lF'); (rename News _ _ _ _ => lN'); (rename IsRange _ _ _ _ _ _ _ _ => rgX); k_dflt (refine' Mine.outer ?k1 rgX lF' lN' ?m1 ?m2 ?m3 ?m4 ?m5 ?m6 ?n1 ?n2 ?n3 ?n4 ?z0 ?z1 ?_ ?_; (case k1 => rfl); (case m1 => k_mem); (case m2 => k_mem); (case m3 => k_mem); (case m4 => k_mem); (case m5 => k_mem); (case m6 => k_mem); (case n1 => rfl); (case n2 => rfl); (case n3 => rfl); (case n4 => rfl); (case z0 => assumption); (case z1 => assumption)); (all_goals (clear lF' lN')); (intro vb' vh' vc' vm' db' dh' n' made' at' z' tt' tm' tn' ta' tz' T' i' t' u' h' tk' hi' hoT' a1' a2' a3' a4' a5' a6' a7' a8' a9' b1' b2' c1' c2' c3' F' N'; (dsimp only [Mine.midO, Mine.undO, Mine.stO] at N'); (try k_fold)); rotate_left; (intro vb' vh' vc' vm' db' dh' n' made' at' z' tt' tm' tn' ta' tz' T' u' h' tk' hoT' a1' a2' a3' a4' a5' a6' a7' a8' c1' F' N'; (dsimp only [Mine.midO, Mine.undO, Mine.stO] at N'); (try k_fold)); rotate_left))
local macro_rules | `(tactic| walk_at "subscriptTail") => `(tactic| (k_here; (with_reducible show wpAny _ _ (subscriptTail _ _ (Value.ref _) (Value.int _ _)) _ _ _); (with_unfolding_all refine' Mine.my_item ?k1 ?k2 ?k3 ?k4 ?k5 ?_ ?k6; (case k1 => k_asm); (case k2 => k_mem); (case k3 => decide); (case k4 => decide); (case k5 => rfl); (case k6 => with_unfolding_all rfl); k_whole)))
local macro_rules | `(tactic| k_in) => `(tactic| ((with_reducible rename Fr _ _ _ _ => kF9); (with_reducible rename Frag.In _ _ => kX9); exact Frag.In.keeps kX9 (Fr.keep kF9)))
local macro_rules | `(tactic| walk_at "compareOp Is") => `(tactic| (k_here; (with_reducible show wpAny _ _ (compareOp CmpOp.Is _ Value.none) _ _ _); k_dflt (refine' Mine.is_none ?kr ?_ ?_; (case kr => assumption)); (intro hd'; try (first | exact absurd hd' (by assumption) | exact absurd hd' Mine.one_ne)); rotate_left; (intro hd'; try (exact absurd (by assumption) hd')); rotate_left))
local macro_rules | `(tactic| k_handed) => `(tactic| exact Mine.Rep.handed (by assumption))
local macro_rules | `(tactic| walk_at "compareOp NotEq") => `(tactic| (k_here; (with_reducible show wpAny _ _ (compareOp CmpOp.NotEq _ _) _ _ _); k_dflt (refine' Mine.cmp_ne ?kN ?r1 ?r2 ?s1 ?s2 ?g ?hu ?_; (case kN => k_asm); (case r1 => assumption); (case r2 => assumption); (case g => first | assumption | exact Mine.good_data _); (case hu => exact Nat.le_of_ble_eq_true rfl); (case s1 => (repeat (with_reducible refine Mine.Sub.tail ?_)); first | with_reducible exact Mine.Sub.refl | assumption | exact Mine.Sub.trans (by assumption) (by assumption)); (case s2 => (repeat (with_reducible refine Mine.Sub.tail ?_)); first | with_reducible exact Mine.Sub.refl | assumption | exact Mine.Sub.trans (by assumption) (by assumption)))))
local macro_rules | `(tactic| walk_at "compareOp Eq") => `(tactic| (k_here; (with_reducible show wpAny _ _ (compareOp CmpOp.Eq _ _) _ _ _); k_dflt (refine' Mine.cmp_eq ?kN ?r1 ?r2 ?s1 ?s2 ?g ?hu ?_; (case kN => k_asm); (case r1 => assumption); (case r2 => assumption); (case g => first | assumption | exact Mine.good_data _); (case hu => exact Nat.le_of_ble_eq_true rfl); (case s1 => (repeat (with_reducible refine Mine.Sub.tail ?_)); first | with_reducible exact Mine.Sub.refl | assumption | exact Mine.Sub.trans (by assumption) (by assumption)); (case s2 => (repeat (with_reducible refine Mine.Sub.tail ?_)); first | with_reducible exact Mine.Sub.refl | assumption | exact Mine.Sub.trans (by assumption) (by assumption)))))
local macro_rules | `(tactic| walk_at "call ref") => `(tactic| (k_here; (with_reducible show wpAny _ _ (call (Value.ref _) [Value.int _ _]) _ _ _); (fail_if_success (with_reducible show wpAny _ _ _ (Mine.DataPost _ _ _ _ _ _ _ _ _) _ _)); (rename OwnOff _ _ => hoT9); k_dflt (refine' Mine.data_join ?kF ?kN hoT9 ?kg ?_ ?_; (case kF => k_asm); (case kN => k_asm); (case kg => first | with_reducible exact (Mine.Tail.cons (Mine.Tail.cons (Mine.Tail.cons (Mine.Tail.cons (Mine.Tail.cons (Mine.Tail.cons Mine.Tail.here)))))) | with_reducible exact (Mine.Tail.cons (Mine.Tail.cons (Mine.Tail.cons (Mine.Tail.cons (Mine.Tail.cons (Mine.Tail.cons (Mine.Tail.cons Mine.Tail.here))))))) | with_reducible exact (Mine.Tail.cons (Mine.Tail.cons (Mine.Tail.cons (Mine.Tail.cons (Mine.Tail.cons (Mine.Tail.cons (Mine.Tail.cons (Mine.Tail.cons Mine.Tail.here)))))))) | with_reducible exact (Mine.Tail.cons (Mine.Tail.cons (Mine.Tail.cons (Mine.Tail.cons (Mine.Tail.cons (Mine.Tail.cons (Mine.Tail.cons (Mine.Tail.cons (Mine.Tail.cons Mine.Tail.here))))))))) | with_reducible exact (Mine.Tail.cons (Mine.Tail.cons (Mine.Tail.cons (Mine.Tail.cons (Mine.Tail.cons (Mine.Tail.cons (Mine.Tail.cons (Mine.Tail.cons (Mine.Tail.cons (Mine.Tail.cons Mine.Tail.here)))))))))) | with_reducible exact (Mine.Tail.cons (Mine.Tail.cons (Mine.Tail.cons (Mine.Tail.cons (Mine.Tail.cons (Mine.Tail.cons (Mine.Tail.cons (Mine.Tail.cons (Mine.Tail.cons (Mine.Tail.cons (Mine.Tail.cons Mine.Tail.here))))))))))) | with_reducible exact (Mine.Tail.cons (Mine.Tail.cons (Mine.Tail.cons (Mine.Tail.cons (Mine.Tail.cons (Mine.Tail.cons (Mine.Tail.cons (Mine.Tail.cons (Mine.Tail.cons (Mine.Tail.cons (Mine.Tail.cons (Mine.Tail.cons Mine.Tail.here)))))))))))) | with_reducible exact (Mine.Tail.cons (Mine.Tail.cons (Mine.Tail.cons (Mine.Tail.cons (Mine.Tail.cons (Mine.Tail.cons (Mine.Tail.cons (Mine.Tail.cons (Mine.Tail.cons (Mine.Tail.cons (Mine.Tail.cons (Mine.Tail.cons (Mine.Tail.cons Mine.Tail.here))))))))))))))); (intro v' T' h' tk' hs' hoT' hr' F' N'; (try dsimp only at N'); (try dsimp only); (try k_sweep); (try k_fold))))
local macro_rules | `(tactic| walk_at "Post") => `(tactic| (k_dflt (refine' Mine.outer_end ?F ?N ?n1 ?n2 ?n3 ?n4 ?m2 ?hnn ?m4 ?m5 ?m1 ?m3 ?m6 ?hT ?hoT ?hs ?a1 ?a2 ?a3 ?a4 ?a5 ?a6 ?a7 ?a8 ?a9 ?b1 ?b2 ?c1 ?c2 ?c3 ?off; (case F => k_asm); (case N => k_asm); (case n1 => rfl); (case n2 => rfl); (case n3 => rfl); (case n4 => rfl); (case m2 => k_mem); (case hnn => first | rfl | omega); (case m4 => k_mem); (case m5 => k_mem); (case m1 => k_mem); (case m3 => k_mem); (case m6 => k_mem); (case hoT => with_reducible assumption); (case hT => (repeat (with_reducible refine Mine.Sub.tail ?_)); with_reducible exact Mine.Sub.refl); (case hs => first | with_reducible exact Mine.Sub.refl | assumption | exact Mine.Sub.trans (by assumption) (by assumption)); (case a1 => first | assumption | (refine' Mine.Rep.mono (Mine.Sub.sub ?zs) ?zr; (case zr => assumption); (case zs => first | assumption | exact Mine.Sub.trans (by assumption) (by assumption)))); (case a2 => first | assumption | (refine' Mine.Rep.mono (Mine.Sub.sub ?zs) ?zr; (case zr => assumption); (case zs => first | assumption | exact Mine.Sub.trans (by assumption) (by assumption)))); (case a3 => first | assumption | (refine' Mine.Rep.mono (Mine.Sub.sub ?zs) ?zr; (case zr => assumption); (case zs => first | assumption | exact Mine.Sub.trans (by assumption) (by assumption)))); (case a4 => first | assumption | (refine' Mine.Rep.mono (Mine.Sub.sub ?zs) ?zr; (case zr => assumption); (case zs => first | assumption | exact Mine.Sub.trans (by assumption) (by assumption)))); (case a5 => first | assumption | exact Mine.good_data _); (case a6 => first | assumption | exact Mine.good_data _); (case a7 => omega); (case a8 => omega); (case a9 => omega); (case b1 => omega); (case b2 => omega); (case c1 => omega); (case c2 => omega); (case c3 => omega); (case off => intro y h1 h2 h3 h4 h5 h6 h7; simp only [if_neg h1, if_neg h2, if_neg h3, if_neg h4, if_neg h5, if_neg h6, if_neg h7, List.contains_cons, List.contains_nil, beq_eq_false_iff_ne.mpr h6, beq_eq_false_iff_ne.mpr h7, Bool.or_false, Bool.false_eq_true, if_false]))))
local macro_rules | `(tactic| walk_at "DataPost") => `(tactic| (k_dflt (refine' Mine.data_end0 ?F ?N ?ha ?ho ?hm ?f1; (case F => k_asm); (case N => k_asm); (case ha => assumption); (case ho => assumption); (case hm => assumption); (case f1 => (repeat' (first | exact List.forall_mem_nil _ | refine List.forall_mem_cons.mpr ⟨?_, ?_⟩)); all_goals (refine neN ?_; omega)))))
local macro_rules | `(tactic| walk_at "DataPost") => `(tactic| (k_dflt (refine' Mine.data_end3 ?F ?N ?h1 ?h2 ?h3 ?p1 ?p2 ?p3 ?hm ?f1 ?f2 ?f3; (case F => k_asm); (case N => k_asm); (case h1 => assumption); (case h2 => assumption); (case h3 => assumption); (case p1 => assumption); (case p2 => assumption); (case p3 => assumption); (case hm => assumption); (case f1 => (repeat' (first | exact List.forall_mem_nil _ | refine List.forall_mem_cons.mpr ⟨?_, ?_⟩)); all_goals (refine neN ?_; omega)); (case f2 => (repeat' (first | exact List.forall_mem_nil _ | refine List.forall_mem_cons.mpr ⟨?_, ?_⟩)); all_goals (refine neN ?_; omega)); (case f3 => (repeat' (first | exact List.forall_mem_nil _ | refine List.forall_mem_cons.mpr ⟨?_, ?_⟩)); all_goals (refine neN ?_; omega)))))
local macro_rules | `(tactic| walk_at "pyIter ref") => `(tactic| (k_here; (with_reducible show wpAny _ _ (pyIter (Value.ref _)) (fun it s₂ => LoopAtV _ _ _ _ _ (PySem.Str.ofString "again") _ _ _ it s₂) _ _); (with_reducible rename Fr _ _ _ _ => lF'); (with_reducible rename News _ _ _ _ => lN'); (with_reducible rename IsRange _ _ _ _ _ _ _ _ => rgX); (with_reducible rename OwnOff _ _ => hoT9); k_dflt (refine' Mine.inner ?k1 rgX lF' lN' ?z0 ?z1 ?n2 ?n3 ?n4 ?m2 ?m4 ?m5 ?m1 ?m3 ?m6 hoT9 ?hT ?a3 ?a4 ?a6 ?a7 ?a8 ?_ ?_; (case k1 => rfl); (case z0 => assumption); (case z1 => assumption); (case n2 => rfl); (case n3 => rfl); (case n4 => rfl); (case m1 => k_mem); (case m2 => k_mem); (case m3 => k_mem); (case m4 => k_mem); (case m5 => k_mem); (case m6 => k_mem); (case hT => (repeat (with_reducible refine Mine.Sub.tail ?_)); with_reducible exact Mine.Sub.refl); (case a3 => assumption); (case a4 => assumption); (case a6 => assumption); (case a7 => assumption); (case a8 => assumption)); (all_goals (clear lF' lN')); (intro vh' vc' dh' n' made' tt' tm' tn' T' i' t' u' h' tk' hi' hoT' hs' a1' a2' a3' a4' a5' c1' c2' F' N'; (dsimp only [Mine.midO] at N'); (try k_fold)); rotate_left; (intro vh' vc' dh' n' made' tt' tm' tn' T' u' h' tk' hoT' hs' a1' a2' a3' a4' a5' c1' c2' F' N'; (dsimp only [Mine.midO] at N'); (try k_fold)); rotate_left))
local macro_rules | `(tactic| walk_at "Post") => `(tactic| (k_dflt (refine' Mine.inner_end ?F ?N ?n2 ?n3 ?n4 ?m2 ?m4 ?m5 ?m1 ?m3 ?m6 ?hT ?hoT ?hs ?a3 ?a4 ?a6 ?a7 ?a8 ?c1 ?c2 ?off; (case F => k_asm); (case N => k_asm); (case n2 => rfl); (case n3 => rfl); (case n4 => rfl); (case m2 => k_mem); (case m4 => k_mem); (case m5 => k_mem); (case m1 => k_mem); (case m3 => k_mem); (case m6 => k_mem); (case hoT => with_reducible assumption); (case hT => (repeat (with_reducible refine Mine.Sub.tail ?_)); with_reducible exact Mine.Sub.refl); (case hs => first | with_reducible exact Mine.Sub.refl | assumption | exact Mine.Sub.trans (by assumption) (by assumption)); (case a3 => first | assumption | (refine' Mine.Rep.mono (Mine.Sub.sub ?zs) ?zr; (case zr => assumption); (case zs => first | assumption | exact Mine.Sub.trans (by assumption) (by assumption)))); (case a4 => first | assumption | (refine' Mine.Rep.mono (Mine.Sub.sub ?zs) ?zr; (case zr => assumption); (case zs => first | assumption | exact Mine.Sub.trans (by assumption) (by assumption)))); (case a6 => first | assumption | exact Mine.good_data _); (case a7 => omega); (case a8 => omega); (case c1 => omega); (case c2 => omega); (case off => intro y h1 h2 h3 h4; simp only [if_neg h1, if_neg h2, if_neg h3, if_neg h4, List.contains_nil, Bool.false_eq_true, if_false]))))
local macro_rules | `(tactic| walk_at "pyIter ref") => `(tactic| (k_here; (with_reducible show wpAny _ _ (pyIter (Value.ref _)) (fun it s₂ => LoopAtV _ _ _ _ _ (PySem.Str.ofString "turn") _ _ _ it s₂) _ _); (with_reducible rename IsRange _ _ 0 999 _ _ _ _ => rgX); (with_reducible rename Fr _ _ _ _ => lF'); (with_reducible rename News _ _ _ _ => lN'); (with_reducible rename OwnOff _ _ => hoT9); k_dflt (refine' Mine.last ?k1 rgX lF' lN' ?m2 ?hn ?m4 ?m5 ?m1 ?m3 ?m6 hoT9 ?hT ?_ ?_; (case k1 => rfl); (case m1 => k_mem); (case m2 => k_mem); (case hn => omega); (case m3 => k_mem); (case m4 => k_mem); (case m5 => k_mem); (case m6 => k_mem); (case hT => (repeat (with_reducible refine Mine.Sub.tail ?_)); with_reducible exact Mine.Sub.refl)); (all_goals (clear lF' lN')); (intro vc' tn' T' i' t' u' h' tk' hi' hoT' hs' F' N'; (dsimp only [Mine.midO] at N'); (try k_fold)); rotate_left; (intro vc' tn' T' u' h' tk' hoT' hs' hr' F' N'; (dsimp only [Mine.midO] at N'); (try k_fold)); rotate_left))
local macro_rules | `(tactic| walk_at "Post") => `(tactic| (k_dflt (refine' Mine.last_end ?F ?N ?m2 ?mD ?kD ?pD ?fD ?m4 ?m5 ?m1 ?m3 ?m6 ?hoT ?hT ?off; (case F => k_asm); (case N => k_asm); (case m2 => k_mem); (case mD => k_mem); (case kD => assumption); (case pD => assumption); (case fD => (repeat' (first | exact List.forall_mem_nil _ | refine List.forall_mem_cons.mpr ⟨?_, ?_⟩)); all_goals (refine neN ?_; omega)); (case m4 => k_mem); (case m5 => k_mem); (case m1 => k_mem); (case m3 => k_mem); (case m6 => k_mem); (case hoT => with_reducible assumption); (case hT => (repeat (with_reducible refine Mine.Sub.tail ?_)); with_reducible exact Mine.Sub.refl); (case off => intro y h1; simp only [if_neg h1, List.contains_nil, Bool.false_eq_true, if_false]))))
local macro_rules | `(tactic| walk_at "compareOp NotEq") => `(tactic| (k_here; (with_reducible show wpAny _ _ (compareOp CmpOp.NotEq _ (Value.ref _)) _ _ _); (with_reducible rename Mine.Rep _ _ _ _ (Mine.D.one _ _) => r9); k_dflt (refine' Mine.cmp_ne_disp ?kN r9 ?s1 ?m ?ka ?ho ?hu ?_; (case kN => k_asm); (case m => k_mem); (case ka => assumption); (case ho => assumption); (case hu => exact Nat.le_of_ble_eq_true rfl); (case s1 => (repeat (with_reducible refine Mine.Sub.tail ?_)); first | with_reducible exact Mine.Sub.refl | assumption))))
local macro_rules | `(tactic| walk_at "compareOp Eq") => `(tactic| (k_here; (with_reducible show wpAny _ _ (compareOp CmpOp.Eq (Value.ref _) (Value.ref _)) _ _ _); k_dflt (refine' Mine.cmp_eq_disp ?kN ?m ?m' ?ka ?kb ?ho ?ho' ?hu ?_; (case kN => k_asm); (case m => k_mem); (case m' => k_mem); (case ka => assumption); (case kb => assumption); (case ho => assumption); (case ho' => assumption); (case hu => exact Nat.le_of_ble_eq_true rfl))))
set_option rowWalk.seconds 0 in
set_option maxRecDepth 100000 in
set_option maxHeartbeats 16000000 in
theorem PySem.Challenge.cw_fc0203_01_holds : PySem.Challenge.rw_fc0203_01.Holds := by
  open_k
