import PyProof.Rows.All
import Wide.All
import OpenK.AllK
import Wide.FinOn
import Lean
import PySem.Challenge.RW_pg0058_01
set_option Elab.async false
-- part Top
open PySem PySem.W PyProof.Rows
namespace Mine
set_option maxRecDepth 100000 in
set_option maxHeartbeats 8000000 in
open_top hd for PySem.Challenge.rw_pg0058_01
end Mine
-- part A1
open PySem PySem.W PyProof.Rows PySem.Calls
namespace Mine
theorem offA1 : True := by
  w_top off
  trivial
set_option maxRecDepth 100000
set_option maxHeartbeats 8000000
theorem f_getitem (P : Params) : findIn (hd.heap_39 P) (.ref 100) "__getitem__" = some (some (.builtin "list.__getitem__")) := by kernel_rfl
theorem f_setitem (P : Params) : findIn (hd.heap_39 P) (.ref 100) "__setitem__" = some (some (.builtin "list.__setitem__")) := by kernel_rfl
theorem f_iter (P : Params) : findIn (hd.heap_39 P) (.ref 100) "__iter__" = some (some (.builtin "list.__iter__")) := by kernel_rfl
theorem f_ga (P : Params) : findIn (hd.heap_39 P) (.ref 100) "__getattribute__" = some (some (.builtin "list.__getattribute__")) := by kernel_rfl
theorem f_gattr (P : Params) : findIn (hd.heap_39 P) (.ref 100) "__getattr__" = some none := by kernel_rfl
theorem f_append (P : Params) : findIn (hd.heap_39 P) (.ref 100) "append" = some (some (.builtin "list.append")) := by kernel_rfl
theorem f_init (P : Params) : findIn (hd.heap_39 P) (.ref 100) "__init__" = some (some (.ref 38)) := by kernel_rfl
theorem f_push (P : Params) : findIn (hd.heap_39 P) (.ref 100) "push" = some (some (.ref 45)) := by kernel_rfl
theorem f_popfrom (P : Params) : findIn (hd.heap_39 P) (.ref 100) "pop_from" = some (some (.ref 53)) := by kernel_rfl
theorem f_partcount (P : Params) : findIn (hd.heap_39 P) (.ref 100) "part_count" = some (some (.ref 97)) := by kernel_rfl
theorem f_sub (P : Params) : mroIn (hd.heap_39 P) 100 (.type "list") = some true := by kernel_rfl
theorem f_self (P : Params) : mroIn (hd.heap_39 P) 100 (.ref 100) = some true := by kernel_rfl
theorem f_call (P : Params) : specialIn (hd.heap_39 P) (.ref 100) "__call__" = some (some (.builtin "type.__call__")) := by kernel_rfl
theorem f_type (P : Params) : instIn (hd.heap_39 P) (.ref 100) (.type "type") = some true := by kernel_rfl
theorem f_cls (P : Params) : ∃ cd, clsIn (hd.heap_39 P) 100 = some cd ∧ cd.abstract = false ∧ cd.hasDel = false ∧ cd.mro = [.ref 100, .type "list", .type "object"] := ⟨_, rfl, rfl, rfl, rfl⟩
end Mine
-- part A2
open PySem PySem.W PyProof.Rows PySem.Calls
namespace Mine
theorem offA2 : True := by
  w_top off
  trivial
set_option maxRecDepth 100000
set_option maxHeartbeats 8000000

abbrev accObj (dx : Addr) (items : Array Value) (ep : Nat) : Obj := { cls := .ref 100, dict := some dx, data := .seq items ep }

theorem inst_acc {h₀ h : Heap} {L x dx : Addr} {items : Array Value} {ep : Nat} {news : List (Addr × Obj)} {od : Obj} (N : News h₀ L h news) (h1 : (x, accObj dx items ep) ∈ news) (h2 : (dx, od) ∈ news) :
    W.InstAt h x (accObj dx items ep) 100 (some od) := ⟨(N _ h1).1, rfl, rfl, (N _ h2).1⟩

theorem canon_lga : (Manifest.canonical "list.__getattribute__" != "object.__getattribute__") = false := by decide +kernel

section
variable {prog : Program} {w : World} {A : Around} {E : Value → Shared → Prop} {s : Shared} {x : Addr} {ox : Obj} {od : Option Obj} {name : Str} {pl : Sem Bool} {Q : Value × List Value → Shared → Prop}
theorem method_acc {f : Value} {tf : Value} (X : (hd.heap_39 w.params).In s.heap) (I : W.InstAt s.heap x ox 100 od)
    (hf : findIn (hd.heap_39 w.params) (.ref 100) name = some (some f)) (ht : typeIn (hd.heap_39 w.params) f = some tf)
    (htf : (tf != .type "function" && tf != .type "method_descriptor" && tf != .type "wrapper_descriptor") = false) (hs : shadowIn od name = some false) (h : Q (f, [.ref x]) s) :
    wpAny (model prog w) A (getMethod (.ref x) name pl) Q E s := by
  have hcan := canon_lga
  unfold getMethod specialOf
  refine wpAny_bind (wpAny_bind (I.type.here ((looks_findIn X (f_ga _)).here ?_)))
  dsimp only
  rw [hcan, if_neg (by decide)]
  refine wpAny_bind (wpAny_bind (I.type.here ((looks_findIn X (f_gattr _)).here ?_)))
  refine wpAny_bind (wpAny_bind (I.type.here ((looks_findIn X hf).here (wpAny_bind ((looks_typeIn X ht).here ?_)))))
  rw [htf, if_neg (by decide)]
  refine wpAny_bind (wpAny_loadPart I.at_ ?_)
  have hd := I.dict
  cases e : ox.dict with
  | none => exact wpAny_bind (wpAny_rule (wpAny_pure h))
  | some dx =>
    cases od with
    | none => rw [e] at hd; exact hd.elim
    | some o =>
      rw [e] at hd
      obtain ⟨r, a, b⟩ := Option.map_eq_some_iff.mp hs
      refine wpAny_bind (wpAny_bind (wpAny_loadPart hd ?_))
      rw [nsLook_of a]
      refine wpAny_pure ?_
      rw [b]
      exact wpAny_bind (wpAny_rule (wpAny_pure h))
end

-- making one
theorem ln_kind : builtinKind "list.__new__" = some .builtinFn := by decide +kernel
theorem ln_split : splitId "list.__new__" = some ("list", "__new__") := by decide +kernel
theorem ln_quiet : (!("list.__new__" : String).startsWith "lifetime.") = true := by decide +kernel
section
variable {prog : Program} {w : World} {A : Around} {R : Result → Shared → Prop} {h : Heap} {g : Array GenState} {d : Drawn} {t : Nat} {os : OsState}
theorem acc_get (X : (hd.heap_39 w.params).In h) : ∃ sl, h.get? 100 = some ⟨.type "type", none, .cls { name := Str.ofString "_Accumulator", bases := [Value.type "list"], mro := [Value.ref 100, Value.type "list", Value.type "object"], ns := 99, qualname := Str.ofString "_Accumulator" }, sl⟩ ∧ sl[4]? = some (some (.builtin "list.__new__")) :=
  ⟨_, X _ _ rfl, rfl⟩
theorem looks_mro (X : (hd.heap_39 w.params).In h) : Looks (model prog w) h (mroOf (.ref 100)) [Value.ref 100, Value.type "list", Value.type "object"] := by
  obtain ⟨sl, hC, _⟩ := acc_get X
  exact ((Looks.ld (part := none) hC).andThen .now).andThen .now
theorem looks_made (X : (hd.heap_39 w.params).In h) : Looks (model prog w) h (Bind.madeBy (.ref 100)) (some "list.__new__") := by
  obtain ⟨sl, hC, hs⟩ := acc_get X
  intro A Q E s k q
  unfold Bind.madeBy
  refine wpAny_bind (looks_mro X A _ E s k ?_)
  rw [List.forIn_cons]
  refine wpAny_bind (wpAny_bind (wpAny_bind (wpAny_bind (wpAny_loadPart (k _ _ hC) (wpAny_pure ?_)))))
  dsimp only
  rw [hs]
  exact wpAny_pure (wpAny_pure (wpAny_pure q))
theorem looks_base (X : (hd.heap_39 w.params).In h) : Looks (model prog w) h (Bind.staticBase (.ref 100)) (.ref 100) := by
  intro A Q E s k q
  unfold Bind.staticBase
  refine wpAny_bind (looks_mro X A _ E s k ?_)
  rw [List.forIn_cons]
  exact wpAny_bind (wpAny_bind (wpAny_bind (looks_made X A _ E s k (wpAny_pure (wpAny_pure (wpAny_pure q))))))
theorem looks_isType (X : (hd.heap_39 w.params).In h) : Looks (model prog w) h (isType (.ref 100)) true := by
  obtain ⟨sl, hC, hs⟩ := acc_get X
  intro A Q E s k q
  unfold isType loadHead
  exact wpAny_bind (wpAny_loadPart (k _ _ hC) (wpAny_pure q))

theorem new_acc (X : (hd.heap_39 w.params).In h)
    (hq : R (.ok (.ret (.ref (h.objs.size + 1)))) ⟨(h.push emptyDict).push (accObj h.objs.size #[] 0), g, d, t, os⟩) :
    codeAny (model prog w) A (.call (.builtin "list.__new__") ⟨[.ref 100], []⟩) R ⟨h, g, d, t, os⟩ := by
  obtain ⟨sl, hC, hs⟩ := acc_get X
  have made := looks_made (prog := prog) X
  have base := looks_base (prog := prog) X
  have ist := looks_isType (prog := prog) X
  have sub := looks_mroIn (M := model prog w) X (f_sub _)
  refine codeAny_call_builtin_code (plainId_quiet F.plain_list_new _) ?_
  simp only [checkBuiltinCall, ln_kind, ln_split]
  repeat (first | simp only [bne_self_eq_false, Bool.false_eq_true, if_false, Bool.not_true] | lk)
  refine codeAny_builtin_stack F.entry_list_new rfl fun p st => ?_
  rw [Around.under_plainId F.plain_list_new _]
  have hown := owner_list_new
  simp only [hown]
  repeat (first | simp only [bne_self_eq_false, Bool.false_eq_true, if_false, Bool.not_true] | lk)
  refine nd_load (Heap.get?_push_of_some _ (Heap.get?_push_of_some _ hC)) (nd_pure ?_)
  repeat lk
  rw [Heap.size_push]
  exact hq

theorem make_acc (X : (hd.heap_39 w.params).In h)
    (hq : codeAny (model prog w) (A.under (.builtin "type.__call__" ⟨[.ref 100], []⟩)) (.call (.ref 38) ⟨[.ref (h.objs.size + 1)], []⟩) (InitBack (h.objs.size + 1) R) ⟨(h.push emptyDict).push (accObj h.objs.size #[] 0), g, d, t, os⟩) :
    codeAny (model prog w) A (.call (.ref 100) ⟨[], []⟩) R ⟨h, g, d, t, os⟩ := by
  obtain ⟨sl, hC, hs⟩ := acc_get X
  have made := looks_made (prog := prog) X
  have base := looks_base (prog := prog) X
  have call := looks_specialIn (M := model prog w) X (f_call _)
  have typ := looks_instIn (M := model prog w) X (f_type _)
  have hm := looks_mro (prog := prog) X
  have self := looks_mroIn (M := model prog w) X (f_self _)
  have hi := looks_findIn (M := model prog w) X (f_init _)
  have hb := fun self => bind_fn (M := model prog w) X (f := 38) self rfl
  refine codeAny_of_tree ?_
  show wpAny _ _ (callAny (.ref 100) _) _ _ _
  refine nd_load hC ?_
  show wpAny _ _ (callAny.viaDunder (.ref 100) _) _ _ _
  unfold callAny.viaDunder
  refine wpAny_bind (call.at ?_)
  dsimp only
  rw [tc_bind]
  refine wpAny_bind (wpAny_pure (wpAny_bind (wpAny_pure ?_)))
  refine wpAny_pure (a := Fin.again (.call (.builtin "type.__call__") ⟨[.ref 100], []⟩)) (And.intro rfl ?_)
  refine codeAny_call_builtin_at (Code.quiet_builtin _ (by decide +kernel)) entry_typeCall (check_slot tc_kind tc_split typ (tc_args _ _ _) ?_)
  unfold Builtin.«type.__call__»
  repeat (first | simp only [Bool.false_eq_true, if_false, List.isEmpty_cons] | with_reducible refine wpAny_call ?_ | lk)
  refine new_acc X ?_
  have k : ∀ b o, h.get? b = some o → ((h.push emptyDict).push (accObj h.objs.size #[] 0)).get? b = some o := fun b o e => Heap.get?_push_of_some _ (Heap.get?_push_of_some _ e)
  have hx : ((h.push emptyDict).push (accObj h.objs.size #[] 0)).get? (h.objs.size + 1) = some (accObj h.objs.size #[] 0) := by heap_get
  have t1 : Looks (model prog w) ((h.push emptyDict).push (accObj h.objs.size #[] 0)) (typeOf (.ref (h.objs.size + 1))) (.ref 100) := (Looks.ld hx).andThen .now
  have s1 := self.keeps k
  have i1 := hi.keeps k
  have b1 := (hb (.ref (h.objs.size + 1))).keeps k
  unfold isInstance callSpecial? specialOf
  repeat (first | with_reducible refine wpAny_call ?_ | lk)
  refine codeAny_mono hq fun r s' z => ?_
  rcases r with e | (v | _ | _ | _) <;> first | exact z | exact z.elim | skip
  obtain ⟨rfl, z⟩ := z
  exact wpAny_pure (wpAny_pure z)
end

section
variable {prog : Program} {w : World} {A : Around} {E : Value → Shared → Prop} {s : Shared} {L : Addr} {h₀ : Heap} {m : Str → Option Value} {news : List (Addr × Obj)} {Q : Value → Shared → Prop}
theorem call_acc (F : Fr h₀ L s.heap m) (X₀ : (hd.heap_39 w.params).In h₀) (N : News h₀ L s.heap news)
    (h : ∀ x dx h', Fr h₀ L h' m → News h₀ L h' ((x, accObj dx #[] 0) :: (dx, dictOf [] 0) :: news) → (∀ p ∈ news, p.1 < dx) → dx < x →
      codeAny (model prog w) (A.under (.builtin "type.__call__" ⟨[.ref 100], []⟩)) (.call (.ref 38) ⟨[.ref x], []⟩) (InitBack x fun r s' => match r with | .ok (.ret v) => Q v s' | .ok _ => False | .error e => E e s') { s with heap := h' }) :
    wpAny (model prog w) A (call (.ref 100) [] []) Q E s := by
  refine wpAny_call ?_
  obtain ⟨hh, g, d, t, os⟩ := s
  refine make_acc (X₀.keeps F.keep) (h _ hh.objs.size _ ((F.push _).push _) ?_ (fun p hp => Heap.lt_size (N p hp).1) (Nat.lt_succ_self _))
  have := (N.push F emptyDict).push (F.push _) (accObj hh.objs.size #[] 0)
  rwa [Heap.size_push] at this
end
end Mine
-- part A3
open PySem PySem.W PyProof.Rows PySem.Calls
namespace Mine
theorem offA3 : True := by
  w_top off
  trivial
set_option maxRecDepth 100000
set_option maxHeartbeats 1000000
-- super's bound slot wrappers
theorem wd_slot : Slot "wrapper_descriptor" "__get__" "wrapper_descriptor.__get__" := .of (owner := "wrapper_descriptor") (n := "__get__") (by rw [typeLookup_type, builtinLookup_eq_fast]; kernel_rfl) (by decide +kernel) (by decide +kernel) (by decide +kernel)
  (by first | exact .inl (by decide +kernel) | exact .inr (by decide +kernel)) (by rw [isSubtype_type]; kernel_rfl)
theorem wd_entry : entryFor table "wrapper_descriptor.__get__" = some Builtin.«wrapper_descriptor.__get__» := entryFor_of_tree (by kernel_rfl)
theorem wd_kind : builtinKind "wrapper_descriptor.__get__" = some .slot := by decide +kernel
theorem wd_split : splitId "wrapper_descriptor.__get__" = some ("wrapper_descriptor", "__get__") := by decide +kernel
theorem wd_args (a b c : Value) : argsOk "wrapper_descriptor.__get__" ⟨[a, b, c], []⟩ := by unfold argsOk; kernel_rfl
abbrev wrapObj (id : String) (x : Addr) : Obj := { cls := .type "method-wrapper", dict := none, data := .fields #[.builtin id, .ref x], slots := #[] }
section
variable {prog : Program} {w : World} {A : Around} {E : Value → Shared → Prop} {h : Heap} {g : Array GenState} {d : Drawn} {t : Nat} {os : OsState}
theorem wd_len (x : Addr) : ∃ err : Sem PUnit, Builtin.«wrapper_descriptor.__get__» ⟨[.builtin "list.__len__", .ref x, .ref 100], []⟩ = (do
   (do if !(← isInstance (.ref x) (.type "list")) then err)
   ret (← newFields "method-wrapper" [.builtin "list.__len__", .ref x])) := ⟨_, by with_unfolding_all rfl⟩
theorem wd_init (x : Addr) : ∃ err : Sem PUnit, Builtin.«wrapper_descriptor.__get__» ⟨[.builtin "list.__init__", .ref x, .ref 100], []⟩ = (do
   (do if !(← isInstance (.ref x) (.type "list")) then err)
   ret (← newFields "method-wrapper" [.builtin "list.__init__", .ref x])) := ⟨_, by with_unfolding_all rfl⟩
theorem wd_code {x : Addr} {id : String} {err : Sem PUnit} {ox : Obj} {R' : Result → Shared → Prop} (X : (hd.heap_39 w.params).In h) (hx : h.get? x = some ox) (hxc : ox.cls = .ref 100)
    (hft : typeOf (.builtin id) = pure (.type "wrapper_descriptor"))
    (hw : Builtin.«wrapper_descriptor.__get__» ⟨[.builtin id, .ref x, .ref 100], []⟩ = (do
       (do if !(← isInstance (.ref x) (.type "list")) then err)
       ret (← newFields "method-wrapper" [.builtin id, .ref x])))
    (hq : R' (.ok (.ret (.ref h.objs.size))) ⟨h.push (wrapObj id x), g, d, t, os⟩) :
    codeAny (model prog w) A (.call (.builtin "wrapper_descriptor.__get__") ⟨[.builtin id, .ref x, .ref 100], []⟩) R' ⟨h, g, d, t, os⟩ := by
  have tyb : Looks (model prog w) h (typeOf (.builtin id)) (.type "wrapper_descriptor") := Looks.of_pure hft
  have tyx : Looks (model prog w) h (typeOf (.ref x)) (.ref 100) := hxc ▸ (Looks.ld hx).andThen .now
  have ib : Looks (model prog w) h (isInstance (.builtin id) (.type "wrapper_descriptor")) true := tyb.andThen (Looks.of_pure (by rw [isSubtype_type]; kernel_rfl))
  have ix : Looks (model prog w) h (isInstance (.ref x) (.type "list")) true := tyx.andThen (looks_mroIn X (f_sub _))
  refine codeAny_call_builtin wd_slot.plain wd_entry (wd_slot.check _ _ _ _ _ _ _ _ hft (wd_args _ _ _) ?_)
  rw [hw]
  clear hw
  refine wpAny_bind (wpAny_bind (ix.here ?_))
  rw [if_neg (by decide)]
  refine wpAny_pure (wpAny_bind ?_)
  exact wpAny_newObj_type (wpAny_pure hq) (by size_fits)
theorem super_ga_b {so x : Addr} {id : String} {name : Str} {tk : Tok} {Q : Fin → Shared → Prop}
    (hso : h.get? so = some (ks_superObj 100 x 100)) (hno : Looks (model prog w) h (opaqueClassAbove (.ref 100)) none)
    (X : (hd.heap_39 w.params).In h) (hxC : x ≠ 100)
    (hf : alongIn (hd.heap_39 w.params) name [.type "list", .type "object"] = some (some (.builtin id))) (hft : typeOf (.builtin id) = pure (.type "wrapper_descriptor"))
    (hn : (name == ("__class__" : Str)) = false)
    (hcall : ∀ R' : Result → Shared → Prop, R' (.ok (.ret (.ref h.objs.size))) ⟨h.push (wrapObj id x), g, d, t, os⟩ →
       codeAny (model prog w) A (.call (.builtin "wrapper_descriptor.__get__") ⟨[.builtin id, .ref x, .ref 100], []⟩) R' ⟨h, g, d, t, os⟩)
    (hq : Q (.done (.ret (.ref h.objs.size))) ⟨h.push (wrapObj id x), g, d, t, os⟩) :
    wpAny (model prog w) A (Builtin.«super.__getattribute__» ⟨[.ref so, .str name tk], []⟩) Q E ⟨h, g, d, t, os⟩ := by
  have hlk := wd_slot.lookup
  have hne : (Value.ref x == Value.ref 100) = false := by simp [hxC]
  have hC := looks_mro (prog := prog) X
  have hl : (([Value.ref 100, Value.type "list", Value.type "object"] : List Value).dropWhile (· != .ref 100)).drop 1 = [.type "list", .type "object"] := by decide
  have hdt : (ks_superObj 100 x 100).data = .fields #[.ref 100, .ref x, .ref 100] := rfl
  have f0 : (#[.ref 100, .ref x, .ref 100] : Array Value)[0]? = some (.ref 100) := rfl
  have f1 : (#[.ref 100, .ref x, .ref 100] : Array Value)[1]? = some (.ref x) := rfl
  have f2 : (#[.ref 100, .ref x, .ref 100] : Array Value)[2]? = some (.ref 100) := rfl
  unfold Builtin.«super.__getattribute__»
  repeat (first
    | (with_reducible refine wpAny_field hso hdt f0 ?_) | (with_reducible refine wpAny_field hso hdt f1 ?_) | (with_reducible refine wpAny_field hso hdt f2 ?_)
    | (with_reducible refine ks_wpAny_notOpaque hno ?_)
    | (with_reducible refine Looks.at hC ?_; rw [hl])
    | (refine ks_forIn_along X (fun _ _ => rfl) rfl ?_ hf)
    | (simp only [hn, hne, Bool.or_false, Bool.false_eq_true, if_false])
    | wp_step
    | dsimp only)
  refine hcall _ ?_
  exact wpAny_bind (wpAny_pure (wpAny_pure (wpAny_pure hq)))
end
end Mine
-- part A4
open PySem PySem.W PyProof.Rows PySem.Calls
namespace Mine
theorem offA4 : True := by
  w_top off
  trivial
set_option maxRecDepth 100000
set_option maxHeartbeats 1000000
section
variable {prog : Program} {w : World} {A : Around} {E : Value → Shared → Prop} {h : Heap} {g : Array GenState} {d : Drawn} {t : Nat} {os : OsState}
theorem super_method_core {so x : Addr} {id : String} {err : Sem PUnit} {ox : Obj} {name : Str} {pl : Sem Bool} {Q : Value × List Value → Shared → Prop}
    (hso : h.get? so = some (ks_superObj 100 x 100)) (hno : Looks (model prog w) h (opaqueClassAbove (.ref 100)) none)
    (X : (hd.heap_39 w.params).In h) (hx : h.get? x = some ox) (hxc : ox.cls = .ref 100) (hxC : x ≠ 100)
    (hf : alongIn (hd.heap_39 w.params) name [.type "list", .type "object"] = some (some (.builtin id))) (hft : typeOf (.builtin id) = pure (.type "wrapper_descriptor"))
    (hn : (name == ("__class__" : Str)) = false)
    (hw : Builtin.«wrapper_descriptor.__get__» ⟨[.builtin id, .ref x, .ref 100], []⟩ = (do
       (do if !(← isInstance (.ref x) (.type "list")) then err)
       ret (← newFields "method-wrapper" [.builtin id, .ref x])))
    (hq : Q (.ref h.objs.size, []) ⟨h.push (wrapObj id x), g, d, t + 1, os⟩) :
    wpAny (model prog w) A (getMethod (.ref so) name pl) Q E ⟨h, g, d, t, os⟩ := by
  have hlk := F.ks_slot_super_ga.lookup
  have hcan := F.ks_canon_super_ga
  have hT : ∀ t', (⟨h, g, d, t', os⟩ : Shared).TypeIs (.ref so) "super" := fun _ => ⟨_, hso, rfl⟩
  unfold getMethod
  refine wpAny_bind (wpAny_specialOf (hT _) hlk ?_)
  show wpAny _ _ (if (Manifest.canonical "super.__getattribute__" != "object.__getattribute__") = true then _ else _) _ _ _
  rw [if_pos hcan]
  unfold getAttr getAttrBy
  refine wpAny_bind (wpAny_bind (wpAny_mkText (wpAny_holding (wpAny_bind (wpAny_typeOf (hT _) (wpAny_bind (wpAny_of_eq hlk ?_)))))))
  show wpAny _ _ (getAttrByItsOwn (.ref so) (.str name t) (.type "super") (.builtin "super.__getattribute__") true false) _ _ _
  unfold getAttrByItsOwn hookBefore callGetattribute boundAndCalled
  refine wpAny_bind (wpAny_of_eq (show (if onTheHeap (.type "super") then typeLookup (.type "super") "__getattr__" else pure none) = pure none from rfl) ?_)
  refine wpAny_bind (wpAny_attempt (wpAny_holding ?_))
  show wpAny _ _ (bindSpecial (.builtin "super.__getattribute__") (.ref so) >>= _) _ _ _
  refine wpAny_bind (wpAny_of_eq (F.ks_slot_super_ga.bind _) ?_)
  refine wpAny_mono (Q := fun v s' => v = .ref h.objs.size ∧ s' = ⟨h.push (wrapObj id x), g, d, t + 1, os⟩) (E := fun _ _ => False)
    (wpAny_call_entry F.ks_slot_super_ga (hT _) F.ks_entry_super_ga (super_ga_b hso hno X hxC hf hft hn (fun R' hR' => wd_code X hx hxc hft hw hR') ⟨_, rfl, rfl, rfl⟩) (F.ks_gaArgs_super _ _)) (fun v s' hv => ?_) fun _ _ z => z.elim
  obtain ⟨rfl, rfl⟩ := hv
  exact wpAny_pure (wpAny_pure hq)
end
theorem ty_len : typeOf (.builtin "list.__len__") = pure (.type "wrapper_descriptor") := by show builtinType _ = _; rw [builtinType_eq_fast]; kernel_rfl
theorem ty_init : typeOf (.builtin "list.__init__") = pure (.type "wrapper_descriptor") := by show builtinType _ = _; rw [builtinType_eq_fast]; kernel_rfl
theorem al_len (P : Params) : alongIn (hd.heap_39 P) "__len__" [.type "list", .type "object"] = some (some (.builtin "list.__len__")) := by kernel_rfl
theorem al_init (P : Params) : alongIn (hd.heap_39 P) "__init__" [.type "list", .type "object"] = some (some (.builtin "list.__init__")) := by kernel_rfl
theorem no_tp (P : Params) : nsIn (hd.heap_39 P) cStatics "thirdparty.any" = some none := by kernel_rfl
section
variable {prog : Program} {w : World} {A : Around} {E : Value → Shared → Prop} {s : Shared} {L : Addr} {h₀ : Heap} {m : Str → Option Value} {news : List (Addr × Obj)} {so x dx : Addr} {items : Array Value} {ep : Nat} {pl : Sem Bool}
theorem acc_ne (X : (hd.heap_39 w.params).In s.heap) (hx : s.heap.get? x = some (accObj dx items ep)) : x ≠ 100 := by
  rintro rfl
  obtain ⟨sl, hC, _⟩ := acc_get X
  rw [hC] at hx
  cases hx
theorem super_len {Q : Value × List Value → Shared → Prop} (F : Fr h₀ L s.heap m) (X₀ : (hd.heap_39 w.params).In h₀) (N : News h₀ L s.heap news) (hso : (so, ks_superObj 100 x 100) ∈ news) (hx : (x, accObj dx items ep) ∈ news)
    (h : ∀ q h', Fr h₀ L h' m → News h₀ L h' ((q, wrapObj "list.__len__" x) :: news) → (∀ p ∈ news, p.1 < q) → Q (.ref q, []) { s with heap := h', toks := s.toks + 1 }) :
    wpAny (model prog w) A (getMethod (.ref so) "__len__" pl) Q E s := by
  have X : (hd.heap_39 w.params).In s.heap := X₀.keeps F.keep
  have hxC := acc_ne X (N _ hx).1
  obtain ⟨hh, g, d, t, os⟩ := s
  obtain ⟨_, hwd⟩ := wd_len x
  refine super_method_core (N _ hso).1 (looks_opaque X (no_tp _)) X (N _ hx).1 rfl hxC (al_len _) ty_len rfl hwd ?_
  obtain ⟨F', N', l'⟩ := ks_newsPush (s := ⟨hh, g, d, t, os⟩) (o := wrapObj "list.__len__" x) F N rfl (Heap.get?_push_at rfl rfl) (fun b o e => Heap.get?_push_of_some _ e)
  exact h _ _ F' N' l'
theorem super_init {Q : Value × List Value → Shared → Prop} (F : Fr h₀ L s.heap m) (X₀ : (hd.heap_39 w.params).In h₀) (N : News h₀ L s.heap news) (hso : (so, ks_superObj 100 x 100) ∈ news) (hx : (x, accObj dx items ep) ∈ news)
    (h : ∀ q h', Fr h₀ L h' m → News h₀ L h' ((q, wrapObj "list.__init__" x) :: news) → (∀ p ∈ news, p.1 < q) → Q (.ref q, []) { s with heap := h', toks := s.toks + 1 }) :
    wpAny (model prog w) A (getMethod (.ref so) "__init__" pl) Q E s := by
  have X : (hd.heap_39 w.params).In s.heap := X₀.keeps F.keep
  have hxC := acc_ne X (N _ hx).1
  obtain ⟨hh, g, d, t, os⟩ := s
  obtain ⟨_, hwd⟩ := wd_init x
  refine super_method_core (N _ hso).1 (looks_opaque X (no_tp _)) X (N _ hx).1 rfl hxC (al_init _) ty_init rfl hwd ?_
  obtain ⟨F', N', l'⟩ := ks_newsPush (s := ⟨hh, g, d, t, os⟩) (o := wrapObj "list.__init__" x) F N rfl (Heap.get?_push_at rfl rfl) (fun b o e => Heap.get?_push_of_some _ e)
  exact h _ _ F' N' l'
end
end Mine
-- part A5
open PySem PySem.W PyProof.Rows PySem.Calls
namespace Mine
theorem offA5 : True := by
  w_top off
  trivial
set_option maxRecDepth 100000
set_option maxHeartbeats 1000000
theorem bc_len (x : Addr) : checkBoundCall "list.__len__" ⟨[.ref x], []⟩ = pure () := by kernel_rfl
theorem bc_init (x : Addr) : checkBoundCall "list.__init__" ⟨[.ref x], []⟩ = pure () := by kernel_rfl
theorem pl_len : plainId "list.__len__" = true := by decide +kernel
theorem pl_init : plainId "list.__init__" = true := by decide +kernel
theorem en_len : entryFor table "list.__len__" = some Builtin.«list.__len__» := entryFor_of_tree (by kernel_rfl)
theorem en_init : entryFor table "list.__init__" = some Builtin.«list.__init__» := entryFor_of_tree (by kernel_rfl)
section
variable {prog : Program} {w : World} {A : Around} {E : Value → Shared → Prop} {s : Shared} {L : Addr} {h₀ : Heap} {m : Str → Option Value} {news news' : List (Addr × Obj)} {q x dx : Addr} {items : Array Value} {ep : Nat} {Q : Value → Shared → Prop}
theorem call_wrap {id : String} {Bi : Builtin} (hq : s.heap.get? q = some (wrapObj id x)) (hc : checkBoundCall id ⟨[.ref x], []⟩ = pure ()) (hp : plainId id = true) (he : entryFor table id = some Bi)
    (h : wpAny (model prog w) A.in1 (Bi ⟨[.ref x], []⟩) (fun fin s' => match fin with | .done (.ret v) => Q v s' | _ => False) E s) :
    wpAny (model prog w) A (call (.ref q) [] []) Q E s := by
  refine wpAny_call (codeAny_of_tree ?_)
  show wpAny _ _ (callAny (.ref q) _) _ _ _
  refine nd_load hq ?_
  show wpAny _ _ (checkBoundCall id ⟨[.ref x], []⟩ >>= fun _ => again (.builtin id ⟨[.ref x], []⟩)) _ _ _
  rw [hc]
  refine wpAny_bind (wpAny_pure (wpAny_pure ⟨plainId_quiet hp _, codeAny_builtin he ?_⟩))
  rw [Around.under_plainId hp _]
  refine wpAny_mono h (fun fin s' z => ?_) fun _ _ z => z
  rcases fin with (v | _ | _ | _) | c <;> first | exact z | exact z.elim
theorem call_len (N : News h₀ L s.heap news) (hq : (q, wrapObj "list.__len__" x) ∈ news) (hx : (x, accObj dx items ep) ∈ news) (h : Q (.int items.size s.toks) { s with toks := s.toks + 1 }) :
    wpAny (model prog w) A (call (.ref q) [] []) Q E s := by
  refine call_wrap (N _ hq).1 (bc_len x) pl_len en_len ?_
  have hx' := (N _ hx).1
  obtain ⟨hh, g, d, t, os⟩ := s
  unfold Builtin.«list.__len__» slotArgs
  repeat (first | simp only [Bool.false_eq_true, if_false, List.isEmpty_nil, Bool.not_true, bne_self_eq_false, List.length_nil] | lk)
  exact h
theorem call_init (F : Fr h₀ L s.heap m) (N : News h₀ L s.heap news) (hq : (q, wrapObj "list.__init__" x) ∈ news) (U : Upd x (accObj dx #[] 0) (accObj dx #[] 0) news news)
    (h : ∀ h', Fr h₀ L h' m → News h₀ L h' news → Q .none { s with heap := h' }) :
    wpAny (model prog w) A (call (.ref q) [] []) Q E s := by
  refine call_wrap (N _ hq).1 (bc_init x) pl_init en_init ?_
  obtain ⟨pre, post, e1, e2, a, b⟩ := U.split
  have hm : (x, accObj dx #[] 0) ∈ news := by rw [e1]; exact List.mem_append.mpr (.inr (.head _))
  have hx' := (N _ hm).1
  have Nf := news_upd (f := Obj.mapSeq fun _ => #[]) (o' := accObj dx #[] 0) F (e1 ▸ N) a b rfl rfl
  obtain ⟨hh, g, d, t, os⟩ := s
  unfold Builtin.«list.__init__» Builtin.List.listItems Builtin.List.listUpdate
  repeat (first | (with_reducible refine wpAny_updateSeq hx' rfl ?_ (by decide) (by decide)) | (with_reducible refine wpAny_letGo ?_) | simp only [Bool.false_eq_true, if_false, List.isEmpty_nil, Bool.not_true, bne_self_eq_false, List.length_nil] | lk)
  exact h _ Nf.1 (e1.symm ▸ Nf.2)

-- what a list's own methods ask of such an object
theorem acc_list (X : (hd.heap_39 w.params).In s.heap) (hx : s.heap.get? x = some (accObj dx items ep)) : Looks (model prog w) s.heap (isInstance (.ref x) (.type "list")) true :=
  ((Looks.ld hx).andThen .now).andThen (looks_mroIn X (f_sub _))
theorem acc_type (hx : s.heap.get? x = some (accObj dx items ep)) : Looks (model prog w) s.heap (typeOf (.ref x)) (.ref 100) := (Looks.ld hx).andThen .now
theorem check_method {M : Model} {i owner n : String} {self : Value} {rest : List Value} {kw : List (Str × Value)} {Q : Unit → Shared → Prop}
    (hk : builtinKind i = some .method) (hs : splitId i = some (owner, n)) (hi : Looks M s.heap (isInstance self (.type owner)) true) (ha : argsOk i ⟨self :: rest, kw⟩) (q : Q () s) :
    wpAny M A (checkBuiltinCall i ⟨self :: rest, kw⟩) Q E s := by
  simp only [checkBuiltinCall, hk, hs]
  refine wpAny_bind (hi.here ?_)
  simp only [Bool.not_true, Bool.false_eq_true, if_false]
  cases hsig : Manifest.signature? i with
  | none => exact wpAny_pure q
  | some sig =>
    simp only [argsOk, hsig] at ha
    have h2 : Bind.checkArgs i sig ⟨self :: rest, kw⟩ = pure () := ha
    show wpAny M A (Bind.checkArgs i sig ⟨self :: rest, kw⟩) Q E s
    rw [h2]; exact wpAny_pure q
theorem ap_kind : builtinKind "list.append" = some .method := by decide +kernel
theorem ap_split : splitId "list.append" = some ("list", "append") := by decide +kernel
theorem ap_plain : plainId "list.append" = true := by decide +kernel
theorem append_acc {v : Value} (F : Fr h₀ L s.heap m) (X₀ : (hd.heap_39 w.params).In h₀) (N : News h₀ L s.heap news) (U : Upd x (accObj dx items ep) (accObj dx (items.push v) (ep + 1)) news news')
    (h : ∀ h', Fr h₀ L h' m → News h₀ L h' news' → Q .none { s with heap := h' }) (hsz : items.size ≤ sizeLine) :
    wpAny (model prog w) A (call (.builtin "list.append") [.ref x, v]) Q E s := by
  have X : (hd.heap_39 w.params).In s.heap := X₀.keeps F.keep
  obtain ⟨pre, post, e1, e2, a, b⟩ := U.split
  have hm : (x, accObj dx items ep) ∈ news := by rw [e1]; exact List.mem_append.mpr (.inr (.head _))
  have hx' := (N _ hm).1
  have Nf := news_upd (f := Obj.mapSeq (·.push v)) (o' := accObj dx (items.push v) (ep + 1)) F (e1 ▸ N) a b (by simp [Obj.mapSeq]) rfl
  have ix := acc_list (prog := prog) X hx'
  refine wpAny_call (codeAny_call_builtin ap_plain entry_list_append (@check_method _ _ _ (model prog w) "list.append" "list" "append" (.ref x) [v] [] _ ap_kind ap_split ix (args_list_append _ _) ?_))
  show wpAny _ _ (updateSeq x (·.push v) >>= fun _ => ret .none) _ _ _
  refine wpAny_bind (wpAny_updateSeq hx' rfl ?_ hsz (by simp; exact hsz))
  exact wpAny_pure (h _ Nf.1 (e2.symm ▸ Nf.2))
end
end Mine
-- part A6
open PySem PySem.W PyProof.Rows PySem.Calls
namespace Mine
theorem offA6 : True := by
  w_top off
  trivial
set_option maxRecDepth 100000
set_option maxHeartbeats 1000000
theorem no_seq (P : Params) : (seqItemTypes.all fun n => subIn (hd.heap_39 P) (.ref 100) (.type n) == some false) = true := by kernel_rfl
theorem gi_bind (x : Value) : bindSpecial (.builtin "list.__getitem__") x = pure (.builtin "list.__getitem__", [x]) := slot_list_getitem.bind x
theorem si_slot : Slot "list" "__setitem__" "list.__setitem__" := .of (owner := "list") (n := "__setitem__") (by rw [typeLookup_type, builtinLookup_eq_fast]; kernel_rfl) (by decide +kernel) (by decide +kernel) (by decide +kernel)
  (by first | exact .inl (by decide +kernel) | exact .inr (by decide +kernel)) (by rw [isSubtype_type]; kernel_rfl)
theorem si_entry : entryFor table "list.__setitem__" = some Builtin.«list.__setitem__» := entryFor_of_tree (by kernel_rfl)
theorem si_args (a b c : Value) : argsOk "list.__setitem__" ⟨[a, b, c], []⟩ := by unfold argsOk; kernel_rfl
theorem si_kind : builtinKind "list.__setitem__" = some .slot := by decide +kernel
theorem si_split : splitId "list.__setitem__" = some ("list", "__setitem__") := by decide +kernel
theorem gi_kind : builtinKind "list.__getitem__" = some .method := by decide +kernel
theorem gi_split : splitId "list.__getitem__" = some ("list", "__getitem__") := by decide +kernel
section
variable {prog : Program} {w : World} {A : Around} {E : Value → Shared → Prop} {s : Shared} {x dx sl : Addr} {items : Array Value} {ep : Nat} {Q : Value → Shared → Prop}
theorem looks_noSeq (X : (hd.heap_39 w.params).In s.heap) : Looks (model prog w) s.heap (seqItemTypes.anyM fun n => isSubtype (.ref 100) (.type n)) false := anyM_none X (no_seq _)
theorem seqKey_acc {k : Value} {name : Str} {Q : Value → Shared → Prop} (X : (hd.heap_39 w.params).In s.heap) (hx : s.heap.get? x = some (accObj dx items ep)) (h : Q k s) :
    wpAny (model prog w) A (sequenceKey (.ref x) k name) Q E s := by
  have ty := acc_type (prog := prog) (w := w) hx
  have no := looks_noSeq (prog := prog) X
  unfold sequenceKey
  refine wpAny_bind (ty.here ?_)
  dsimp only
  refine wpAny_bind (no.here ?_)
  exact wpAny_pure h
theorem slice_parts {vl : Value} {a : Int} {Q : Value × Value × Value → Shared → Prop} (hs : s.heap.IsSliceOf sl vl .none .none) (pl : IsPart vl (some a)) (h : Q (rawInt a, .none, .none) s) :
    wpAny (model prog w) A (Builtin.List.listSliceParts (.ref sl)) Q E s := by
  obtain ⟨os, hos, hcs, hds⟩ := id hs
  rw [listSliceParts_eq]
  refine wpAny_bind (wpAny_field hos hds (x := .none) rfl (wpAny_bind (wpAny_listPart .none ?_)))
  rw [if_neg (by decide)]
  refine wpAny_bind (wpAny_field hos hds (x := vl) rfl (wpAny_bind (wpAny_listPart pl ?_)))
  exact wpAny_bind (wpAny_field hos hds (x := .none) rfl (wpAny_bind (wpAny_listPart .none (wpAny_pure h))))
theorem no_sub {Q : Option Int → Shared → Prop} (hT : s.TypeIs (.ref sl) "slice") (h : Q none s) : wpAny (model prog w) A (Builtin.List.listSubscript? (.ref sl)) Q E s := by
  unfold Builtin.List.listSubscript?
  refine wpAny_bind (wpAny_specialOf hT slice_no_index ?_)
  simp only [Option.isNone_none, if_true]
  exact wpAny_pure h
theorem getItem_acc {vl : Value} {a : Int} (X : (hd.heap_39 w.params).In s.heap) (hx : s.heap.get? x = some (accObj dx items ep)) (hs : s.heap.IsSliceOf sl vl .none .none) (pl : IsPart vl (some a))
    (h : Q (.ref s.heap.objs.size) { s with heap := s.heap.push { cls := .type "list", data := .seq (slicePick items (some a) none none) } }) (hsz : items.size ≤ sizeLine) :
    wpAny (model prog w) A (getItem (.ref x) (.ref sl)) Q E s := by
  have ty := acc_type (prog := prog) (w := w) hx
  have ix := acc_list (prog := prog) X hx
  have hTs : s.TypeIs (.ref sl) "slice" := let ⟨o, a, b, _⟩ := hs; ⟨o, a, b⟩
  unfold getItem
  refine wpAny_holding (wpAny_bind (seqKey_acc X hx ?_))
  unfold callSpecial?
  refine wpAny_bind (wpAny_bind (wpAny_bind (ty.here ((looks_findIn X (f_getitem _)).here (wpAny_holding ?_)))))
  rw [gi_bind]
  refine wpAny_bind (wpAny_pure (wpAny_bind (wpAny_call (codeAny_call_builtin slot_list_getitem.plain entry_list_getitem (@check_method _ _ _ (model prog w) "list.__getitem__" "list" "__getitem__" (.ref x) [.ref sl] [] _ gi_kind gi_split ix (args_list_getitem _ _) ?_)))))
  show wpAny _ _ (Builtin.List.listSubscript? (.ref sl) >>= _) _ _ s
  refine wpAny_bind (no_sub hTs ?_)
  show wpAny _ _ (typeOf (.ref sl) >>= _) _ _ s
  refine wpAny_bind (wpAny_typeOf hTs ?_)
  rw [if_neg (by decide)]
  refine wpAny_bind (slice_parts hs pl ?_)
  refine wpAny_bind (m := Builtin.List.listItems (.ref x)) ?_
  unfold Builtin.List.listItems
  refine wpAny_bind (wpAny_seqItems hx rfl (wpAny_pure ?_))
  refine wpAny_bind (wpAny_of_eq (sliceIndices_raw (some a) none none items.size (by simp)) ?_)
  exact wpAny_bind (wpAny_newObj_type (wpAny_pure (wpAny_pure (wpAny_pure h))) (Nat.le_trans (slicePick_size_le items (some a) none none) hsz))
theorem setItem_acc {vl : Value} {a l : Nat} {Q : Unit → Shared → Prop} (X : (hd.heap_39 w.params).In s.heap) (hx : s.heap.get? x = some (accObj dx items ep)) (hs : s.heap.IsSliceOf sl vl .none .none) (pl : IsPart vl (some (a : Int))) (ha : a ≤ items.size)
    (hl : s.heap.get? l = some (listOf #[] 0)) (hxl : x ≠ l)
    (h : Q () { s with heap := s.heap.update x (Obj.mapSeq fun xs => xs.extract 0 a ++ #[] ++ xs.extract items.size) }) (hsz : items.size ≤ sizeLine) :
    wpAny (model prog w) A (setItem (.ref x) (.ref sl) (.ref l)) Q E s := by
  have ty := acc_type (prog := prog) (w := w) hx
  have ix := acc_list (prog := prog) X hx
  have hTs : s.TypeIs (.ref sl) "slice" := let ⟨o, a, b, _⟩ := hs; ⟨o, a, b⟩
  unfold setItem
  refine wpAny_holding (wpAny_bind (seqKey_acc X hx ?_))
  unfold callSpecial?
  refine wpAny_bind (wpAny_bind (wpAny_bind (ty.here ((looks_findIn X (f_setitem _)).here (wpAny_holding ?_)))))
  rw [si_slot.bind]
  refine wpAny_bind (wpAny_pure (wpAny_bind (wpAny_call (codeAny_call_builtin si_slot.plain si_entry (@check_slot (model prog w) _ _ _ "list.__setitem__" "list" "__setitem__" (.ref x) [.ref sl, .ref l] [] _ si_kind si_split ix (si_args _ _ _) ?_)))))
  show wpAny _ _ (Builtin.List.listSubscript? (.ref sl) >>= _) _ _ s
  refine wpAny_bind (no_sub hTs ?_)
  show wpAny _ _ (typeOf (.ref sl) >>= _) _ _ s
  refine wpAny_bind (wpAny_typeOf hTs ?_)
  rw [if_neg (by decide)]
  refine wpAny_bind (slice_parts hs pl ?_)
  dsimp only
  rw [if_neg (by simp [Builtin.List.listSameRef, hxl])]
  unfold Builtin.List.listAllItems
  have hTl : s.TypeIs (.ref l) "list" := ⟨_, hl, rfl⟩
  refine wpAny_bind (wpAny_bind (wpAny_typeOf hTl ?_))
  rw [if_pos (by decide)]
  unfold Builtin.List.listItems
  refine wpAny_bind (wpAny_seqItems hl rfl (wpAny_pure ?_))
  refine wpAny_bind (wpAny_bind (wpAny_seqItems hx rfl (wpAny_pure ?_)))
  have eb : sliceBounds (some (a : Int)) none none items.size = ((a : Int), (items.size : Int), 1) := by
    simp only [sliceBounds, Option.getD_none]
    have h1 : ¬ ((a : Int) < 0) := by omega
    simp only [h1, if_false, show (1 : Int) > 0 by decide, if_true]
    congr 1
    omega
  refine wpAny_bind (wpAny_of_eq (sliceIndices_raw (some (a : Int)) none none items.size (by simp)) ?_)
  rw [eb]
  dsimp only
  rw [if_pos (by decide)]
  refine wpAny_bind (wpAny_rule ?_)
  rw [if_neg (by simp [Builtin.List.listTooLong]; exact hsz)]
  have e2 : (max (a : Int) (items.size : Int)).toNat = items.size := by omega
  rw [e2, Int.toNat_natCast]
  unfold Builtin.List.listUpdate
  refine wpAny_bind (wpAny_updateSeq hx rfl ?_ hsz (by simp; omega))
  refine wpAny_bind (wpAny_letGo (wpAny_pure (wpAny_pure (wpAny_pure ?_))))
  exact h
end
section
variable {prog : Program} {w : World} {A : Around} {E : Value → Shared → Prop} {s : Shared} {L : Addr} {h₀ : Heap} {m : Str → Option Value} {news news' : List (Addr × Obj)} {x dx l : Addr} {items : Array Value} {ep : Nat} {value slice : Expr}
theorem sub_acc {vl : Value} {a : Int} {Q : Value → Shared → Prop} (F : Fr h₀ L s.heap m) (X₀ : (hd.heap_39 w.params).In h₀) (N : News h₀ L s.heap news) (hx : (x, accObj dx items ep) ∈ news) (pl : IsPart vl (some a)) (hsz : items.size ≤ sizeLine)
    (h : ∀ D h', Fr h₀ L h' m → News h₀ L h' ((D, listOf (slicePick items (some a) none none) 0) :: news) → (∀ p ∈ news, p.1 < D) → Q (.ref D) { s with heap := h' })
    (hs : subscripted slice false (.ref x) (.ref s.heap.objs.size) = operate [.ref s.heap.objs.size, .ref x] (getItem (.ref x) (.ref s.heap.objs.size))) (ht : ∀ r, letTemporaryGo value (.ref x) r = pure ()) :
    wpAny (model prog w) A (subscriptTail value slice (.ref x) (.ref s.heap.objs.size)) Q E { s with heap := s.heap.push { cls := .type "slice", data := .fields #[vl, .none, .none] } } := by
  have X : (hd.heap_39 w.params).In s.heap := X₀.keeps F.keep
  have k : ∀ b o, s.heap.get? b = some o → (s.heap.push { cls := .type "slice", data := .fields #[vl, .none, .none] }).get? b = some o := fun b o e => Heap.get?_push_of_some _ e
  have X' := X.keeps k
  have hx' := k _ _ (N _ hx).1
  have ty := acc_type (prog := prog) (w := w) (s := { s with heap := s.heap.push { cls := .type "slice", data := .fields #[vl, .none, .none] } }) hx'
  unfold subscriptTail
  refine wpAny_bind ?_
  unfold getitemInPython
  refine wpAny_bind (wpAny_bind (ty.here ((looks_findIn X' (f_getitem _)).here ?_)))
  refine wpAny_pure ?_
  rw [hs]
  refine wpAny_bind (wpAny_operating (getItem_acc (s := { s with heap := s.heap.push { cls := .type "slice", data := .fields #[vl, .none, .none] } }) X' hx' (Heap.IsSliceOf.new ..) pl ?_ hsz))
  refine wpAny_bind (wpAny_of_eq (ht _) (wpAny_pure ?_))
  have N1 := News.push (F.push { cls := .type "slice", data := .fields #[vl, .none, .none] }) (N.grown k) { cls := .type "list", data := .seq (slicePick items (some a) none none) }
  exact h _ _ ((F.push _).push _) N1 fun p hp => by
    show p.1 < (s.heap.push _).objs.size
    rw [Heap.size_push]; exact Nat.lt_succ_of_lt (Heap.lt_size (N p hp).1)
theorem store_acc {vl : Value} {a : Nat} {g : Obj → List (Addr × Obj)} {Q : Unit → Shared → Prop} (F : Fr h₀ L s.heap m) (X₀ : (hd.heap_39 w.params).In h₀) (N : News h₀ L s.heap news) (U : UpdF x (accObj dx items ep) news g) (pl : IsPart vl (some (a : Int))) (ha : a ≤ items.size) (hsz : items.size ≤ sizeLine)
    (hl : (l, listOf #[] 0) ∈ news)
    (h : ∀ h' ep', Fr h₀ L h' m → News h₀ L h' (g (accObj dx (items.extract 0 a) ep')) → Q () { s with heap := h' }) :
    wpAny (model prog w) A (setItem (.ref x) (.ref s.heap.objs.size) (.ref l)) Q E { s with heap := s.heap.push { cls := .type "slice", data := .fields #[vl, .none, .none] } } := by
  have X : (hd.heap_39 w.params).In s.heap := X₀.keeps F.keep
  have k : ∀ b o, s.heap.get? b = some o → (s.heap.push { cls := .type "slice", data := .fields #[vl, .none, .none] }).get? b = some o := fun b o e => Heap.get?_push_of_some _ e
  have X' := X.keeps k
  obtain ⟨pre, post, e1, e2, a1, b1⟩ := U.split
  have hm : (x, accObj dx items ep) ∈ news := by rw [e1]; exact List.mem_append.mpr (.inr (.head _))
  have hx' := k _ _ (N _ hm).1
  have hl' := k _ _ (N _ hl).1
  have hxl : x ≠ l := by
    rintro rfl
    have q := (N _ hm).1
    rw [(N _ hl).1] at q
    cases q
  refine setItem_acc (s := { s with heap := s.heap.push { cls := .type "slice", data := .fields #[vl, .none, .none] } }) X' hx' (Heap.IsSliceOf.new ..) pl ha hl' hxl ?_ hsz
  have Nk := N.grown k
  rw [e1] at Nk
  have Nf := news_upd (f := Obj.mapSeq fun xs => xs.extract 0 a ++ #[] ++ xs.extract items.size) (o' := accObj dx (items.extract 0 a) (if (items.extract 0 a).size == items.size then ep else ep + 1)) (F.push { cls := .type "slice", data := .fields #[vl, .none, .none] }) Nk a1 b1 (by simp [Obj.mapSeq]) rfl
  exact h _ _ Nf.1 (by rw [e2]; exact Nf.2)
end
end Mine
-- part A7
open PySem PySem.W PyProof.Rows PySem.Calls
namespace Mine
theorem offA7 : True := by
  w_top off
  trivial
set_option maxRecDepth 100000
set_option maxHeartbeats 1000000
theorem it_kind : builtinKind "list.__iter__" = some .slot := by decide +kernel
theorem it_split : splitId "list.__iter__" = some ("list", "__iter__") := by decide +kernel
section
variable {prog : Program} {w : World} {A : Around} {E : Value → Shared → Prop} {s : Shared} {x dx : Addr} {items : Array Value} {ep : Nat}
theorem iter_acc {Q : Value → Shared → Prop} (X : (hd.heap_39 w.params).In s.heap) (hx : s.heap.get? x = some (accObj dx items ep))
    (hQ : Q (.ref s.heap.objs.size) { s with heap := s.heap.push { cls := .type "list_iterator", data := .fields #[.ref x, .int 0 0] } }) :
    wpAny (model prog w) A (pyIter (.ref x)) Q E s := by
  have ty := acc_type (prog := prog) (w := w) hx
  have ix := acc_list (prog := prog) X hx
  have li := looks_findIn (M := model prog w) X (f_iter _)
  unfold pyIter
  refine wpAny_bind (wpAny_bind (ty.here (li.here ?_)))
  dsimp only
  unfold callSpecialIfBoundUnlessNone? bindSpecialIfBound?
  refine wpAny_bind (wpAny_holding (wpAny_bind (wpAny_bind (wpAny_bind (ty.here (li.here ?_))))))
  dsimp only
  rw [slot_list_iter.bind]
  have fin : ∀ (Q' : Value → Shared → Prop), (∀ it s', it = .ref s.heap.objs.size → s' = { s with heap := s.heap.push { cls := .type "list_iterator", data := .fields #[.ref x, .int 0 0] } } → Q' it s') →
      wpAny (model prog w) A (call (.builtin "list.__iter__") [.ref x]) Q' E s := fun Q' hQ' => by
    refine wpAny_call (codeAny_call_builtin slot_list_iter.plain entry_list_iter (@check_slot (model prog w) _ _ _ "list.__iter__" "list" "__iter__" (.ref x) [] [] _ it_kind it_split ix (args_list_iter _) ?_))
    show wpAny _ _ (do ret (← newFields "list_iterator" [.ref x, rawInt 0])) _ _ s
    exact wpAny_bind (wpAny_newObj_type (wpAny_pure (hQ' _ _ rfl rfl)))
  have fin2 : wpAny (model prog w) A (call (.builtin "list.__iter__") [.ref x]) (fun it s' => wpAny (model prog w) A (specialOf it (Str.ofString "__next__")) (fun r s'' => ∃ v, r = some v ∧ Q it s'') E s') E s := by
    refine fin _ fun it s' e1 e2 => ?_
    subst e1 e2
    exact wpAny_specialOf (T := "list_iterator") ⟨_, Heap.get?_push_size _ rfl, rfl⟩ slot_listiter_next.lookup ⟨_, rfl, hQ⟩
  refine wpAny_bind (wpAny_askSetting ?_)
  have last : ∀ err : Value → Sem Value, wpAny (model prog w) A (call (.builtin "list.__iter__") [.ref x]) (fun v s' => wpAny (model prog w) A (do
      let r ← specialOf v (Str.ofString "__next__")
      match r with
      | none => err v
      | some _ => pure v) Q E s') E s := fun err => by
    refine wpAny_mono fin2 (fun it s' z => wpAny_bind (wpAny_mono z (fun r s'' y => ?_) fun _ _ e => e)) fun _ _ e => e
    obtain ⟨v, rfl, q⟩ := y
    exact wpAny_pure q
  split
  · refine wpAny_bind (wpAny_pure (wpAny_pure ?_))
    dsimp only
    rw [if_neg (by decide)]
    exact wpAny_bind (wpAny_mono (last _) (fun it s' z => wpAny_pure z) fun _ _ e => e)
  · refine wpAny_tryCatch (wpAny_bind (wpAny_pure (wpAny_pure ?_)))
    dsimp only
    rw [if_neg (by decide)]
    exact wpAny_bind (wpAny_mono (last _) (fun it s' z => wpAny_pure z) fun _ _ e => e)
theorem next_item {it : Addr} {i : Nat} {v : Value} {Q : Option Value → Shared → Prop} (hit : s.heap.IsListIter it x i) (hx : s.heap.get? x = some (accObj dx items ep)) (hv : items[i]? = some v)
    (hQ : ∀ h', h'.IsListIter it x (i + 1) → Heap.SameBut it s.heap h' → Q (some v) { s with heap := h' }) : wpAny (model prog w) A (pyNext (.ref it)) Q E s := by
  obtain ⟨o, ho, hc, hd⟩ := id hit
  unfold pyNext
  refine wpAny_bind (wpAny_attempt (wpAny_callSpecial?_slot (name := Str.ofString "__next__") hit.typeIs slot_listiter_next (wpAny_call_entry slot_listiter_next hit.typeIs entry_listiter_next ?_ (args_listiter_next _))))
  show wpAny _ _ (field (.ref it) 0 >>= _) _ _ s
  refine wpAny_bind (wpAny_field ho hd (x := .ref x) rfl ?_)
  show wpAny _ _ (if (Value.ref x == Value.none) = true then _ else _) _ _ s
  rw [if_neg (show ¬ ((Value.ref x == Value.none) = true) from Bool.false_ne_true)]
  show wpAny _ _ (field (.ref it) 1 >>= _) _ _ s
  refine wpAny_bind (wpAny_field ho hd (x := .int i 0) rfl ?_)
  show wpAny _ _ (seqItems? (.ref x) >>= _) _ _ s
  refine wpAny_bind (wpAny_seqItems hx rfl ?_)
  simp only [Int.toNat_natCast, hv]
  refine wpAny_bind (wpAny_setField ho hd (by simp) (wpAny_pure ⟨v, rfl, wpAny_pure (hQ _ ?_ (Heap.SameBut.update ..))⟩))
  exact ⟨_, Heap.get?_update_self _ ho (Obj.isFreed_of_fields (Obj.data_mapFields hd _)), (Obj.cls_mapFields ..).trans hc, by rw [Obj.data_mapFields hd]; simp [rawInt]⟩
theorem next_end {it : Addr} {i : Nat} {Q : Option Value → Shared → Prop} (hh : A.handled = none) (hit : s.heap.IsListIter it x i) (hx : s.heap.get? x = some (accObj dx items ep)) (hv : items[i]? = none)
    (hQ : ∀ h', Heap.ExtBut it s.heap h' → Q none { s with heap := h' }) : wpAny (model prog w) A (pyNext (.ref it)) Q E s := by
  obtain ⟨o, ho, hc, hd⟩ := id hit
  unfold pyNext
  refine wpAny_bind (wpAny_attempt (wpAny_callSpecial?_slot (name := Str.ofString "__next__") hit.typeIs slot_listiter_next (wpAny_call_entry slot_listiter_next hit.typeIs entry_listiter_next ?_ (args_listiter_next _))))
  show wpAny _ _ (field (.ref it) 0 >>= _) _ _ s
  refine wpAny_bind (wpAny_field ho hd (x := .ref x) rfl ?_)
  show wpAny _ _ (if (Value.ref x == Value.none) = true then _ else _) _ _ s
  rw [if_neg (show ¬ ((Value.ref x == Value.none) = true) from Bool.false_ne_true)]
  show wpAny _ _ (field (.ref it) 1 >>= _) _ _ s
  refine wpAny_bind (wpAny_field ho hd (x := .int i 0) rfl ?_)
  show wpAny _ _ (seqItems? (.ref x) >>= _) _ _ s
  refine wpAny_bind (wpAny_seqItems hx rfl ?_)
  simp only [Int.toNat_natCast, hv]
  refine wpAny_bind (wpAny_rule (wpAny_bind (wpAny_setField ho hd (by simp) ?_)))
  show wpAny _ _ (newExc (.type "StopIteration") [] >>= _) _ _ _
  refine wpAny_bind ?_
  simp only [newExc, newTuple]
  refine wpAny_bind (wpAny_newObj_type ?_ (by size_fits))
  refine wpAny_bind (m := firstArgMember _ _) (wpAny_of_eq (a := Value.none) (by first | rfl | (simp only [firstArgMember]; rfl)) ?_)
  refine wpAny_newObj_type ?_ (by size_fits)
  simp only [raiseNew]
  refine wpAny_bind (wpAny_handled ?_)
  rw [show A.in1.handled = none from hh]
  refine wpAny_bind (wpAny_pure (wpAny_throw ?_))
  refine wpAny_bind (wpAny_isInstance (T := "StopIteration") (b := true) ⟨_, Heap.get?_push_size _ rfl, rfl⟩ isSubtype_stop ?_)
  exact wpAny_pure (hQ _ (((Heap.SameBut.update ..).extBut.push _).push _))
theorem walks_acc (hh : A.handled = none) (I : Addr) (hne : x ≠ I) :
    Walks prog w A I [I, x] [I] items.size (fun i v => items[i]? = some v) (fun i h => h.IsListIter I x i ∧ h.get? x = some (accObj dx items ep)) where
  sub := fun b hb => by simp at hb; simp [hb]
  frame := fun _ _ _ st hk => ⟨st.1.at fun o e => hk I (by simp) o e, hk x (by simp) _ st.2⟩
  item := fun i s Q E hi st hQ => by
    refine next_item st.1 st.2 (v := items[i]) (by simp [hi]) fun h' hit' hs' => ?_
    exact hQ _ h' s.toks (by simp [hi]) ⟨hit', hs'.extBut _ _ hne st.2⟩ fun b o hb e => hs'.extBut b o (fun h => hb (by simp [h])) e
  done := fun s Q E st hQ => next_end hh st.1 st.2 (by simp) fun h' he' => hQ h' s.toks fun b o hb e => he' b o (fun h => hb (by simp [h])) e
  self := fun _ _ _ _ st hQ => wpAny_pyIter_listiter st.1 hQ
end
end Mine
-- part A8
open PySem PySem.W PyProof.Rows PySem.Calls Builtin Builtin.ObjectAttr
namespace Mine
theorem offA8 : True := by
  w_top off
  trivial
set_option maxRecDepth 100000
set_option maxHeartbeats 1000000
theorem f_setattr (P : Params) : findIn (hd.heap_39 P) (.ref 100) "__setattr__" = some (some (.builtin "object.__setattr__")) := by kernel_rfl
theorem f_inisize (P : Params) : findIn (hd.heap_39 P) (.ref 100) "_initial_size" = some none := by kernel_rfl
theorem f_obj (P : Params) : mroIn (hd.heap_39 P) 100 (.type "object") = some true := by kernel_rfl
theorem refuse_acc (self : Value) : refuseLoop self "__setattr__" [.ref 100, .type "list", .type "object"] = pure () := by
  rw [refuseLoop_ref]
  kernel_rfl
section
variable {prog : Program} {w : World} {A : Around} {E : Value → Shared → Prop} {s : Shared} {L : Addr} {h₀ : Heap} {m : Str → Option Value} {news : List (Addr × Obj)} {x dx : Addr} {items : Array Value} {ep : Nat}
abbrev sizeDict (w : World) (t : Tok) (v : Value) : Obj := dictOf [⟨PyData.keyHash w.params (Str.ofString "_initial_size"), .str (Str.ofString "_initial_size") t, v⟩] 1
theorem set_size {v : Value} {Q : Unit → Shared → Prop} (F : Fr h₀ L s.heap m) (X₀ : (hd.heap_39 w.params).In h₀) (N : News h₀ L s.heap ((x, accObj dx items ep) :: (dx, dictOf [] 0) :: news)) (hne : x ≠ dx) (l1 : ∀ p ∈ news, p.1 ≠ dx)
    (h : ∀ h' t, Fr h₀ L h' m → News h₀ L h' ((x, accObj dx items ep) :: (dx, sizeDict w t v) :: news) → Q () { s with heap := h', toks := s.toks + 2 }) :
    wpAny (model prog w) A (setAttr (.ref x) (Str.ofString "_initial_size") v) Q E s := by
  have X : (hd.heap_39 w.params).In s.heap := X₀.keeps F.keep
  have I : W.InstAt s.heap x (accObj dx items ep) 100 (some (dictOf [] 0)) := inst_acc N (.head _) (.tail _ (.head _))
  refine set_plain X I (f_setattr _) ?_
  have SF := PySem.F.store_object
  have sub : Looks (model prog w) s.heap (isInstance (.ref x) (.type "object")) true := I.type.andThen (looks_mroIn X (f_obj _))
  refine codeAny_call_builtin SF.slot.plain SF.entry (@check_slot (model prog w) _ _ { s with toks := s.toks + 1 } "object.__setattr__" "object" "__setattr__" (.ref x) [.str (Str.ofString "_initial_size") s.toks, v] [] _ SF.kind SF.split sub (SF.args _ _ _) ?_)
  obtain ⟨U1, U2⟩ := news_upd (f := Obj.putName (Str.ofString "_initial_size") (PyData.keyHash w.params (Str.ofString "_initial_size")) (.str (Str.ofString "_initial_size") (s.toks + 1)) v) (pre := [(x, accObj dx items ep)]) (post := news) (o' := sizeDict w (s.toks + 1) v) F N (by simpa using hne) l1 rfl rfl
  have D := (N (dx, dictOf [] 0) (by simp)).1
  have D' := (U2 (dx, sizeDict w (s.toks + 1) v) (by simp)).1
  have hx := (N (x, accObj dx items ep) (by simp)).1
  rw [osa_eq, refuse_eq]
  have tyx : Looks (model prog w) s.heap (typeOf (.ref x)) (.ref 100) := I.type
  refine wpAny_bind (wpAny_bind (Looks.here (s := { s with toks := s.toks + 1 }) tyx (wpAny_bind (Looks.here (s := { s with toks := s.toks + 1 }) (looks_mro X) ?_))))
  rw [refuse_acc]
  refine wpAny_pure (wpAny_bind (Looks.here (s := { s with toks := s.toks + 1 }) tyx (wpAny_bind (Looks.here (s := { s with toks := s.toks + 1 }) (looks_findIn X (f_inisize _)) (wpAny_bind (Looks.here (s := { s with toks := s.toks + 1 }) (r := none) Looks.now ?_))))))
  obtain ⟨sl, hC, _⟩ := acc_get X
  have hc : Looks (model prog w) s.heap (classData 100) { name := Str.ofString "_Accumulator", bases := [Value.type "list"], mro := [Value.ref 100, Value.type "list", Value.type "object"], ns := 99, qualname := Str.ofString "_Accumulator" } := (Looks.ld (part := none) hC).andThen .now
  refine wpAny_bind (wpAny_pure (wpAny_bind (wpAny_bind (wpAny_loadPart hx (wpAny_bind (Looks.here (s := { s with toks := s.toks + 1 }) hc ?_))))))
  refine wpAny_pure (a := some dx) (wpAny_bind (wpAny_pure (wpAny_bind ?_)))
  unfold nsSet
  refine wpAny_bind (wpAny_bind (wpAny_askSetting (wpAny_pure (wpAny_bind (wpAny_mkText (wpAny_bind (wpAny_loadPart D ?_)))))))
  dsimp only
  rw [aRefKeyMayBeTheName_at, if_neg (by simp)]
  refine wpAny_updatePart (s := { s with toks := s.toks + 1 + 1 }) D ?_
  refine wpAny_bind (wpAny_lookBehind D' (pastItsLine_dict (by show 1 ≤ sizeLine + 1; rw [sizeLine_eq]; omega)) ?_)
  exact wpAny_pure (h _ _ U1 U2)
end
end Mine
-- part B1
open PySem PySem.W PyProof.Rows PySem.Calls
namespace Mine
theorem offB1 : True := by
  w_top off
  trivial
local macro_rules | `(tactic| walk_at "no such place") => `(tactic| skip)
local macro_rules | `(tactic| walk_at "no such place") => `(tactic| skip)
local macro_rules | `(tactic| walk_at "no such place") => `(tactic| skip)
local macro_rules | `(tactic| walk_at "no such place") => `(tactic| skip)
local macro_rules | `(tactic| walk_at "no such place") => `(tactic| skip)
local macro_rules | `(tactic| walk_at "no such place") => `(tactic| skip)
local macro_rules | `(tactic| walk_at "no such place") => `(tactic| skip)
local macro_rules | `(tactic| walk_at "no such place") => `(tactic| skip)
set_option maxRecDepth 100000
set_option maxHeartbeats 4000000
theorem fill (w : World) (h : Heap) : (Challenge.rw_pg0058_01.row.prog = Challenge.rw_pg0058_01.row.prog ∧ ((hd.heap_39 w.params).In h → True)) := by
  k_fill
  exact ⟨rfl, fun _ => trivial⟩
section
variable {w : World} {mean : ExcName → Option Value} {mg mb : Str → Option Value} {dp un : Nat} {gd : Option (List Code)} {cn : Str} {cs : Scope} {a : Addr} {ccd : Value} {cl : List (Str × Addr)} {outer : List Env} {A₀ : Around} {base h₀ : Heap} {L : Addr} {m : Str → Option Value} {news : List (Addr × Obj)} {s : Shared} {Q E : Value → Shared → Prop}

theorem ctoi_s {c : Nat} {tk : Tok} (B : Below A₀ base outer h₀) (F : Fr h₀ L s.heap m) (X : (hd.heap_39 w.params).In h₀) (N : News h₀ L s.heap news) (T : Top hd.view_39 (looseW hd.view_39 [Str.ofString "_Accumulator"]) mean mg mb h₀) (hk : cs.kind = .function)
    (hdp : dp + 1 < recursionLimit) (hun : un + 8 < cLine) (hret : ∀ t h' tk', Fr h₀ L h' m → News h₀ L h' news → Q (.int c t) { s with heap := h', toks := tk' }) :
    wpAny (model Challenge.rw_pg0058_01.row.prog w) (ktrTop dp un gd cn cs L a ccd cl outer) (call (.ref 111) [.str ⟨#[c]⟩ tk]) Q E s := by
  refine wpAny_call ?_
  k_dflt cell_enter
  k_steps
  all_goals exact hret _ _ _ (by k_asm) (by k_asm)
theorem ctoi_i {c : Int} {tk : Tok} (B : Below A₀ base outer h₀) (F : Fr h₀ L s.heap m) (X : (hd.heap_39 w.params).In h₀) (N : News h₀ L s.heap news) (T : Top hd.view_39 (looseW hd.view_39 [Str.ofString "_Accumulator"]) mean mg mb h₀) (hk : cs.kind = .function)
    (hdp : dp + 1 < recursionLimit) (hun : un + 8 < cLine) (hret : ∀ t h' tk', Fr h₀ L h' m → News h₀ L h' news → Q (.int c t) { s with heap := h', toks := tk' }) :
    wpAny (model Challenge.rw_pg0058_01.row.prog w) (ktrTop dp un gd cn cs L a ccd cl outer) (call (.ref 111) [.int c tk]) Q E s := by
  refine wpAny_call ?_
  k_dflt cell_enter
  k_steps
  all_goals exact hret _ _ _ (by k_asm) (by k_asm)
local macro_rules | `(tactic| walk_at "call ref") => `(tactic| (k_here; (with_reducible show wpAny _ _ (call (Value.ref 111) [Value.str _ _]) _ _ _); k_dflt (refine' ctoi_s ?k1 ?k2 ?k3 ?k4 ?k5 ?kK ?kd ?ku ?_; (case k1 => k_asm); (case k2 => k_asm); (case k3 => k_asm); (case k4 => k_asm); (case k5 => k_asm); (case kK => first | exact rfl | assumption); (case kd => ktr_room); (case ku => ktr_units); intro t9 h9 tk9 F9 N9; (try dsimp only); (try k_fold))))
local macro_rules | `(tactic| walk_at "call ref") => `(tactic| (k_here; (with_reducible show wpAny _ _ (call (Value.ref 111) [Value.int _ _]) _ _ _); k_dflt (refine' ctoi_i ?k1 ?k2 ?k3 ?k4 ?k5 ?kK ?kd ?ku ?_; (case k1 => k_asm); (case k2 => k_asm); (case k3 => k_asm); (case k4 => k_asm); (case k5 => k_asm); (case kK => first | exact rfl | assumption); (case kd => ktr_room); (case ku => ktr_units); intro t9 h9 tk9 F9 N9; (try dsimp only); (try k_fold))))
theorem iscntrl_c {c : Nat} {tk : Tok} (B : Below A₀ base outer h₀) (F : Fr h₀ L s.heap m) (X : (hd.heap_39 w.params).In h₀) (N : News h₀ L s.heap news) (T : Top hd.view_39 (looseW hd.view_39 [Str.ofString "_Accumulator"]) mean mg mb h₀) (hk : cs.kind = .function)
    (hdp : dp + 2 < recursionLimit) (hun : un + 20 < cLine) (hret : ∀ (t : Tok) (h' : Heap) (tk' : Nat), Fr h₀ L h' m → News h₀ L h' news → Q (.bool (decide (c ≤ 31) || decide (c = 127))) { s with heap := h', toks := tk' }) :
    wpAny (model Challenge.rw_pg0058_01.row.prog w) (ktrTop dp un gd cn cs L a ccd cl outer) (call (.ref 118) [.str ⟨#[c]⟩ tk]) Q E s := by
  refine wpAny_call ?_
  k_dflt cell_enter
  k_steps
  all_goals cb_end hret
theorem isprint_c {c : Int} {tk : Tok} (B : Below A₀ base outer h₀) (F : Fr h₀ L s.heap m) (X : (hd.heap_39 w.params).In h₀) (N : News h₀ L s.heap news) (T : Top hd.view_39 (looseW hd.view_39 [Str.ofString "_Accumulator"]) mean mg mb h₀) (hk : cs.kind = .function)
    (hdp : dp + 2 < recursionLimit) (hun : un + 20 < cLine) (hret : ∀ (t : Tok) (h' : Heap) (tk' : Nat), Fr h₀ L h' m → News h₀ L h' news → Q (.bool (decide (32 ≤ c) && decide (c ≤ 126))) { s with heap := h', toks := tk' }) :
    wpAny (model Challenge.rw_pg0058_01.row.prog w) (ktrTop dp un gd cn cs L a ccd cl outer) (call (.ref 125) [.int c tk]) Q E s := by
  refine wpAny_call ?_
  k_dflt cell_enter
  k_steps
  all_goals cb_end hret
local macro_rules | `(tactic| walk_at "call ref") => `(tactic| (k_here; (with_reducible show wpAny _ _ (call (Value.ref 118) [Value.str _ _]) _ _ _); k_dflt (refine' iscntrl_c ?k1 ?k2 ?k3 ?k4 ?k5 ?kK ?kd ?ku ?_; (case k1 => k_asm); (case k2 => k_asm); (case k3 => k_asm); (case k4 => k_asm); (case k5 => k_asm); (case kK => first | exact rfl | assumption); (case kd => ktr_room); (case ku => ktr_units); intro t9 h9 tk9 F9 N9; (try dsimp only); (try k_fold))))
local macro_rules | `(tactic| walk_at "call ref") => `(tactic| (k_here; (with_reducible show wpAny _ _ (call (Value.ref 125) [Value.int _ _]) _ _ _); k_dflt (refine' isprint_c ?k1 ?k2 ?k3 ?k4 ?k5 ?kK ?kd ?ku ?_; (case k1 => k_asm); (case k2 => k_asm); (case k3 => k_asm); (case k4 => k_asm); (case k5 => k_asm); (case kK => first | exact rfl | assumption); (case kd => ktr_room); (case ku => ktr_units); intro t9 h9 tk9 F9 N9; (try dsimp only); (try k_fold))))
/-- the picture of a sign -/
def pic (c : Nat) : Str :=
  let low := c % 128
  let shown : List Nat := if low < 32 then [94, 64 + low] else if low = 127 then [94, 159] else [low]
  ⟨(if c / 128 % 2 = 1 then 33 :: shown else shown).toArray⟩
theorem un1 {c : Nat} (hc : 32 ≤ c ∧ c ≤ 256 ∧ c ≠ 127) (h1 : (decide (32 ≤ Builtin.bitAnd (c : Int) 127) && decide (Builtin.bitAnd (c : Int) 127 ≤ 126)) = true) (h2 : Builtin.bitAnd (c : Int) 128 ≠ 0) :
    Str.ofString "!" ++ (⟨#[(Builtin.bitAnd (c : Int) 127).toNat]⟩ : Str) = pic c :=
  (by decide +kernel : ∀ c : _root_.Fin 257, (32 ≤ c.val ∧ c.val ≤ 256 ∧ c.val ≠ 127) → (decide (32 ≤ Builtin.bitAnd (c.val : Int) 127) && decide (Builtin.bitAnd (c.val : Int) 127 ≤ 126)) = true → Builtin.bitAnd (c.val : Int) 128 ≠ 0 → Str.ofString "!" ++ (⟨#[(Builtin.bitAnd (c.val : Int) 127).toNat]⟩ : Str) = pic c.val) ⟨c, by omega⟩ hc h1 h2
theorem un2 {c : Nat} (hc : 32 ≤ c ∧ c ≤ 256 ∧ c ≠ 127) (h1 : (decide (32 ≤ Builtin.bitAnd (c : Int) 127) && decide (Builtin.bitAnd (c : Int) 127 ≤ 126)) = true) (h2 : Builtin.bitAnd (c : Int) 128 = 0) :
    (⟨#[(Builtin.bitAnd (c : Int) 127).toNat]⟩ : Str) = pic c :=
  (by decide +kernel : ∀ c : _root_.Fin 257, (32 ≤ c.val ∧ c.val ≤ 256 ∧ c.val ≠ 127) → (decide (32 ≤ Builtin.bitAnd (c.val : Int) 127) && decide (Builtin.bitAnd (c.val : Int) 127 ≤ 126)) = true → Builtin.bitAnd (c.val : Int) 128 = 0 → (⟨#[(Builtin.bitAnd (c.val : Int) 127).toNat]⟩ : Str) = pic c.val) ⟨c, by omega⟩ hc h1 h2
theorem un3 {c : Nat} (hc : 32 ≤ c ∧ c ≤ 256 ∧ c ≠ 127) (h1 : (decide (32 ≤ Builtin.bitAnd (c : Int) 127) && decide (Builtin.bitAnd (c : Int) 127 ≤ 126)) = false) (h2 : Builtin.bitAnd (c : Int) 128 ≠ 0) :
    Str.ofString "!" ++ (Str.ofString "^" ++ (⟨#[(Builtin.bitOr (Builtin.bitAnd (c : Int) 127) 32 + 32).toNat]⟩ : Str)) = pic c :=
  (by decide +kernel : ∀ c : _root_.Fin 257, (32 ≤ c.val ∧ c.val ≤ 256 ∧ c.val ≠ 127) → (decide (32 ≤ Builtin.bitAnd (c.val : Int) 127) && decide (Builtin.bitAnd (c.val : Int) 127 ≤ 126)) = false → Builtin.bitAnd (c.val : Int) 128 ≠ 0 → Str.ofString "!" ++ (Str.ofString "^" ++ (⟨#[(Builtin.bitOr (Builtin.bitAnd (c.val : Int) 127) 32 + 32).toNat]⟩ : Str)) = pic c.val) ⟨c, by omega⟩ hc h1 h2
theorem un4 {c : Nat} (hc : 32 ≤ c ∧ c ≤ 256 ∧ c ≠ 127) (h1 : (decide (32 ≤ Builtin.bitAnd (c : Int) 127) && decide (Builtin.bitAnd (c : Int) 127 ≤ 126)) = false) (h2 : Builtin.bitAnd (c : Int) 128 = 0) :
    (Str.ofString "^" ++ (⟨#[(Builtin.bitOr (Builtin.bitAnd (c : Int) 127) 32 + 32).toNat]⟩ : Str)) = pic c :=
  (by decide +kernel : ∀ c : _root_.Fin 257, (32 ≤ c.val ∧ c.val ≤ 256 ∧ c.val ≠ 127) → (decide (32 ≤ Builtin.bitAnd (c.val : Int) 127) && decide (Builtin.bitAnd (c.val : Int) 127 ≤ 126)) = false → Builtin.bitAnd (c.val : Int) 128 = 0 → (Str.ofString "^" ++ (⟨#[(Builtin.bitOr (Builtin.bitAnd (c.val : Int) 127) 32 + 32).toNat]⟩ : Str)) = pic c.val) ⟨c, by omega⟩ hc h1 h2
theorem un_b {c : Nat} (hc : 32 ≤ c ∧ c ≤ 256 ∧ c ≠ 127) : 0 ≤ Builtin.bitOr (Builtin.bitAnd (c : Int) 127) 32 + 32 ∧ Builtin.bitOr (Builtin.bitAnd (c : Int) 127) 32 + 32 ≤ 1114111 :=
  (by decide +kernel : ∀ c : _root_.Fin 257, (32 ≤ c.val ∧ c.val ≤ 256 ∧ c.val ≠ 127) → 0 ≤ Builtin.bitOr (Builtin.bitAnd (c.val : Int) 127) 32 + 32 ∧ Builtin.bitOr (Builtin.bitAnd (c.val : Int) 127) 32 + 32 ≤ 1114111) ⟨c, by omega⟩ hc
local macro_rules | `(tactic| walk_at "call builtin:chr") => `(tactic| (k_here; (with_reducible show wpAny _ _ (call (Value.builtin "chr") [Value.int (Builtin.bitOr (Builtin.bitAnd _ 127) 32 + 32) _]) _ _ _); refine chr_of_range (un_b (by assumption)).1 (un_b (by assumption)).2 ?_))
theorem unctrl_c {c : Nat} {tk : Tok} (B : Below A₀ base outer h₀) (F : Fr h₀ L s.heap m) (X : (hd.heap_39 w.params).In h₀) (N : News h₀ L s.heap news) (T : Top hd.view_39 (looseW hd.view_39 [Str.ofString "_Accumulator"]) mean mg mb h₀) (hk : cs.kind = .function)
    (hc : 32 ≤ c ∧ c ≤ 256 ∧ c ≠ 127)
    (hdp : dp + 3 < recursionLimit) (hun : un + 40 < cLine) (hret : ∀ (t : Tok) (h' : Heap) (tk' : Nat), Fr h₀ L h' m → News h₀ L h' news → Q (.str (pic c) t) { s with heap := h', toks := tk' }) :
    wpAny (model Challenge.rw_pg0058_01.row.prog w) (ktrTop dp un gd cn cs L a ccd cl outer) (call (.ref 132) [.str ⟨#[c]⟩ tk]) Q E s := by
  refine wpAny_call ?_
  k_dflt cell_enter
  k_steps
  all_goals first
    | exact cb_retS (Q := Q) hret (un1 hc (by assumption) (by assumption)) (by k_asm) (by k_asm)
    | exact cb_retS (Q := Q) hret (un2 hc (by assumption) (by assumption)) (by k_asm) (by k_asm)
    | exact cb_retS (Q := Q) hret (un3 hc (by assumption) (by assumption)) (by k_asm) (by k_asm)
    | exact cb_retS (Q := Q) hret (un4 hc (by assumption) (by assumption)) (by k_asm) (by k_asm)
    | (exfalso; have h127 : ((c : Int) == 127) = true := (by assumption); have := beq_iff_eq.mp h127; omega)
    | (exfalso; have h127 : (c : Int) = 127 := (by assumption); omega)
end
end Mine
-- part B2
open PySem PySem.W PyProof.Rows PySem.Calls
namespace Mine
theorem offB2 : True := by
  w_top off
  trivial
local macro_rules | `(tactic| walk_at "no such place") => `(tactic| skip)
local macro_rules | `(tactic| walk_at "no such place") => `(tactic| skip)
local macro_rules | `(tactic| walk_at "no such place") => `(tactic| skip)
local macro_rules | `(tactic| walk_at "no such place") => `(tactic| skip)
local macro_rules | `(tactic| walk_at "no such place") => `(tactic| skip)
local macro_rules | `(tactic| walk_at "no such place") => `(tactic| skip)
local macro_rules | `(tactic| walk_at "no such place") => `(tactic| skip)
local macro_rules | `(tactic| walk_at "no such place") => `(tactic| skip)
local macro_rules | `(tactic| walk_at "no such place") => `(tactic| skip)
local macro_rules | `(tactic| walk_at "no such place") => `(tactic| skip)
local macro_rules | `(tactic| walk_at "no such place") => `(tactic| skip)
local macro_rules | `(tactic| walk_at "no such place") => `(tactic| skip)
local macro_rules | `(tactic| walk_at "no such place") => `(tactic| skip)
local macro_rules | `(tactic| walk_at "no such place") => `(tactic| skip)
local macro_rules | `(tactic| walk_at "no such place") => `(tactic| skip)
local macro_rules | `(tactic| walk_at "no such place") => `(tactic| skip)
set_option maxRecDepth 100000
set_option maxHeartbeats 4000000
theorem fill2 (w : World) (h : Heap) : (Challenge.rw_pg0058_01.row.prog = Challenge.rw_pg0058_01.row.prog ∧ ((hd.heap_39 w.params).In h → True)) := by
  k_fill
  exact ⟨rfl, fun _ => trivial⟩
def codeOf (n : Int) : Nat :=
  if n % 3 = 0 then (if n / 3 % 6 = 0 then 0 else if n / 3 % 6 = 1 then 1 else if n / 3 % 6 = 2 then 2 else if n / 3 % 6 = 3 then 3 else if n / 3 % 6 = 4 then 31 else 127)
  else if n / 3 % 224 < 95 then 32 + (n / 3 % 224).toNat else 33 + (n / 3 % 224).toNat
def worthOf (n : Int) : Int :=
  if n % 3 = 0 then (if n / 3 % 6 = 0 then 0 else if n / 3 % 6 = 1 then -1 else if n / 3 % 6 = 2 then -2 else if n / 3 % 6 = 3 then -3 else if n / 3 % 6 = 4 then -31 else -1) else 1
theorem fd3 (n : Int) : n.fdiv 3 = n / 3 := Int.fdiv_eq_ediv_of_nonneg _ (by decide)
theorem fm3 (n : Int) : n.fmod 3 = n % 3 := Int.fmod_eq_emod_of_nonneg _ (by decide)
theorem fm6 (n : Int) : n.fmod 6 = n % 6 := Int.fmod_eq_emod_of_nonneg _ (by decide)
theorem fm224 (n : Int) : n.fmod 224 = n % 224 := Int.fmod_eq_emod_of_nonneg _ (by decide)
theorem cd1 {n : Int} (h : n.fmod 3 = 0) : ([0, 1, 2, 3, 31, 127] : List Int).getD ((n.fdiv 3).fmod 6).toNat 0 = ((codeOf n : Nat) : Int) := by
  rw [fm3] at h
  rw [fd3, fm6]
  unfold codeOf
  rw [if_pos h]
  generalize n / 3 = k
  have h1 : 0 ≤ k % 6 := by omega
  have h2 : k % 6 < 6 := by omega
  generalize k % 6 = j at h1 h2
  have : j = 0 ∨ j = 1 ∨ j = 2 ∨ j = 3 ∨ j = 4 ∨ j = 5 := by omega
  rcases this with rfl | rfl | rfl | rfl | rfl | rfl <;> rfl
theorem cd2 {n : Int} (h : n.fmod 3 ≠ 0) (h2 : (n.fdiv 3).fmod 224 < 95) : 32 + (n.fdiv 3).fmod 224 = ((codeOf n : Nat) : Int) := by
  rw [fm3] at h
  rw [fd3, fm224] at h2 ⊢
  unfold codeOf
  rw [if_neg h, if_pos h2]
  omega
theorem cd3 {n : Int} (h : n.fmod 3 ≠ 0) (h2 : ¬ (n.fdiv 3).fmod 224 < 95) : 33 + (n.fdiv 3).fmod 224 = ((codeOf n : Nat) : Int) := by
  rw [fm3] at h
  rw [fd3, fm224] at h2 ⊢
  unfold codeOf
  rw [if_neg h, if_neg h2]
  omega
theorem wt1 {n : Int} (h : n.fmod 3 = 0) : ([0, -1, -2, -3, -31, -1] : List Int).getD ((n.fdiv 3).fmod 6).toNat 0 = worthOf n := by
  rw [fm3] at h
  rw [fd3, fm6]
  unfold worthOf
  rw [if_pos h]
  generalize n / 3 = k
  have h1 : 0 ≤ k % 6 := by omega
  have h2 : k % 6 < 6 := by omega
  generalize k % 6 = j at h1 h2
  have : j = 0 ∨ j = 1 ∨ j = 2 ∨ j = 3 ∨ j = 4 ∨ j = 5 := by omega
  rcases this with rfl | rfl | rfl | rfl | rfl | rfl <;> rfl
theorem wt2 {n : Int} (h : n.fmod 3 ≠ 0) : (1 : Int) = worthOf n := by
  rw [fm3] at h
  unfold worthOf
  rw [if_neg h]
section
variable {w : World} {mean : ExcName → Option Value} {mg mb : Str → Option Value} {dp un : Nat} {gd : Option (List Code)} {cn : Str} {cs : Scope} {a : Addr} {ccd : Value} {cl : List (Str × Addr)} {outer : List Env} {A₀ : Around} {base h₀ : Heap} {L : Addr} {m : Str → Option Value} {news : List (Addr × Obj)} {s : Shared} {Q E : Value → Shared → Prop}
theorem code_c {n : Int} {tk : Tok} (B : Below A₀ base outer h₀) (F : Fr h₀ L s.heap m) (X : (hd.heap_39 w.params).In h₀) (N : News h₀ L s.heap news) (T : Top hd.view_39 (looseW hd.view_39 [Str.ofString "_Accumulator"]) mean mg mb h₀) (hk : cs.kind = .function)
    (hn : 0 ≤ n ∧ n < 1000000000)
    (hdp : dp + 1 < recursionLimit) (hun : un + 8 < cLine) (hret : ∀ (t : Tok) (h' : Heap) (tk' : Nat), Fr h₀ L h' m → News h₀ L h' news → Q (.int (codeOf n : Nat) t) { s with heap := h', toks := tk' }) :
    wpAny (model Challenge.rw_pg0058_01.row.prog w) (ktrTop dp un gd cn cs L a ccd cl outer) (call (.ref 139) [.int n tk]) Q E s := by
  refine wpAny_call ?_
  k_dflt cell_enter
  k_steps
  all_goals first
    | exact cb_retI (Q := Q) hret (cd1 (by assumption)) (by k_asm) (by first | k_asm | exact cb_drop (by assumption) (fun p hp => .tail _ hp))
    | exact cb_retI (Q := Q) hret (cd2 (by assumption) (by assumption)) (by k_asm) (by first | k_asm | exact cb_drop (by assumption) (fun p hp => .tail _ hp))
    | exact cb_retI (Q := Q) hret (cd3 (by assumption) (by assumption)) (by k_asm) (by first | k_asm | exact cb_drop (by assumption) (fun p hp => .tail _ hp))
theorem worth_c {n : Int} {tk : Tok} (B : Below A₀ base outer h₀) (F : Fr h₀ L s.heap m) (X : (hd.heap_39 w.params).In h₀) (N : News h₀ L s.heap news) (T : Top hd.view_39 (looseW hd.view_39 [Str.ofString "_Accumulator"]) mean mg mb h₀) (hk : cs.kind = .function)
    (hn : 0 ≤ n ∧ n < 1000000000)
    (hdp : dp + 1 < recursionLimit) (hun : un + 8 < cLine) (hret : ∀ (t : Tok) (h' : Heap) (tk' : Nat), Fr h₀ L h' m → News h₀ L h' news → Q (.int (worthOf n) t) { s with heap := h', toks := tk' }) :
    wpAny (model Challenge.rw_pg0058_01.row.prog w) (ktrTop dp un gd cn cs L a ccd cl outer) (call (.ref 146) [.int n tk]) Q E s := by
  refine wpAny_call ?_
  k_dflt cell_enter
  k_steps
  all_goals first
    | exact cb_retI (Q := Q) hret (wt1 (by assumption)) (by k_asm) (by first | k_asm | exact cb_drop (by assumption) (fun p hp => .tail _ hp))
    | exact cb_retI (Q := Q) hret (wt2 (by assumption)) (by k_asm) (by first | k_asm | exact cb_drop (by assumption) (fun p hp => .tail _ hp))
abbrev tupObj (c : Nat) (t u : Tok) : Obj := { cls := .type "tuple", data := .seq #[.str (Str.ofString "") t, .str (pic c) u] }
theorem pc1 {c : Nat} (hc : 32 ≤ c ∧ c ≤ 256 ∧ c ≠ 127) (h1 : Int.fmod (c : Int) 128 < 32) (h2 : Int.fmod (Int.fdiv (c : Int) 128) 2 = 1) : Str.ofString "!" ++ (Str.ofString "^" ++ (⟨#[(64 + Int.fmod (c : Int) 128).toNat]⟩ : Str)) = pic c :=
  (by decide +kernel : ∀ c : _root_.Fin 257, (32 ≤ c.val ∧ c.val ≤ 256 ∧ c.val ≠ 127) → Int.fmod (c.val : Int) 128 < 32 → Int.fmod (Int.fdiv (c.val : Int) 128) 2 = 1 → Str.ofString "!" ++ (Str.ofString "^" ++ (⟨#[(64 + Int.fmod (c.val : Int) 128).toNat]⟩ : Str)) = pic c.val) ⟨c, by omega⟩ hc h1 h2
theorem pc2 {c : Nat} (hc : 32 ≤ c ∧ c ≤ 256 ∧ c ≠ 127) (h1 : Int.fmod (c : Int) 128 < 32) (h2 : Int.fmod (Int.fdiv (c : Int) 128) 2 ≠ 1) : Str.ofString "^" ++ (⟨#[(64 + Int.fmod (c : Int) 128).toNat]⟩ : Str) = pic c :=
  (by decide +kernel : ∀ c : _root_.Fin 257, (32 ≤ c.val ∧ c.val ≤ 256 ∧ c.val ≠ 127) → Int.fmod (c.val : Int) 128 < 32 → Int.fmod (Int.fdiv (c.val : Int) 128) 2 ≠ 1 → Str.ofString "^" ++ (⟨#[(64 + Int.fmod (c.val : Int) 128).toNat]⟩ : Str) = pic c.val) ⟨c, by omega⟩ hc h1 h2
theorem pc3 {c : Nat} (hc : 32 ≤ c ∧ c ≤ 256 ∧ c ≠ 127) (h1 : Int.fmod (c : Int) 128 = 127) (h2 : Int.fmod (Int.fdiv (c : Int) 128) 2 = 1) : Str.ofString "!" ++ (Str.ofString "^" ++ (⟨#[159]⟩ : Str)) = pic c :=
  (by decide +kernel : ∀ c : _root_.Fin 257, (32 ≤ c.val ∧ c.val ≤ 256 ∧ c.val ≠ 127) → Int.fmod (c.val : Int) 128 = 127 → Int.fmod (Int.fdiv (c.val : Int) 128) 2 = 1 → Str.ofString "!" ++ (Str.ofString "^" ++ (⟨#[159]⟩ : Str)) = pic c.val) ⟨c, by omega⟩ hc h1 h2
theorem pc4 {c : Nat} (hc : 32 ≤ c ∧ c ≤ 256 ∧ c ≠ 127) (h1 : Int.fmod (c : Int) 128 = 127) (h2 : Int.fmod (Int.fdiv (c : Int) 128) 2 ≠ 1) : Str.ofString "^" ++ (⟨#[159]⟩ : Str) = pic c :=
  (by decide +kernel : ∀ c : _root_.Fin 257, (32 ≤ c.val ∧ c.val ≤ 256 ∧ c.val ≠ 127) → Int.fmod (c.val : Int) 128 = 127 → Int.fmod (Int.fdiv (c.val : Int) 128) 2 ≠ 1 → Str.ofString "^" ++ (⟨#[159]⟩ : Str) = pic c.val) ⟨c, by omega⟩ hc h1 h2
theorem pc5 {c : Nat} (hc : 32 ≤ c ∧ c ≤ 256 ∧ c ≠ 127) (h1 : ¬ Int.fmod (c : Int) 128 < 32) (h2 : Int.fmod (c : Int) 128 ≠ 127) (h3 : Int.fmod (Int.fdiv (c : Int) 128) 2 = 1) : Str.ofString "!" ++ (⟨#[(Int.fmod (c : Int) 128).toNat]⟩ : Str) = pic c :=
  (by decide +kernel : ∀ c : _root_.Fin 257, (32 ≤ c.val ∧ c.val ≤ 256 ∧ c.val ≠ 127) → ¬ Int.fmod (c.val : Int) 128 < 32 → Int.fmod (c.val : Int) 128 ≠ 127 → Int.fmod (Int.fdiv (c.val : Int) 128) 2 = 1 → Str.ofString "!" ++ (⟨#[(Int.fmod (c.val : Int) 128).toNat]⟩ : Str) = pic c.val) ⟨c, by omega⟩ hc h1 h2 h3
theorem pc6 {c : Nat} (hc : 32 ≤ c ∧ c ≤ 256 ∧ c ≠ 127) (h1 : ¬ Int.fmod (c : Int) 128 < 32) (h2 : Int.fmod (c : Int) 128 ≠ 127) (h3 : Int.fmod (Int.fdiv (c : Int) 128) 2 ≠ 1) : (⟨#[(Int.fmod (c : Int) 128).toNat]⟩ : Str) = pic c :=
  (by decide +kernel : ∀ c : _root_.Fin 257, (32 ≤ c.val ∧ c.val ≤ 256 ∧ c.val ≠ 127) → ¬ Int.fmod (c.val : Int) 128 < 32 → Int.fmod (c.val : Int) 128 ≠ 127 → Int.fmod (Int.fdiv (c.val : Int) 128) 2 ≠ 1 → (⟨#[(Int.fmod (c.val : Int) 128).toNat]⟩ : Str) = pic c.val) ⟨c, by omega⟩ hc h1 h2 h3
theorem piece_ret {X : Str} {c : Nat} {D : Addr} {t u : Tok} {h' : Heap} {tk' : Nat} {news : List (Addr × Obj)} {h₀ : Heap} {L : Addr} {m : Str → Option Value} {s : Shared} {Q : Value → Shared → Prop}
    (hret : ∀ (D : Addr) (t u : Tok) (h' : Heap) (tk' : Nat), Fr h₀ L h' m → News h₀ L h' ((D, tupObj c t u) :: news) → (∀ p ∈ news, p.1 < D) → Q (.ref D) { s with heap := h', toks := tk' }) (e : X = pic c) (F : Fr h₀ L h' m)
    (N : News h₀ L h' ((D, ({ cls := .type "tuple", data := .seq #[.str (Str.ofString "") t, .str X u] } : Obj)) :: news)) (l : ∀ p ∈ news, p.1 < D) : Q (.ref D) { s with heap := h', toks := tk' } := by
  subst e
  exact hret D t u h' tk' F N l
theorem piece_c {c : Nat} {tk : Tok} (B : Below A₀ base outer h₀) (F : Fr h₀ L s.heap m) (X : (hd.heap_39 w.params).In h₀) (N : News h₀ L s.heap news) (T : Top hd.view_39 (looseW hd.view_39 [Str.ofString "_Accumulator"]) mean mg mb h₀) (hk : cs.kind = .function)
    (hc : 32 ≤ c ∧ c ≤ 256 ∧ c ≠ 127)
    (hdp : dp + 1 < recursionLimit) (hun : un + 8 < cLine) (hret : ∀ (D : Addr) (t u : Tok) (h' : Heap) (tk' : Nat), Fr h₀ L h' m → News h₀ L h' ((D, tupObj c t u) :: news) → (∀ p ∈ news, p.1 < D) → Q (.ref D) { s with heap := h', toks := tk' }) :
    wpAny (model Challenge.rw_pg0058_01.row.prog w) (ktrTop dp un gd cn cs L a ccd cl outer) (call (.ref 153) [.int c tk]) Q E s := by
  refine wpAny_call ?_
  k_dflt cell_enter
  k_steps
  all_goals refine piece_ret (Q := Q) (s := s) hret ?_ (by k_asm) (by k_asm) (by assumption)
  all_goals first
    | exact pc1 hc (by assumption) (by assumption)
    | exact pc2 hc (by assumption) (by assumption)
    | exact pc3 hc (by assumption) (by assumption)
    | exact pc4 hc (by assumption) (by assumption)
    | exact pc5 hc (by assumption) (by assumption) (by assumption)
    | exact pc6 hc (by assumption) (by assumption) (by assumption)
end
end Mine
-- part B3
open PySem PySem.W PyProof.Rows PySem.Calls
namespace Mine
theorem offB3 : True := by
  w_top off
  trivial
set_option maxRecDepth 100000
set_option maxHeartbeats 4000000
theorem fill3 (w : World) (h : Heap) : (Challenge.rw_pg0058_01.row.prog = Challenge.rw_pg0058_01.row.prog ∧ ((hd.heap_39 w.params).In h → True)) := by
  k_fill
  exact ⟨rfl, fun _ => trivial⟩
local macro_rules | `(tactic| k_mem) => `(tactic| first | assumption | exact List.mem_cons_self | (refine List.mem_cons_of_mem _ ?_; k_mem))
local macro_rules | `(tactic| k_inst) => `(tactic| (refine' inst_acc ?N ?h1 ?h2; (case N => k_asm); (case h1 => k_mem); (case h2 => k_mem)))
local macro_rules | `(tactic| walk_at "getMethod ref") => `(tactic| (k_here; (with_reducible show wpAny _ _ (getMethod (Value.ref _) (Str.ofString "__init__") _) _ _ _); k_dflt (refine' super_init ?k1 ?k2 ?k3 ?k4 ?k5 ?_; (case k1 => k_asm); (case k2 => k_asm); (case k3 => k_asm); (case k4 => k_mem); (case k5 => k_mem); intro q' h' F' N' l1; (try k_lt l1))))
local macro_rules | `(tactic| walk_at "getMethod ref") => `(tactic| (k_here; (with_reducible show wpAny _ _ (getMethod (Value.ref _) (Str.ofString "__len__") _) _ _ _); k_dflt (refine' super_len ?k1 ?k2 ?k3 ?k4 ?k5 ?_; (case k1 => k_asm); (case k2 => k_asm); (case k3 => k_asm); (case k4 => k_mem); (case k5 => k_mem); intro q' h' F' N' l1; (try k_lt l1))))
theorem all_lt {news : List (Addr × Obj)} {d : Addr} (h : ∀ p ∈ news, p.1 < d) : ∀ p ∈ news, p.1 ≠ d := fun p hp => Nat.ne_of_lt (h p hp)
local macro_rules | `(tactic| k_all) => `(tactic| first | assumption | exact all_lt (by assumption))
local macro_rules | `(tactic| walk_at "call ref") => `(tactic| (k_here; (with_reducible show wpAny _ _ (call (Value.ref _) [] []) _ _ _); k_dflt (refine' call_init ?k1 ?k2 ?k3 ?k4 ?_; (case k1 => k_asm); (case k2 => k_asm); (case k3 => k_mem); (case k4 => k_upd); intro h' F' N')))
local macro_rules | `(tactic| walk_at "call ref") => `(tactic| (k_here; (with_reducible show wpAny _ _ (call (Value.ref _) [] []) _ _ _); k_dflt (refine' call_len ?k1 ?k2 ?k3 ?_; (case k1 => k_asm); (case k2 => k_mem); (case k3 => k_mem))))
theorem callWith_W0 {M : Model} {A : Around} {E : Value → Shared → Prop} {s : Shared} {env : Env} {pos : Pos} {first : List Value} {Q : Value → Shared → Prop} {h₀ : Heap} {L q x : Addr} {news : List (Addr × Obj)} {id : String} (N : News h₀ L s.heap news) (hq : (q, wrapObj id x) ∈ news)
    (h : wpAny M A (call (.ref q) (first ++ [])) Q E s) : wpAny M A (callWith pos (.ref q) first (backTo pos (starEach [] env)) []) Q E s :=
  callWith_of (P := fun h => h.get? q = some (wrapObj id x)) rfl (fun h e => ⟨.machine, .inr (.inl rfl), (Looks.ld (part := none) e).andThen .now⟩) (evalArgs_nil3 ⟨(N _ hq).1, h⟩)
local macro_rules | `(tactic| walk_at "callWith ref") => `(tactic| (k_here; k_dflt (refine' callWith_W0 ?k1 ?k2 ?_; (case k1 => k_asm); (case k2 => k_mem)); (try dsimp only [List.nil_append, List.append_nil])))
/-- a goal at which the walk stops -/
def Stop (P : Prop) : Prop := P
theorem ne_gt {a b : Nat} (h : a < b) : b ≠ a := Nat.ne_of_gt h
local macro_rules | `(tactic| walk_at "setAttr ref") => `(tactic| (k_here; (with_reducible show wpAny _ _ (setAttr (Value.ref _) (Str.ofString "_initial_size") _) _ _ _); k_dflt (refine' set_size ?k1 ?k2 ?k3 ?k4 ?k5 ?_; (case k1 => k_asm); (case k2 => k_asm); (case k3 => k_asm); (case k4 => first | assumption | exact ne_gt (by assumption)); (case k5 => k_all); intro h' t' F' N'; (try dsimp only))))
theorem len_sz {items : Array Value} (h : items.size ≤ 1000) : items.size ≤ sizeLine := by rw [sizeLine_eq]; omega
local macro_rules | `(tactic| walk_at "subscriptTail") => `(tactic| (k_here; (with_reducible show wpAny _ _ (subscriptTail _ _ (Value.ref _) (Value.ref _)) _ _ _); k_dflt (refine' sub_acc ?k1 ?k2 ?k3 ?k4 ?k5 ?k6 ?_ ?k7 ?k8; (case k1 => k_asm); (case k2 => k_asm); (case k3 => k_asm); (case k4 => k_mem); (case k5 => exact IsPart.int _ _); (case k6 => exact len_sz (by assumption)); (case k7 => rfl); (case k8 => exact fun _ => rfl); intro D' h' F' N' l1; (try k_lt l1))))
local macro_rules | `(tactic| walk_at "setItem ref ref ref") => `(tactic| (k_here; k_dflt (refine' store_acc ?k1 ?k2 ?k3 ?k4 ?k5 ?k6 ?k7 ?k8 ?_; (case k1 => k_asm); (case k2 => k_asm); (case k3 => k_asm); (case k4 => k_updF); (case k5 => exact IsPart.int _ _); (case k6 => assumption); (case k7 => exact len_sz (by assumption)); (case k8 => k_mem); intro h' ep' F' N'; (try dsimp only at N'))))
local macro_rules | `(tactic| walk_at "getMethod ref") => `(tactic| (k_here; k_dflt (refine' method_acc ?k1 ?k2 ?k3 ?k4 ?k5 ?k6 ?_; (case k1 => k_in); (case k2 => k_inst); (case k3 => first | exact f_append _ | exact f_push _ | exact f_popfrom _ | exact f_partcount _); (case k4 => exact rfl); (case k5 => decide); (case k6 => exact rfl))))
local macro_rules | `(tactic| walk_at "call builtin:list.append") => `(tactic| (k_here; (with_reducible show wpAny _ _ (call (Value.builtin _) [Value.ref _, _]) _ _ _); k_dflt (refine' append_acc ?k1 ?k2 ?k3 ?k4 ?_ ?k6; (case k1 => k_asm); (case k2 => k_asm); (case k3 => k_asm); (case k4 => k_upd); (case k6 => exact len_sz (by assumption)); intro h' F' N')))
theorem allLt_out {d : Nat} : ∀ {l : List (Addr × Obj)}, AllLt d l → ∀ p ∈ l, p.1 < d
  | [], _, _, h => nomatch h
  | _ :: _, x, p, h => by
    rcases List.mem_cons.mp h with rfl | h
    · exact x.1
    · exact allLt_out x.2 p h
theorem swap2 {α : Type} {a b : α} {l : List α} : ∀ p ∈ a :: b :: l, p ∈ b :: a :: l := fun p hp => by
  simp only [List.mem_cons] at hp ⊢
  rcases hp with h | h | h
  · exact .inr (.inl h)
  · exact .inl h
  · exact .inr (.inr h)
section
variable {w : World} {mean : ExcName → Option Value} {mg mb : Str → Option Value} {dp un : Nat} {gd : Option (List Code)} {cn : Str} {cs : Scope} {a : Addr} {ccd : Value} {cl : List (Str × Addr)} {outer : List Env} {A₀ : Around} {base h₀ : Heap} {L : Addr} {m : Str → Option Value} {news : List (Addr × Obj)} {s : Shared} {Q E : Value → Shared → Prop}
theorem acc_new (B : Below A₀ base outer h₀) (F : Fr h₀ L s.heap m) (X : (hd.heap_39 w.params).In h₀) (N : News h₀ L s.heap news) (T : Top hd.view_39 (looseW hd.view_39 [Str.ofString "_Accumulator"]) mean mg mb h₀) (hk : cs.kind = .function)
    (hdp : dp + 4 < recursionLimit) (hun : un + 40 < cLine)
    (hret : ∀ (x dx : Addr) (t : Tok) (h' : Heap) (tk' : Nat), Fr h₀ L h' m → News h₀ L h' ((x, accObj dx #[] 0) :: (dx, sizeDict w t (.int 0 210)) :: news) → (∀ p ∈ news, p.1 < dx) → dx < x → Q (.ref x) { s with heap := h', toks := tk' }) :
    wpAny (model Challenge.rw_pg0058_01.row.prog w) (ktrTop dp un gd cn cs L a ccd cl outer) (call (.ref 100) [] []) Q E s := by
  refine call_acc F X N ?_
  intro x dx h' F' N' l1 l2
  have la := l1
  have lb := l2
  have hx9 : ∀ p ∈ news, p.1 ≠ x := fun p hp => Nat.ne_of_lt (Nat.lt_trans (l1 p hp) l2)
  k_lt2 l2
  k_dflt (refine' ks_code_super ?k1 ?k2 ?k3 ?k4 ?k5 ?kA ?kF ?kK ?k6 ?k7 ?k8 ?k9 ?kB ?_ ?c1 ?c2 ?c3 ?c4; (case kA => exact rfl); (case kF => exact rfl); (case kK => assumption); (case k1 => k_asm); (case k2 => k_asm); (case k3 => k_asm); (case k4 => k_asm); (case k5 => k_asm); (case k6 => k_is); (case k7 => k_is); (case k8 => ktr_room); (case k9 => exact binds_K (by k_in) rfl (by k_is) rfl rfl rfl); (case kB => exact locs rfl); (case c1 => decide); (case c2 => exact rfl); (case c3 => exact rfl); (case c4 => exact rfl); intro g' L' h' FG' F' N' B' X' T' l1; (try k_lt l1); (try dsimp only); (try k_lift B'))
  refine ks_wpAt_execs_cons (wpAt_of_wpAny (wpAny_mono (Q := fun f s' => Stop (f = .next ∧ ∃ h'' t tk mm, s' = { s with heap := h'', toks := tk } ∧ Fr g' L' h'' mm ∧ mm (Str.ofString "self") = some (.ref x) ∧ News g' L' h'' ((x, accObj dx #[] 0) :: (dx, sizeDict w t (.int 0 210)) :: news))) ?_ (fun f s' z => ?_) (fun _ _ z => z)))
  · k_steps
    exact ⟨rfl, _, _, _, _, rfl, by assumption, rfl, by assumption⟩
  · obtain ⟨rfl, h'', t, tk, mm, rfl, F'', hself, N''⟩ := z
    dsimp only
    clear N' F'
    refine ks_wpAt_execs_cons (ks_wpAt_Expr_any ?_)
    refine ks_wpAt_MethodCall ?_
    k_dflt (refine ks_node (by k_asm) (by k_asm) (by k_asm) (by k_asm) (by k_is) (by rfl) hself (by k_inst) (by k_is) (by rfl) (by first | rfl | decide +kernel) (by k_is) (by k_is) (by k_is) (by k_is) (by decide) (by rfl) (by rfl) (by rfl) (by rfl) (by decide +kernel) (by first | boot_by_name | rfl | kernel_rfl) ?_)
    intro so' h' F' N' l1
    k_lt l1
    k_steps
    exact hret x dx _ _ _ (by k_asm) (cb_drop (by assumption) (fun p hp => .tail _ (.tail _ hp))) la lb
theorem partcount_c {x dx : Addr} {items : Array Value} {ep : Nat} {od : Obj} (B : Below A₀ base outer h₀) (F : Fr h₀ L s.heap m) (X : (hd.heap_39 w.params).In h₀) (N : News h₀ L s.heap news) (T : Top hd.view_39 (looseW hd.view_39 [Str.ofString "_Accumulator"]) mean mg mb h₀) (hk : cs.kind = .function)
    (hx : (x, accObj dx items ep) ∈ news) (hdx : (dx, od) ∈ news)
    (hdp : dp + 4 < recursionLimit) (hun : un + 40 < cLine) (hret : ∀ (t : Tok) (h' : Heap) (tk' : Nat), Fr h₀ L h' m → News h₀ L h' news → Q (.int items.size t) { s with heap := h', toks := tk' }) :
    wpAny (model Challenge.rw_pg0058_01.row.prog w) (ktrTop dp un gd cn cs L a ccd cl outer) (call (.ref 97) [.ref x]) Q E s := by
  refine wpAny_call ?_
  k_dflt (refine' ks_code_super ?k1 ?k2 ?k3 ?k4 ?k5 ?kA ?kF ?kK ?k6 ?k7 ?k8 ?k9 ?kB ?_ ?c1 ?c2 ?c3 ?c4; (case kA => exact rfl); (case kF => exact rfl); (case kK => assumption); (case k1 => k_asm); (case k2 => k_asm); (case k3 => k_asm); (case k4 => k_asm); (case k5 => k_asm); (case k6 => k_is); (case k7 => k_is); (case k8 => ktr_room); (case k9 => exact BindsTo.of_eq rfl); (case kB => exact locs rfl); (case c1 => decide); (case c2 => exact rfl); (case c3 => exact rfl); (case c4 => exact rfl); intro g' L' h' FG' F' N' B' X' T' l1; (try k_lt l1); (try dsimp only); (try k_lift B'))
  refine ks_wpAt_execs_cons (ks_wpAt_Return_some (ks_wpAt_MethodCall ?_))
  k_dflt (refine ks_node (by k_asm) (by k_asm) (by k_asm) (by k_asm) (by k_is) (by rfl) (by rfl) (by k_inst) (by k_is) (by rfl) (by first | rfl | decide +kernel) (by k_is) (by k_is) (by k_is) (by k_is) (by decide) (by rfl) (by rfl) (by rfl) (by rfl) (by decide +kernel) (by first | boot_by_name | rfl | kernel_rfl) ?_)
  intro so' h' F' N' l1
  k_steps
  exact hret _ _ _ (by k_asm) (cb_drop (by assumption) (fun p hp => .tail _ (.tail _ hp)))
theorem popfrom_c {x dx : Addr} {items : Array Value} {ep i : Nat} {tk : Tok} {od : Obj} (B : Below A₀ base outer h₀) (F : Fr h₀ L s.heap m) (X : (hd.heap_39 w.params).In h₀) (N : News h₀ L s.heap ((x, accObj dx items ep) :: news)) (T : Top hd.view_39 (looseW hd.view_39 [Str.ofString "_Accumulator"]) mean mg mb h₀) (hk : cs.kind = .function)
    (hoff : ∀ p ∈ news, p.1 ≠ x) (hdx : (dx, od) ∈ news) (hi : i ≤ items.size) (hsz : items.size ≤ 1000)
    (hdp : dp + 4 < recursionLimit) (hun : un + 40 < cLine) (hret : ∀ (D ep' : Nat) (h' : Heap) (tk' : Nat), Fr h₀ L h' m → News h₀ L h' ((x, accObj dx (items.extract 0 i) ep') :: news) → Q (.ref D) { s with heap := h', toks := tk' }) :
    wpAny (model Challenge.rw_pg0058_01.row.prog w) (ktrTop dp un gd cn cs L a ccd cl outer) (call (.ref 53) [.ref x, .int i tk]) Q E s := by
  refine wpAny_call ?_
  k_dflt (refine' code_def ?k1 ?k2 ?k3 ?k4 ?k5 ?kA ?kF ?kK ?k6 ?k7 ?k8 ?k9 ?kB ?_ ?c2 ?c3 ?c4 ?c5; (case kA => exact rfl); (case kF => exact rfl); (case kK => assumption); (case k1 => k_asm); (case k2 => k_asm); (case k3 => k_asm); (case k4 => k_asm); (case k5 => k_asm); (case k6 => k_is); (case k7 => k_is); (case k8 => ktr_room); (case k9 => exact binds_K (by k_in) rfl (by k_is) rfl rfl rfl); (case c5 => decide); (case kB => exact locs rfl); (case c2 => exact rfl); (case c3 => exact rfl); (case c4 => exact rfl); k_whole; intro g' L' h' FG' F' N' B' X' T'; (try dsimp only); (try k_lift B'); (try k_fold))
  k_steps
  exact hret _ _ _ _ (by k_asm) (cb_drop (by assumption) (fun p hp => .tail _ (.tail _ hp)))
theorem push_c {x dx : Addr} {items : Array Value} {ep : Nat} {t₁ t₂ td : Tok} {c : Nat} (B : Below A₀ base outer h₀) (F : Fr h₀ L s.heap m) (X : (hd.heap_39 w.params).In h₀) (N : News h₀ L s.heap ((x, accObj dx items ep) :: news)) (T : Top hd.view_39 (looseW hd.view_39 [Str.ofString "_Accumulator"]) mean mg mb h₀) (hk : cs.kind = .function)
    (hoff : ∀ p ∈ news, p.1 ≠ x) (hdx : (dx, sizeDict w td (.int 0 210)) ∈ news) (hsz : items.size ≤ 1000)
    (hdp : dp + 4 < recursionLimit) (hun : un + 40 < cLine)
    (hret : ∀ (D ep' : Nat) (h' : Heap) (tk' : Nat), Fr h₀ L h' m → News h₀ L h' ((x, accObj dx (items.push (.ref D)) ep') :: (D, tupObj c t₁ t₂) :: news) → D ≠ x → (∀ p ∈ news, p.1 < D) → Q .none { s with heap := h', toks := tk' }) :
    wpAny (model Challenge.rw_pg0058_01.row.prog w) (ktrTop dp un gd cn cs L a ccd cl outer) (call (.ref 45) [.ref x, .str (Str.ofString "") t₁, .str (pic c) t₂]) Q E s := by
  refine wpAny_call ?_
  k_dflt cell_enter
  k_steps
  rename _ ∧ AllLt _ _ => l9
  exact hret _ _ _ _ (by k_asm) (cb_drop (by assumption) swap2) (Nat.ne_of_gt l9.1) (allLt_out l9.2)
end
end Mine
-- part B4
open PySem PySem.W PyProof.Rows PySem.Calls
namespace Mine
theorem offB4 : True := by
  w_top off
  trivial
local macro_rules | `(tactic| walk_at "no such place") => `(tactic| skip)
local macro_rules | `(tactic| walk_at "no such place") => `(tactic| skip)
local macro_rules | `(tactic| walk_at "no such place") => `(tactic| skip)
local macro_rules | `(tactic| walk_at "no such place") => `(tactic| skip)
local macro_rules | `(tactic| walk_at "no such place") => `(tactic| skip)
local macro_rules | `(tactic| walk_at "no such place") => `(tactic| skip)
local macro_rules | `(tactic| walk_at "no such place") => `(tactic| skip)
local macro_rules | `(tactic| walk_at "no such place") => `(tactic| skip)
set_option maxRecDepth 100000
set_option maxHeartbeats 4000000
theorem fill4 (w : World) (h : Heap) : (Challenge.rw_pg0058_01.row.prog = Challenge.rw_pg0058_01.row.prog ∧ ((hd.heap_39 w.params).In h → True)) := by
  k_fill
  exact ⟨rfl, fun _ => trivial⟩
def strengthOf (c : Nat) : Nat := if c = 127 then 1 else c
section
variable {w : World} {mean : ExcName → Option Value} {mg mb : Str → Option Value} {dp un : Nat} {gd : Option (List Code)} {cn : Str} {cs : Scope} {a : Addr} {ccd : Value} {cl : List (Str × Addr)} {outer : List Env} {A₀ : Around} {base h₀ : Heap} {L : Addr} {m : Str → Option Value} {news : List (Addr × Obj)} {s : Shared} {Q E : Value → Shared → Prop}
theorem iscntrl_t {c : Nat} {tk : Tok} (B : Below A₀ base outer h₀) (F : Fr h₀ L s.heap m) (X : (hd.heap_39 w.params).In h₀) (N : News h₀ L s.heap news) (T : Top hd.view_39 (looseW hd.view_39 [Str.ofString "_Accumulator"]) mean mg mb h₀) (hk : cs.kind = .function)
    (hc : c ≤ 31 ∨ c = 127) (hdp : dp + 2 < recursionLimit) (hun : un + 20 < cLine) (hret : ∀ (t : Tok) (h' : Heap) (tk' : Nat), Fr h₀ L h' m → News h₀ L h' news → Q (.bool true) { s with heap := h', toks := tk' }) :
    wpAny (model Challenge.rw_pg0058_01.row.prog w) (ktrTop dp un gd cn cs L a ccd cl outer) (call (.ref 118) [.str ⟨#[c]⟩ tk]) Q E s := by
  refine iscntrl_c B F X N T hk hdp hun ?_
  rw [show (decide (c ≤ 31) || decide (c = 127)) = true by simpa using hc]
  exact hret
theorem iscntrl_f {c : Nat} {tk : Tok} (B : Below A₀ base outer h₀) (F : Fr h₀ L s.heap m) (X : (hd.heap_39 w.params).In h₀) (N : News h₀ L s.heap news) (T : Top hd.view_39 (looseW hd.view_39 [Str.ofString "_Accumulator"]) mean mg mb h₀) (hk : cs.kind = .function)
    (hc : 32 ≤ c ∧ c ≤ 256 ∧ c ≠ 127) (hdp : dp + 2 < recursionLimit) (hun : un + 20 < cLine) (hret : ∀ (t : Tok) (h' : Heap) (tk' : Nat), Fr h₀ L h' m → News h₀ L h' news → Q (.bool false) { s with heap := h', toks := tk' }) :
    wpAny (model Challenge.rw_pg0058_01.row.prog w) (ktrTop dp un gd cn cs L a ccd cl outer) (call (.ref 118) [.str ⟨#[c]⟩ tk]) Q E s := by
  refine iscntrl_c B F X N T hk hdp hun ?_
  rw [show (decide (c ≤ 31) || decide (c = 127)) = false by simp; omega]
  exact hret
theorem popfrom_i {x dx : Addr} {items : Array Value} {ep : Nat} {j : Int} {tk : Tok} {od : Obj} (B : Below A₀ base outer h₀) (F : Fr h₀ L s.heap m) (X : (hd.heap_39 w.params).In h₀) (N : News h₀ L s.heap ((x, accObj dx items ep) :: news)) (T : Top hd.view_39 (looseW hd.view_39 [Str.ofString "_Accumulator"]) mean mg mb h₀) (hk : cs.kind = .function)
    (hoff : ∀ p ∈ news, p.1 ≠ x) (hdx : (dx, od) ∈ news) (h0 : 0 ≤ j) (hi : j ≤ items.size) (hsz : items.size ≤ 1000)
    (hdp : dp + 4 < recursionLimit) (hun : un + 40 < cLine) (hret : ∀ (D ep' : Nat) (h' : Heap) (tk' : Nat), Fr h₀ L h' m → News h₀ L h' ((x, accObj dx (items.extract 0 j.toNat) ep') :: news) → Q (.ref D) { s with heap := h', toks := tk' }) :
    wpAny (model Challenge.rw_pg0058_01.row.prog w) (ktrTop dp un gd cn cs L a ccd cl outer) (call (.ref 53) [.ref x, .int j tk]) Q E s := by
  obtain ⟨i, rfl⟩ := Int.eq_ofNat_of_zero_le h0
  exact popfrom_c B F X N T hk hoff hdx (by omega) hsz hdp hun hret
local macro_rules | `(tactic| k_mem) => `(tactic| first | assumption | exact List.mem_cons_self | (refine List.mem_cons_of_mem _ ?_; k_mem))
local macro_rules | `(tactic| k_inst) => `(tactic| (refine' inst_acc ?N ?h1 ?h2; (case N => k_asm); (case h1 => k_mem); (case h2 => k_mem)))
local macro_rules | `(tactic| walk_at "getMethod ref") => `(tactic| (k_here; k_dflt (refine' method_acc ?k1 ?k2 ?k3 ?k4 ?k5 ?k6 ?_; (case k1 => k_in); (case k2 => k_inst); (case k3 => first | exact f_append _ | exact f_push _ | exact f_popfrom _ | exact f_partcount _); (case k4 => exact rfl); (case k5 => decide); (case k6 => exact rfl))))
local macro_rules | `(tactic| walk_at "call ref") => `(tactic| (k_here; (with_reducible show wpAny _ _ (call (Value.ref 111) [Value.str _ _]) _ _ _); k_dflt (refine' ctoi_s ?k1 ?k2 ?k3 ?k4 ?k5 ?kK ?kd ?ku ?_; (case k1 => k_asm); (case k2 => k_asm); (case k3 => k_asm); (case k4 => k_asm); (case k5 => k_asm); (case kK => first | exact rfl | assumption); (case kd => ktr_room); (case ku => ktr_units); intro t9 h9 tk9 F9 N9; (try dsimp only); (try k_fold))))
local macro_rules | `(tactic| walk_at "call ref") => `(tactic| (k_here; (with_reducible show wpAny _ _ (call (Value.ref 118) [Value.str _ _]) _ _ _); k_dflt (refine' iscntrl_t ?k1 ?k2 ?k3 ?k4 ?k5 ?kK ?kc ?kd ?ku ?_; (case k1 => k_asm); (case k2 => k_asm); (case k3 => k_asm); (case k4 => k_asm); (case k5 => k_asm); (case kK => first | exact rfl | assumption); (case kc => assumption); (case kd => ktr_room); (case ku => ktr_units); intro t9 h9 tk9 F9 N9; (try dsimp only); (try k_fold))))
local macro_rules | `(tactic| walk_at "call ref") => `(tactic| (k_here; (with_reducible show wpAny _ _ (call (Value.ref 118) [Value.str _ _]) _ _ _); k_dflt (refine' iscntrl_f ?k1 ?k2 ?k3 ?k4 ?k5 ?kK ?kc ?kd ?ku ?_; (case k1 => k_asm); (case k2 => k_asm); (case k3 => k_asm); (case k4 => k_asm); (case k5 => k_asm); (case kK => first | exact rfl | assumption); (case kc => assumption); (case kd => ktr_room); (case ku => ktr_units); intro t9 h9 tk9 F9 N9; (try dsimp only); (try k_fold))))
local macro_rules | `(tactic| walk_at "call ref") => `(tactic| (k_here; (with_reducible show wpAny _ _ (call (Value.ref 132) [Value.str _ _]) _ _ _); k_dflt (refine' unctrl_c ?k1 ?k2 ?k3 ?k4 ?k5 ?kK ?kc ?kd ?ku ?_; (case k1 => k_asm); (case k2 => k_asm); (case k3 => k_asm); (case k4 => k_asm); (case k5 => k_asm); (case kK => first | exact rfl | assumption); (case kc => assumption); (case kd => ktr_room); (case ku => ktr_units); intro t9 h9 tk9 F9 N9; (try dsimp only); (try k_fold))))
local macro_rules | `(tactic| walk_at "call ref") => `(tactic| (k_here; (k_dflt show wpAny _ _ (call (Value.ref 97) [Value.ref _]) _ _ _); k_dflt (refine' partcount_c ?k1 ?k2 ?k3 ?k4 ?k5 ?kK ?kx ?ky ?kd ?ku ?_; (case k1 => k_asm); (case k2 => k_asm); (case k3 => k_asm); (case k4 => k_asm); (case k5 => k_asm); (case kK => first | exact rfl | assumption); (case kx => k_mem); (case ky => k_mem); (case kd => ktr_room); (case ku => ktr_units); intro t9 h9 tk9 F9 N9; (try dsimp only); (try k_fold))))
local macro_rules | `(tactic| walk_at "call ref") => `(tactic| (k_here; (k_dflt show wpAny _ _ (call (Value.ref 53) [Value.ref _, Value.int _ _]) _ _ _); k_dflt (refine' popfrom_i ?k1 ?k2 ?k3 ?k4 ?k5 ?kK ?ko ?kx ?ka ?kb ?kz ?kd ?ku ?_; (case k1 => k_asm); (case k2 => k_asm); (case k3 => k_asm); (case k4 => k_asm); (case k5 => k_asm); (case kK => first | exact rfl | assumption); (case ko => assumption); (case kx => k_mem); (case ka => omega); (case kb => omega); (case kz => assumption); (case kd => ktr_room); (case ku => ktr_units); intro D9 ep9 h9 tk9 F9 N9; (try dsimp only); (try k_fold))))
local macro_rules | `(tactic| walk_at "call ref") => `(tactic| (k_here; (k_dflt show wpAny _ _ (call (Value.ref 45) [Value.ref _, Value.str _ _, Value.str _ _]) _ _ _); k_dflt (refine' push_c ?k1 ?k2 ?k3 ?k4 ?k5 ?kK ?ko ?kx ?kz ?kd ?ku ?_; (case k1 => k_asm); (case k2 => k_asm); (case k3 => k_asm); (case k4 => k_asm); (case k5 => k_asm); (case kK => first | exact rfl | assumption); (case ko => assumption); (case kx => k_mem); (case kz => assumption); (case kd => ktr_room); (case ku => ktr_units); intro D9 ep9 h9 tk9 F9 N9 hne9 hlt9; (try dsimp only); (try k_fold))))
theorem press_ret {x dx : Addr} {items : Array Value} {c j ep' : Nat} {h' : Heap} {tk' : Nat}
    (hret : ∀ (ep' : Nat) (h' : Heap) (tk' : Nat), Fr h₀ L h' m → News h₀ L h' ((x, accObj dx (items.extract 0 (items.size - strengthOf c)) ep') :: news) → Q .none { s with heap := h', toks := tk' })
    (e : j = items.size - strengthOf c) (F : Fr h₀ L h' m) (N : News h₀ L h' ((x, accObj dx (items.extract 0 j) ep') :: news)) : Q .none { s with heap := h', toks := tk' } := by
  subst e
  exact hret ep' h' tk' F N
theorem press_ctl {x dx : Addr} {items : Array Value} {ep : Nat} {td tk : Tok} {c : Nat} (B : Below A₀ base outer h₀) (F : Fr h₀ L s.heap m) (X : (hd.heap_39 w.params).In h₀) (N : News h₀ L s.heap ((x, accObj dx items ep) :: news)) (T : Top hd.view_39 (looseW hd.view_39 [Str.ofString "_Accumulator"]) mean mg mb h₀) (hk : cs.kind = .function)
    (hoff : ∀ p ∈ news, p.1 ≠ x) (hdx : (dx, sizeDict w td (.int 0 210)) ∈ news) (hsz : items.size ≤ 1000) (hc : c ≤ 31 ∨ c = 127)
    (hdp : dp + 6 < recursionLimit) (hun : un + 60 < cLine)
    (hret : ∀ (ep' : Nat) (h' : Heap) (tk' : Nat), Fr h₀ L h' m → News h₀ L h' ((x, accObj dx (items.extract 0 (items.size - strengthOf c)) ep') :: news) → Q .none { s with heap := h', toks := tk' }) :
    wpAny (model Challenge.rw_pg0058_01.row.prog w) (ktrTop dp un gd cn cs L a ccd cl outer) (call (.ref 160) [.ref x, .str ⟨#[c]⟩ tk]) Q E s := by
  refine wpAny_call ?_
  k_dflt cell_enter
  k_steps
  all_goals refine press_ret (Q := Q) (s := s) hret ?_ (by k_asm) (by k_asm)
  all_goals (simp only [strengthOf]; (repeat' split) <;> omega)
theorem press_typ {x dx : Addr} {items : Array Value} {ep : Nat} {td tk : Tok} {c : Nat} (B : Below A₀ base outer h₀) (F : Fr h₀ L s.heap m) (X : (hd.heap_39 w.params).In h₀) (N : News h₀ L s.heap ((x, accObj dx items ep) :: news)) (T : Top hd.view_39 (looseW hd.view_39 [Str.ofString "_Accumulator"]) mean mg mb h₀) (hk : cs.kind = .function)
    (hoff : ∀ p ∈ news, p.1 ≠ x) (hdx : (dx, sizeDict w td (.int 0 210)) ∈ news) (hsz : items.size ≤ 1000) (hc : 32 ≤ c ∧ c ≤ 256 ∧ c ≠ 127)
    (hdp : dp + 6 < recursionLimit) (hun : un + 60 < cLine)
    (hret : ∀ (D ep' : Nat) (t₁ t₂ : Tok) (h' : Heap) (tk' : Nat), Fr h₀ L h' m → News h₀ L h' ((x, accObj dx (items.push (.ref D)) ep') :: (D, tupObj c t₁ t₂) :: news) → D ≠ x → (∀ p ∈ news, p.1 < D) → Q .none { s with heap := h', toks := tk' }) :
    wpAny (model Challenge.rw_pg0058_01.row.prog w) (ktrTop dp un gd cn cs L a ccd cl outer) (call (.ref 160) [.ref x, .str ⟨#[c]⟩ tk]) Q E s := by
  refine wpAny_call ?_
  k_dflt cell_enter
  k_steps
  all_goals exact hret _ _ _ _ _ _ (by k_asm) (by k_asm) (by assumption) (by assumption)
end
end Mine
-- part C1
open PySem PySem.W PyProof.Rows PySem.Calls
namespace Mine
theorem offC1 : True := by
  w_top off
  trivial
set_option maxRecDepth 100000
set_option maxHeartbeats 1000000

/-- how a turn of a loop ends -/
def TurnEnd (h₀ : Heap) (L I : Addr) (oI : Obj) (J : (Str → Option Value) → List (Addr × Obj) → Prop) (s₁ : Shared) (f : Flow) (s₂ : Shared) : Prop :=
  f = .next ∧ ∃ h' tk m' news', s₂ = { s₁ with heap := h', toks := tk } ∧ Fr h₀ L h' m' ∧ News h₀ L h' ((I, oI) :: news') ∧ (∀ p ∈ news', p.1 ≠ I) ∧ J m' news'

section
variable {prog : Program} {w : World} {A : Around} {E : Value → Shared → Prop} {s : Shared} {h₀ : Heap} {L : Addr} {m : Str → Option Value} {env : Env}
theorem for_U {R : Result → Shared → Prop} {x : Str} {px : Pos} {body : List Stmt} {I : Addr} {fp : List Addr} {n : Nat} {P : Nat → Value → Prop} {St : Nat → Heap → Prop} {S : List (Addr × Obj) → Prop} {news : List (Addr × Obj)}
    (J : Nat → (Str → Option Value) → List (Addr × Obj) → Prop)
    (W : Walks prog w A I fp [I] n P St) (hIo : ∀ i h, St i h → ∃ o, h.get? I = some o)
    (hSt : ∀ i h h' o nw, St i h → h.get? I = some o → h'.get? I = some o → (∀ b o, h₀.get? b = some o → h'.get? b = some o) → News h₀ L h' nw → S nw → St i h')
    (hLe : env.locals = L) (hx : env.kindOf x = some .local) (hp : (env.scope.kind == .class || (env.scope.kind == .module && env.locals != env.globals)) = false)
    (hLf : L ∉ fp) (hst : St 0 s.heap) (F : Fr h₀ L s.heap m) (N : News h₀ L s.heap news) (hI₀ : h₀.get? I = none) (off : ∀ p ∈ news, p.1 ≠ I) (hS : ∀ i m nw, J i m nw → S nw) (h0 : J 0 m news)
    (step : ∀ i v m₁ news₁ oI h tk E', i < n → P i v → J i m₁ news₁ → (∀ p ∈ news₁, p.1 ≠ I) → Fr h₀ L h (fun y => if y = x then some v else m₁ y) → News h₀ L h ((I, oI) :: news₁) →
      wpAny (model prog w) A (execs body env) (TurnEnd h₀ L I oI (J (i + 1)) { s with heap := h, toks := tk }) E' { s with heap := h, toks := tk })
    (done : ∀ h' tk m' news', Fr h₀ L h' m' → News h₀ L h' news' → J n m' news' → R (.ok .next) { s with heap := h', toks := tk }) :
    codeAny (model prog w) A (.forLoop (.Name x px) (.ref I) body [] env) R s := by
  subst hLe
  have hIf : I ∈ fp := W.sub I (List.mem_singleton.mpr rfl)
  have hIL : env.locals ≠ I := fun e => hLf (e ▸ hIf)
  refine codeAny_forLoop
    (fun k s' => ∃ h' tk m' news' i, s' = { s with heap := h', toks := tk } ∧ i ≤ n ∧ k = n + 1 - i ∧ St i h' ∧ Fr h₀ env.locals h' m' ∧ News h₀ env.locals h' news' ∧ (∀ p ∈ news', p.1 ≠ I) ∧ J i m' news') ?_ (n + 1)
    ⟨s.heap, s.toks, m, news, 0, rfl, Nat.zero_le _, rfl, hst, F, N, off, h0⟩
  rintro k s' ⟨h', tk, m', news', i, rfl, hi, rfl, hst', F', N', off', hJ⟩
  by_cases hlt : i < n
  · refine W.item i _ _ _ hlt hst' fun v h₁ tk₁ hP hst₁ hk₁ => ?_
    have F₁ : Fr h₀ env.locals h₁ m' := LCg.fr_but F' hk₁ hIL hI₀
    have N₁ : News h₀ env.locals h₁ news' := LCg.news_but N' hk₁ off'
    refine wpAny_assign_Name (wpAny_storeName_local hx F₁.ns (fun h₂ hn₂ hs₂ => ?_) hp)
    have F₂ := F₁.set hn₂ hs₂
    have N₂ := N₁.set hs₂
    have hst₂ : St (i + 1) h₂ := W.frame _ _ _ hst₁ fun b hb o e => (hs₂.2 b fun q => hLf (q ▸ hb)).trans e
    obtain ⟨oI, heI⟩ := hIo _ _ hst₂
    have N₃ : News h₀ env.locals h₂ ((I, oI) :: news') := fun p hp => by
      rcases List.mem_cons.mp hp with rfl | hp
      · exact ⟨heI, Ne.symm hIL, hI₀⟩
      · exact N₂ p hp
    refine wpAny_mono (step i v m' news' oI h₂ _ _ hlt hP hJ off' F₂ N₃) (fun f s₃ h₃ => ?_) fun _ _ e => e
    obtain ⟨rfl, h₃, tk₃, m₃, news₃, rfl, F₃, N₃, off₃, hJ₃⟩ := h₃
    refine ⟨n + 1 - (i + 1), by omega, h₃, tk₃, m₃, news₃, i + 1, rfl, hlt, rfl, ?_, F₃, fun p hp => N₃ p (List.mem_cons_of_mem _ hp), off₃, hJ₃⟩
    exact hSt _ _ _ _ _ hst₂ heI (N₃ (I, oI) List.mem_cons_self).1 F₃.keep (fun p hp => N₃ p (List.mem_cons_of_mem _ hp)) (hS _ _ _ hJ₃)
  · obtain rfl : i = n := Nat.le_antisymm hi (Nat.not_lt.mp hlt)
    refine W.done _ _ _ hst' fun h₁ tk₁ hk₁ => wpAny_execs_nil ?_
    exact done h₁ tk₁ m' news' (LCg.fr_but F' hk₁ hIL hI₀) (LCg.news_but N' hk₁ off') hJ

/-- a for over a list of the call's own -/
theorem for_list {Q : Flow → Shared → Prop} {x : Str} {px pos : Pos} {iter : Expr} {body : List Stmt}
    (hLe : env.locals = L) (hx : env.kindOf x = some .local) (hp : (env.scope.kind == .class || (env.scope.kind == .module && env.locals != env.globals)) = false) (hh : A.handled = none)
    (h : wpAny (model prog w) A (eval iter env) (fun xv s₁ => ∃ (ax : Addr) (its : Array Value) (news : List (Addr × Obj)) (m : Str → Option Value) (J : Nat → (Str → Option Value) → List (Addr × Obj) → Prop),
      xv = .ref ax ∧ Fr h₀ L s₁.heap m ∧ News h₀ L s₁.heap news ∧ (∀ i m nw, J i m nw → LCg.SrcAt h₀ ax its nw) ∧ J 0 m news ∧
      (∀ i v m₁ news₁ I oI h tk E', its[i]? = some v → J i m₁ news₁ → (∀ p ∈ news₁, p.1 ≠ I) → Fr h₀ L h (fun y => if y = x then some v else m₁ y) → News h₀ L h ((I, oI) :: news₁) →
        wpAny (model prog w) A (execs body env) (TurnEnd h₀ L I oI (J (i + 1)) { s₁ with heap := h, toks := tk }) E' { s₁ with heap := h, toks := tk }) ∧
      (∀ h' tk m' news', Fr h₀ L h' m' → News h₀ L h' news' → J its.size m' news' → Q .next { s₁ with heap := h', toks := tk })) E s)
    (hs : ∀ x, foldedSetIterable iter env x = pure x := by intro _; rfl) :
    wpAny (model prog w) A (exec (.For (.Name x px) iter body [] pos) env) Q E s := by
  refine wpAny_For (wpAny_mono h (fun xv s₁ h₁ => ?_) fun _ _ e => e) hs
  obtain ⟨ax, its, news, m, J, rfl, F, N, hS, h0, step, done⟩ := h₁
  have S := hS _ _ _ h0
  have hl := S.list F.keep N
  have hlt : ax < s₁.heap.objs.size := by obtain ⟨_, e, _⟩ := hl; exact Heap.lt_size e
  have haL : ax ≠ L := by
    rintro rfl
    obtain ⟨o, es, ep, e, hd, _⟩ := F.ns
    obtain ⟨o', e', _, n, hd'⟩ := hl
    rw [e] at e'; cases e'; rw [hd] at hd'; cases hd'
  refine wpAny_pyIter_list hl ?_
  have up : ∀ b o, s₁.heap.get? b = some o → (s₁.heap.push { cls := .type "list_iterator", data := .fields #[.ref ax, .int 0 0] }).get? b = some o := fun b o e => Heap.get?_push_of_some _ e
  refine for_U (s := { s₁ with heap := s₁.heap.push { cls := .type "list_iterator", data := .fields #[.ref ax, .int 0 0] } }) J (Walks.list hh s₁.heap.objs.size ax (Nat.ne_of_lt hlt) its) (fun i h st => by obtain ⟨o, e, _⟩ := st.1; exact ⟨o, e⟩) LCg.list_st hLe hx hp ?_
    ⟨⟨_, Heap.get?_push_size _ rfl, rfl, rfl⟩, hl.push _⟩ (F.keeps up) (N.grown up) (next_is_new F) (fun p hp => Nat.ne_of_lt (Heap.lt_size (N p hp).1)) hS h0 ?_ ?_
  · intro hm
    rcases List.mem_cons.mp hm with e | hm
    · exact absurd F.ns.lt (e ▸ Nat.lt_irrefl _)
    · exact haL (List.mem_singleton.mp hm).symm
  · intro i v m₁ news₁ oI h tk E' _ hP hJ ho F' N'
    exact step i v m₁ news₁ _ oI h tk E' hP hJ ho F' N'
  · intro h' tk m' news' F' N' hJ
    exact done h' tk m' news' F' N' hJ
/-- a for over a range by ones -/
theorem for_range {Q : Flow → Shared → Prop} {x : Str} {px pos : Pos} {iter : Expr} {body : List Stmt}
    (hLe : env.locals = L) (hx : env.kindOf x = some .local) (hp : (env.scope.kind == .class || (env.scope.kind == .module && env.locals != env.globals)) = false) (hh : A.handled = none)
    (h : wpAny (model prog w) A (eval iter env) (fun xv s₁ => ∃ (r : Addr) (a b : Int) (t u v : Tok) (n : Nat) (news : List (Addr × Obj)) (m : Str → Option Value) (J : Nat → (Str → Option Value) → List (Addr × Obj) → Prop),
      xv = .ref r ∧ Fr h₀ L s₁.heap m ∧ News h₀ L s₁.heap news ∧ IsRange s₁.heap r a b 1 t u v ∧ Builtin.Range.small a b 1 = true ∧ Builtin.Range.rangeSize a b 1 = ((n : Nat) : Int) ∧ J 0 m news ∧
      (∀ i t m₁ news₁ I oI h tk E', i < n → J i m₁ news₁ → (∀ p ∈ news₁, p.1 ≠ I) → Fr h₀ L h (fun y => if y = x then some (.int (a + (i : Int)) t) else m₁ y) → News h₀ L h ((I, oI) :: news₁) →
        wpAny (model prog w) A (execs body env) (TurnEnd h₀ L I oI (J (i + 1)) { s₁ with heap := h, toks := tk }) E' { s₁ with heap := h, toks := tk }) ∧
      (∀ h' tk m' news', Fr h₀ L h' m' → News h₀ L h' news' → J n m' news' → Q .next { s₁ with heap := h', toks := tk })) E s)
    (hs : ∀ x, foldedSetIterable iter env x = pure x := by intro _; rfl) :
    wpAny (model prog w) A (exec (.For (.Name x px) iter body [] pos) env) Q E s := by
  refine wpAny_For (wpAny_mono h (fun xv s₁ h₁ => ?_) fun _ _ e => e) hs
  obtain ⟨r, a, b, t, u, v, n, news, m, J, rfl, F, N, hr, hsm, hn, h0, step, done⟩ := h₁
  refine wpAny_pyIter_range hr hsm ?_
  refine for_U (S := fun _ => True) J (LCg.range_walks hh a n) (fun i h st => ⟨_, st⟩) LCg.range_st hLe hx hp ?_ (by show IsRangeIter _ _ _ _ _; rw [hn]; simpa using Heap.get?_push_size _ rfl)
      (F.keeps fun _ _ e => Heap.get?_push_of_some _ e) (N.grown fun _ _ e => Heap.get?_push_of_some _ e) (next_is_new F) (fun p hp => Nat.ne_of_lt (Heap.lt_size (N p hp).1)) (fun _ _ _ _ => trivial) h0 ?_ ?_
  · intro hm
    exact absurd F.ns.lt ((List.mem_singleton.mp hm) ▸ Nat.lt_irrefl _)
  · intro i v m₁ news₁ oI h tk E' hi hP hJ ho F' N'
    obtain ⟨t, rfl⟩ := hP
    exact step i t m₁ news₁ _ oI h tk E' hi hJ ho F' N'
  · intro h' tk m' news' F' N' hJ
    exact done h' tk m' news' F' N' hJ
end
end Mine
-- part C2
open PySem PySem.W PyProof.Rows PySem.Calls
namespace Mine
theorem offC2 : True := by
  w_top off
  trivial
set_option maxRecDepth 100000
set_option maxHeartbeats 1000000
section
variable {prog : Program} {w : World} {A : Around} {E : Value → Shared → Prop} {s : Shared} {h₀ : Heap} {L : Addr} {m : Str → Option Value} {cn : Str} {cs : Scope} {a : Addr} {ccd : Value} {cl : List (Str × Addr)}
/-- a for over a range by ones whose target lives in a cell -/
theorem for_range_cell {Q : Flow → Shared → Prop} {x : Str} {px pos : Pos} {iter : Expr} {body : List Stmt} {c : Addr}
    (hk : cs.kind = .function) (hx : (envX cn cs L a ccd cl).kindOf x = some .cell) (hc : cl.lookup x = some c) (hh : A.handled = none)
    (h : wpAny (model prog w) A (eval iter (envX cn cs L a ccd cl)) (fun xv s₁ => ∃ (r : Addr) (lo b : Int) (t u v : Tok) (n : Nat) (oc : Obj) (v₀ : Option Value) (rest : List (Addr × Obj)) (m : Str → Option Value) (J : Nat → (Str → Option Value) → List (Addr × Obj) → Prop),
      xv = .ref r ∧ Fr h₀ L s₁.heap m ∧ News h₀ L s₁.heap ((c, oc) :: rest) ∧ oc.data = .cell v₀ ∧ (∀ p ∈ rest, p.1 ≠ c) ∧ IsRange s₁.heap r lo b 1 t u v ∧ Builtin.Range.small lo b 1 = true ∧ Builtin.Range.rangeSize lo b 1 = ((n : Nat) : Int) ∧ J 0 m rest ∧
      (∀ i t oc m₁ rest₁ I oI h tk E', i < n → J i m₁ rest₁ → oc.data = .cell (some (.int (lo + (i : Int)) t)) → (∀ p ∈ rest₁, p.1 ≠ I) → (∀ p ∈ rest₁, p.1 ≠ c) → c ≠ I → Fr h₀ L h m₁ → News h₀ L h ((I, oI) :: (c, oc) :: rest₁) →
        wpAny (model prog w) A (execs body (envX cn cs L a ccd cl)) (fun f s₂ => TurnEnd h₀ L I oI (fun m' nw => ∃ rest₂, nw = (c, oc) :: rest₂ ∧ (∀ p ∈ rest₂, p.1 ≠ c) ∧ J (i + 1) m' rest₂) { s₁ with heap := h, toks := tk } f s₂) E' { s₁ with heap := h, toks := tk }) ∧
      (∀ h' tk m' oc v₀ rest', Fr h₀ L h' m' → News h₀ L h' ((c, oc) :: rest') → oc.data = .cell v₀ → (∀ p ∈ rest', p.1 ≠ c) → J n m' rest' → Q .next { s₁ with heap := h', toks := tk })) E s)
    (hs : ∀ x, foldedSetIterable iter (envX cn cs L a ccd cl) x = pure x := by intro _; rfl) :
    wpAny (model prog w) A (exec (.For (.Name x px) iter body [] pos) (envX cn cs L a ccd cl)) Q E s := by
  refine wpAny_For (wpAny_mono h (fun xv s₁ h₁ => ?_) fun _ _ e => e) hs
  obtain ⟨r, lo, b, t, u, v, n, oc, v₀, rest, m, J, rfl, F, N, hoc, hoff, hr, hsm, hn, h0, step, done⟩ := h₁
  refine wpAny_pyIter_range hr hsm ?_
  have W := LCg.range_walks (prog := prog) (w := w) (A := A) (I := s₁.heap.objs.size) hh lo n
  have hI₀ : h₀.get? s₁.heap.objs.size = none := next_is_new F
  have hIL : L ≠ s₁.heap.objs.size := Nat.ne_of_lt F.ns.lt
  have hcI : c ≠ s₁.heap.objs.size := Nat.ne_of_lt (Heap.lt_size (N (c, oc) List.mem_cons_self).1)
  refine codeAny_forLoop
    (fun k s' => ∃ h' tk m' oc v₀ rest' i, s' = { s₁ with heap := h', toks := tk } ∧ i ≤ n ∧ k = n + 1 - i ∧ IsRangeIter h' s₁.heap.objs.size (lo + (i : Nat) * 1) ((n : Int) - (i : Nat)) 1 ∧ Fr h₀ L h' m' ∧ News h₀ L h' ((c, oc) :: rest') ∧ oc.data = .cell v₀ ∧ (∀ p ∈ rest', p.1 ≠ s₁.heap.objs.size) ∧ (∀ p ∈ rest', p.1 ≠ c) ∧ J i m' rest') ?_ (n + 1)
    ⟨_, s₁.toks, m, oc, v₀, rest, 0, rfl, Nat.zero_le _, rfl, (by show IsRangeIter _ _ _ _ _; rw [hn]; simpa using Heap.get?_push_size _ rfl), F.keeps fun _ _ e => Heap.get?_push_of_some _ e, N.grown fun _ _ e => Heap.get?_push_of_some _ e, hoc, fun p hp => Nat.ne_of_lt (Heap.lt_size (N p (List.mem_cons_of_mem _ hp)).1), hoff, h0⟩
  rintro k s' ⟨h', tk, m', oc, v₀, rest', i, rfl, hi, rfl, hst', F', N', hoc, offI, offc, hJ⟩
  have offN : ∀ p ∈ (c, oc) :: rest', p.1 ≠ s₁.heap.objs.size := fun p hp => by
    rcases List.mem_cons.mp hp with rfl | hp
    · exact hcI
    · exact offI p hp
  by_cases hlt : i < n
  · refine W.item i _ _ _ hlt hst' fun v h₁ tk₁ hP hst₁ hk₁ => ?_
    obtain ⟨tv, rfl⟩ := hP
    have F₁ : Fr h₀ L h₁ m' := LCg.fr_but F' hk₁ hIL hI₀
    have N₁ : News h₀ L h₁ ((c, oc) :: rest') := LCg.news_but N' hk₁ offN
    have hst₁' : h₁.get? s₁.heap.objs.size = some _ := hst₁
    have N₂ : News h₀ L h₁ ((c, oc) :: ((s₁.heap.objs.size, _) :: rest')) := fun p hp => by
      rcases List.mem_cons.mp hp with rfl | hp
      · exact N₁ _ List.mem_cons_self
      · rcases List.mem_cons.mp hp with rfl | hp
        · exact ⟨hst₁', Ne.symm hIL, hI₀⟩
        · exact N₁ _ (List.mem_cons_of_mem _ hp)
    refine wpAny_assign_Name (storeX_C (s := { s₁ with heap := h₁, toks := tk₁ }) F₁ N₂ hc (UpdF.head fun p hp => ?_) hoc (fun h₂ oc₂ F₂ N₃ hoc₂ => ?_) hk hx)
    · rcases List.mem_cons.mp hp with rfl | hp
      · exact Ne.symm hcI
      · exact offc p hp
    have heI := (N₃ _ (List.mem_cons_of_mem _ List.mem_cons_self)).1
    refine wpAny_mono (step i tv oc₂ m' rest' s₁.heap.objs.size _ h₂ _ _ hlt hJ hoc₂ offI offc hcI F₂ (cb_drop N₃ swap2)) (fun f s₃ h₃ => ?_) fun _ _ e => e
    obtain ⟨rfl, h₃, tk₃, m₃, news₃, rfl, F₃, N₄, off₃, rest₂, rfl, offc₂, hJ₃⟩ := h₃
    refine ⟨n + 1 - (i + 1), by omega, h₃, tk₃, m₃, oc₂, _, rest₂, i + 1, rfl, hlt, rfl, ?_, F₃, fun p hp => N₄ p (List.mem_cons_of_mem _ hp), hoc₂, fun p hp => off₃ p (List.mem_cons_of_mem _ hp), offc₂, hJ₃⟩
    exact (N₄ (s₁.heap.objs.size, _) List.mem_cons_self).1
  · obtain rfl : i = n := Nat.le_antisymm hi (Nat.not_lt.mp hlt)
    refine W.done _ _ _ hst' fun h₁ tk₁ hk₁ => wpAny_execs_nil ?_
    exact done h₁ tk₁ m' oc _ rest' (LCg.fr_but F' hk₁ hIL hI₀) (LCg.news_but N' hk₁ offN) hoc offc hJ
end
open LCg in
/-- a comprehension by what holds between its turns -/
theorem comp_rest {prog : Program} {w : World} {A : Around} {h₀ : Heap} {L : Addr} {m : Str → Option Value} {env : Env} {elt : Expr} {x : Str} {scope : Scope} {cl : List (Str × Addr)} {s : Shared} {S : List (Addr × Obj) → Prop} {P : Nat → Value → Prop} {Fin : List Value → List (Addr × Obj) → Prop}
    (J : Nat → List Value → List (Addr × Obj) → Prop) (n : Nat)
    (turn : ∀ i ys news v I oI C oC D m₂ h tk (E' : Value → Shared → Prop), i < n → J i ys news → P i v → NsObj oC m₂ → m₂ x = some v → Fr h₀ L h m → News h₀ L h ((I, oI) :: (C, oC) :: (D, lst ys) :: news) → Off3 I C D news → ((@Ne Nat I C) ∧ (@Ne Nat I D) ∧ (@Ne Nat C D)) →
      wpAny (model prog w) A (eval elt (compEnvC scope cl C env)) (CompEnd h₀ L m { s with heap := h, toks := tk } I oI C oC D (lst ys) S (fun y news' => J (i + 1) (ys ++ [y]) news')) E' { s with heap := h, toks := tk })
    (fin : ∀ ys news, J n ys news → Fin ys news) : ∀ k i ys news, i + k = n → J i ys news → CompRest prog w A h₀ L m env elt x scope cl s S P Fin k i ys news := by
  intro k
  induction k with
  | zero => intro i ys news e hJ; exact fin ys news (by rw [← e, Nat.add_zero]; exact hJ)
  | succ k ih =>
    intro i ys news e hJ
    refine CompRest.succ fun v I oI C oC D m₂ h tk E' hP hC hm F N off ne => ?_
    refine wpAny_mono (turn i ys news v I oI C oC D m₂ h tk E' (by omega) hJ hP hC hm F N off ne) (fun y s₂ z => ?_) fun _ _ z => z
    obtain ⟨h', tk', news', e1, F', N', off', hS, hJ'⟩ := z
    exact ⟨h', tk', news', e1, F', N', off', hS, ih (i + 1) (ys ++ [y]) news' (by omega) hJ'⟩
end Mine
-- part D0
open PySem PySem.W PyProof.Rows PySem.Calls
namespace Mine
theorem offD0 : True := by
  w_top off
  trivial
set_option maxRecDepth 100000
set_option maxHeartbeats 1000000
def lawStmt : Stmt := (Challenge.pw_pg0058_01.main.body.getLast?).getD (.Pass default)
def lawBody : List Stmt := match lawStmt with | .FunctionDef _ _ body .. => body | _ => []
def lawScope : Scope := match lawStmt with | .FunctionDef _ _ _ _ _ _ sc .. => sc | _ => default
theorem lb (k : Nat) : lawBody.drop k = lawBody.drop k := rfl
abbrev lawCells (ci cw cc : Addr) : List (Str × Addr) := [(Str.ofString "i", ci), (Str.ofString "worths", cw), (Str.ofString "codes", cc)]
theorem law_cells (L : Nat) : cellsFrom (L + 1) lawScope.names [] = lawCells (L + 1 + 1 + 1) (L + 1 + 1) (L + 1) := rfl
end Mine
-- part B5
open PySem PySem.W PyProof.Rows PySem.Calls
namespace Mine
theorem offB5 : True := by
  w_top off
  trivial
set_option maxRecDepth 100000
set_option maxHeartbeats 1000000
/-- one key on the line's signs -/
def press (st : List Nat) (c : Nat) : List Nat := if c ≤ 31 ∨ c = 127 then st.take (st.length - strengthOf c) else st ++ [c]
theorem press_len (st : List Nat) (c : Nat) : (press st c).length ≤ st.length + 1 := by
  unfold press
  split
  · rw [List.length_take]; omega
  · simp
/-- the line's items are the pictures of these signs -/
inductive Pieces (news : List (Addr × Obj)) : List Value → List Nat → Prop
  | nil : Pieces news [] []
  | cons {D c : Nat} {t u : Tok} {vs : List Value} {cs : List Nat} : (D, tupObj c t u) ∈ news → Pieces news vs cs → Pieces news (.ref D :: vs) (c :: cs)
theorem Pieces.mono {news news' : List (Addr × Obj)} {vs : List Value} {cs : List Nat} (h : Pieces news vs cs) (hs : ∀ p ∈ news, p ∈ news') : Pieces news' vs cs := by
  induction h with
  | nil => exact .nil
  | cons hm _ ih => exact .cons (hs _ hm) ih
theorem Pieces.length {news : List (Addr × Obj)} {vs : List Value} {cs : List Nat} (h : Pieces news vs cs) : vs.length = cs.length := by
  induction h with
  | nil => rfl
  | cons _ _ ih => simp [ih]
theorem Pieces.take {news : List (Addr × Obj)} {vs : List Value} {cs : List Nat} (h : Pieces news vs cs) : ∀ k, Pieces news (vs.take k) (cs.take k) := by
  induction h with
  | nil => intro k; simpa using .nil
  | cons hm _ ih =>
    intro k
    cases k with
    | zero => exact .nil
    | succ k => exact .cons hm (ih k)
theorem Pieces.snoc {news : List (Addr × Obj)} {vs : List Value} {cs : List Nat} {D c : Nat} {t u : Tok} (h : Pieces news vs cs) (hm : (D, tupObj c t u) ∈ news) : Pieces news (vs ++ [.ref D]) (cs ++ [c]) := by
  induction h with
  | nil => exact .cons hm .nil
  | cons hm' _ ih => exact .cons hm' ih
section
variable {w : World} {mean : ExcName → Option Value} {mg mb : Str → Option Value} {dp un : Nat} {gd : Option (List Code)} {cn : Str} {cs : Scope} {a : Addr} {ccd : Value} {cl : List (Str × Addr)} {outer : List Env} {A₀ : Around} {base h₀ : Heap} {L : Addr} {m : Str → Option Value} {news : List (Addr × Obj)} {s : Shared} {Q E : Value → Shared → Prop}
theorem press_all {x dx : Addr} {items : Array Value} {ep : Nat} {td tk : Tok} {c : Nat} {st : List Nat} {pcs : List (Addr × Obj)} (B : Below A₀ base outer h₀) (F : Fr h₀ L s.heap m) (X : (hd.heap_39 w.params).In h₀) (N : News h₀ L s.heap ((x, accObj dx items ep) :: news)) (T : Top hd.view_39 (looseW hd.view_39 [Str.ofString "_Accumulator"]) mean mg mb h₀) (hk : cs.kind = .function)
    (hoff : ∀ p ∈ news, p.1 ≠ x) (hdx : (dx, sizeDict w td (.int 0 210)) ∈ news) (hP : Pieces pcs items.toList st) (hsz : st.length ≤ 1000) (hc : c ≤ 256)
    (hdp : dp + 6 < recursionLimit) (hun : un + 60 < cLine)
    (hret : ∀ (items' : Array Value) (ep' : Nat) (tup : List (Addr × Obj)) (h' : Heap) (tk' : Nat), Fr h₀ L h' m → News h₀ L h' ((x, accObj dx items' ep') :: (tup ++ news)) → (∀ p ∈ tup, p.1 ≠ x ∧ ∀ q ∈ news, p.1 ≠ q.1) → Pieces (tup ++ pcs) items'.toList (press st c) → Q .none { s with heap := h', toks := tk' }) :
    wpAny (model Challenge.rw_pg0058_01.row.prog w) (ktrTop dp un gd cn cs L a ccd cl outer) (call (.ref 160) [.ref x, .str ⟨#[c]⟩ tk]) Q E s := by
  have hlen : items.size = st.length := by have := hP.length; simpa using this
  by_cases hcc : c ≤ 31 ∨ c = 127
  · refine press_ctl B F X N T hk hoff hdx (by omega) hcc hdp hun fun ep' h' tk' F' N' => ?_
    refine hret _ ep' [] h' tk' F' N' (fun p hp => nomatch hp) ?_
    have e : (items.extract 0 (items.size - strengthOf c)).toList = items.toList.take (st.length - strengthOf c) := by
      simp [Array.toList_extract, hlen]
    rw [e]
    unfold press
    rw [if_pos hcc]
    exact hP.take _
  · refine press_typ B F X N T hk hoff hdx (by omega) (by omega) hdp hun fun D ep' t₁ t₂ h' tk' F' N' hne hlt => ?_
    refine hret _ ep' [(D, tupObj c t₁ t₂)] h' tk' F' N' (fun p hp => ?_) ?_
    · rw [List.mem_singleton.mp hp]
      exact ⟨hne, fun q hq => Nat.ne_of_gt (hlt q hq)⟩
    · unfold press
      rw [if_neg hcc, Array.toList_push]
      exact (hP.mono fun p hp => List.mem_cons_of_mem _ hp).snoc List.mem_cons_self
end
end Mine
-- part E1
open PySem PySem.W PyProof.Rows PySem.Calls
namespace Mine
theorem offE1 : True := by
  w_top off
  trivial
local macro_rules | `(tactic| walk_at "no such place") => `(tactic| skip)
local macro_rules | `(tactic| walk_at "no such place") => `(tactic| skip)
local macro_rules | `(tactic| walk_at "no such place") => `(tactic| skip)
local macro_rules | `(tactic| walk_at "no such place") => `(tactic| skip)
local macro_rules | `(tactic| walk_at "no such place") => `(tactic| skip)
local macro_rules | `(tactic| walk_at "no such place") => `(tactic| skip)
local macro_rules | `(tactic| walk_at "no such place") => `(tactic| skip)
local macro_rules | `(tactic| walk_at "no such place") => `(tactic| skip)
local macro_rules | `(tactic| walk_at "no such place") => `(tactic| skip)
local macro_rules | `(tactic| walk_at "no such place") => `(tactic| skip)
local macro_rules | `(tactic| walk_at "no such place") => `(tactic| skip)
local macro_rules | `(tactic| walk_at "no such place") => `(tactic| skip)
local macro_rules | `(tactic| walk_at "no such place") => `(tactic| skip)
local macro_rules | `(tactic| walk_at "no such place") => `(tactic| skip)
local macro_rules | `(tactic| walk_at "no such place") => `(tactic| skip)
local macro_rules | `(tactic| walk_at "no such place") => `(tactic| skip)
set_option maxRecDepth 100000
set_option maxHeartbeats 2000000
theorem fillE (w : World) (h : Heap) : (Challenge.rw_pg0058_01.row.prog = Challenge.rw_pg0058_01.row.prog ∧ ((hd.heap_39 w.params).In h → True)) := by
  k_fill
  exact ⟨rfl, fun _ => trivial⟩
/-- texts of one sign each -/
inductive Keys : List Value → List Nat → Prop
  | nil : Keys [] []
  | cons (c : Nat) (t : Tok) {vs : List Value} {cs : List Nat} : Keys vs cs → Keys (.str ⟨#[c]⟩ t :: vs) (c :: cs)
theorem Keys.length {vs : List Value} {cs : List Nat} (h : Keys vs cs) : vs.length = cs.length := by
  induction h with
  | nil => rfl
  | cons _ _ _ ih => simp [ih]
theorem Keys.get {vs : List Value} {cs : List Nat} (h : Keys vs cs) : ∀ {i : Nat} {v : Value}, vs[i]? = some v → ∃ c t, cs[i]? = some c ∧ v = .str ⟨#[c]⟩ t := by
  induction h with
  | nil => intro i v e; simp at e
  | cons c t _ ih =>
    intro i v e
    cases i with
    | zero => simp at e; exact ⟨c, t, by simp, e.symm⟩
    | succ i => simp at e; simpa using ih e
theorem Keys.append {vs vs' : List Value} {cs cs' : List Nat} (h : Keys vs cs) (h' : Keys vs' cs') : Keys (vs ++ vs') (cs ++ cs') := by
  induction h with
  | nil => exact h'
  | cons c t _ ih => exact .cons c t ih
theorem Keys.drop {vs : List Value} {cs : List Nat} (h : Keys vs cs) : ∀ k, Keys (vs.drop k) (cs.drop k) := by
  induction h with
  | nil => intro k; simpa using .nil
  | cons c t h ih => intro k; cases k with | zero => exact .cons c t h | succ k => exact ih k
theorem Keys.take {vs : List Value} {cs : List Nat} (h : Keys vs cs) : ∀ k, Keys (vs.take k) (cs.take k) := by
  induction h with
  | nil => intro k; simpa using .nil
  | cons c t h ih => intro k; cases k with | zero => exact .nil | succ k => exact .cons c t (ih k)
theorem foldl_take_succ {α β : Type} (f : β → α → β) (b : β) (l : List α) (i : Nat) (c : α) (h : l[i]? = some c) : (l.take (i + 1)).foldl f b = f ((l.take i).foldl f b) c := by
  rw [List.take_add_one, h]; simp
theorem press_fold_len (st : List Nat) (ks : List Nat) : (ks.foldl press st).length ≤ st.length + ks.length := by
  induction ks generalizing st with
  | nil => simp
  | cons k r ih => rw [List.foldl_cons]; have := ih (press st k); have := press_len st k; simp only [List.length_cons]; omega
section
variable {w : World} {mean : ExcName → Option Value} {mg mb : Str → Option Value} {dp un : Nat} {gd : Option (List Code)} {cn : Str} {a : Addr} {ccd : Value} {cl : List (Str × Addr)} {outer : List Env} {A₀ : Around} {base h₀ : Heap} {L : Addr} {m : Str → Option Value} {rest : List (Addr × Obj)} {s : Shared} {Q : Flow → Shared → Prop} {E : Value → Shared → Prop}
local macro_rules | `(tactic| walk_at "eval Name") => `(tactic| (k_here; k_dflt (refine' nameX_L ?F ?v ?_ ?a ?b; (case F => k_asm); (case a => rfl); (case b => rfl); (case v => assumption); k_whole)))
theorem loop_press {x dx kd : Addr} {items : Array Value} {ep n : Nat} {td : Tok} {kvs : List Value} {ks st : List Nat} {px p1 p2 p3 p4 p5 p6 pos : Pos}
    (B : Below A₀ base outer h₀) (F : Fr h₀ L s.heap m) (X : (hd.heap_39 w.params).In h₀) (N : News h₀ L s.heap ((x, accObj dx items ep) :: rest)) (T : Top hd.view_39 (looseW hd.view_39 [Str.ofString "_Accumulator"]) mean mg mb h₀)
    (hdp : dp + 10 < recursionLimit) (hun : un + 100 < cLine)
    (mk : m (Str.ofString "keys") = some (.ref kd)) (ml : m (Str.ofString "line") = some (.ref x))
    (hoff : ∀ p ∈ rest, p.1 ≠ x) (hdx : (dx, sizeDict w td (.int 0 210)) ∈ rest) (hkd : (kd, listOf kvs.toArray n) ∈ rest) (hks : Keys kvs ks) (hle : ∀ k ∈ ks, k ≤ 256)
    (hP : Pieces rest items.toList st) (hsz : st.length + ks.length ≤ 900)
    (hret : ∀ (h' : Heap) (tk' : Nat) (m' : Str → Option Value) (items' : Array Value) (ep' : Nat) (tup : List (Addr × Obj)), Fr h₀ L h' m' → (∀ y, y ≠ Str.ofString "key" → m' y = m y) → News h₀ L h' ((x, accObj dx items' ep') :: (tup ++ rest)) →
      (∀ p ∈ tup, p.1 ≠ x ∧ ∀ q ∈ rest, p.1 ≠ q.1) → Pieces (tup ++ rest) items'.toList (ks.foldl press st) → Q .next { s with heap := h', toks := tk' }) :
    wpAny (model Challenge.rw_pg0058_01.row.prog w) (ktrTop dp un gd cn lawScope L a ccd cl outer)
      (exec (.For (.Name (Str.ofString "key") px) (.Name (Str.ofString "keys") p6) [.Expr (.Call (.Name (Str.ofString "_law_press") p1) [.Name (Str.ofString "line") p2, .Name (Str.ofString "key") p3] [] p4) p5] [] pos) (envX cn lawScope L a ccd cl)) Q E s := by
  refine for_list (h₀ := h₀) rfl rfl rfl rfl ?_
  refine nameX_L F mk ?_ rfl rfl
  refine ⟨kd, kvs.toArray, _, m, fun i m' nw => ∃ items' ep' tup, nw = (x, accObj dx items' ep') :: (tup ++ rest) ∧ (∀ y, y ≠ Str.ofString "key" → m' y = m y) ∧ (∀ p ∈ tup, p.1 ≠ x ∧ ∀ q ∈ rest, p.1 ≠ q.1) ∧ Pieces (tup ++ rest) items'.toList ((ks.take i).foldl press st), rfl, F, N, ?_, ?_, ?_, ?_⟩
  · rintro i m' nw ⟨items', ep', tup, rfl, _, _, _⟩
    exact .inr ⟨_, List.mem_cons_of_mem _ (List.mem_append_right _ hkd), rfl, _, rfl⟩
  · exact ⟨items, ep, [], rfl, fun _ _ => rfl, (fun p hp => nomatch hp), hP⟩
  · rintro i v m₁ nw I oI h tk E' hv ⟨items', ep', tup, rfl, hm, htup, hP'⟩ hI F' N'
    obtain ⟨c, t, hc, rfl⟩ := hks.get (by simpa using hv)
    generalize hmm : (fun y => if y = Str.ofString "key" then some (Value.str ⟨#[c]⟩ t) else m₁ y) = mm at F'
    have hline : mm (Str.ofString "line") = some (.ref x) := by rw [← hmm]; show m₁ (Str.ofString "line") = _; rw [hm _ (by decide)]; exact ml
    have hkey : mm (Str.ofString "key") = some (.str ⟨#[c]⟩ t) := by rw [← hmm]; rfl
    have hmm' : ∀ y, y ≠ Str.ofString "key" → mm y = m y := fun y hy => by rw [← hmm]; show (if y = _ then _ else _) = _; rw [if_neg hy]; exact hm y hy
    refine wpAny_execs_cons ?_
    k_steps
    have hlen := press_fold_len st (ks.take i)
    have hi := (List.getElem?_eq_some_iff.mp hc).1
    refine press_all (st := (ks.take i).foldl press st) (news := (I, oI) :: (tup ++ rest)) B F' X (cb_drop N' swap2) T rfl ?_ (List.mem_cons_of_mem _ (List.mem_append_right _ hdx)) hP' ?_ (hle c (List.mem_of_getElem? hc)) (by omega) (by omega) ?_
    · intro p hp
      rcases List.mem_cons.mp hp with rfl | hp
      · exact fun e => hI _ List.mem_cons_self e.symm
      · rcases List.mem_append.mp hp with hp | hp
        · exact (htup p hp).1
        · exact hoff p hp
    · rw [List.length_take] at hlen; omega
    · intro items₂ ep₂ tup₂ h₂ tk₂ F₂ N₂ htup₂ hP₂
      refine wpAny_execs_nil ⟨rfl, h₂, tk₂, mm, (x, accObj dx items₂ ep₂) :: ((tup₂ ++ tup) ++ rest), rfl, F₂, ?_, ?_, items₂, ep₂, tup₂ ++ tup, rfl, hmm', ?_, ?_⟩
      · refine cb_drop N₂ fun p hp => ?_
        simp only [List.mem_cons, List.mem_append] at hp ⊢
        grind
      · intro p hp
        simp only [List.mem_cons, List.mem_append] at hp
        rcases hp with rfl | (hp | hp) | hp
        · exact hI (x, accObj dx items' ep') List.mem_cons_self
        · exact (htup₂ p hp).2 (I, oI) List.mem_cons_self
        · exact hI p (List.mem_cons_of_mem _ (List.mem_append_left _ hp))
        · exact hI p (List.mem_cons_of_mem _ (List.mem_append_right _ hp))
      · intro p hp
        rcases List.mem_append.mp hp with hp | hp
        · exact ⟨(htup₂ p hp).1, fun q hq => (htup₂ p hp).2 q (List.mem_cons_of_mem _ (List.mem_append_right _ hq))⟩
        · exact htup p hp
      · rw [foldl_take_succ _ _ _ _ _ hc]
        rw [List.append_assoc]
        exact hP₂
  · rintro h' tk m' nw F' N' ⟨items', ep', tup, rfl, hm, htup, hP'⟩
    refine hret h' tk m' items' ep' tup F' hm N' htup ?_
    rw [List.size_toArray, hks.length, List.take_length] at hP'
    exact hP'
end
end Mine
-- part E2
open PySem PySem.W PyProof.Rows PySem.Calls
namespace Mine
theorem offE2 : True := by
  w_top off
  trivial
set_option maxRecDepth 100000
set_option maxHeartbeats 2000000
theorem fillE2 (w : World) (h : Heap) : (Challenge.rw_pg0058_01.row.prog = Challenge.rw_pg0058_01.row.prog ∧ ((hd.heap_39 w.params).In h → True)) := by
  k_fill
  exact ⟨rfl, fun _ => trivial⟩
theorem pick_from {kvs : List Value} {k : Nat} {t : Int} (ht : t = (k : Int)) (h : k ≤ kvs.length) : slicePick kvs.toArray (some t) none none = (kvs.drop k).toArray := by
  subst ht
  have := slicePick_from kvs.toArray k (by simpa using h)
  simpa using this
theorem pick_upto {kvs : List Value} {k : Nat} {t : Int} (ht : t = (k : Int)) (h : k ≤ kvs.length) : slicePick kvs.toArray none (some t) none = (kvs.take k).toArray := by
  subst ht
  have := slicePick_upto kvs.toArray k (by simpa using h)
  simpa using this
section
variable {w : World} {mean : ExcName → Option Value} {mg mb : Str → Option Value} {dp un : Nat} {gd : Option (List Code)} {cn : Str} {a : Addr} {ccd : Value} {cl : List (Str × Addr)} {outer : List Env} {A₀ : Around} {base h₀ : Heap} {L : Addr} {m : Str → Option Value} {news rest : List (Addr × Obj)} {s : Shared} {E : Value → Shared → Prop}
local macro_rules | `(tactic| k_mem) => `(tactic| first | assumption | exact List.mem_cons_self | (refine List.mem_cons_of_mem _ ?_; k_mem))
local macro_rules | `(tactic| walk_at "eval Name") => `(tactic| (k_here; k_dflt (refine' nameX_L ?F ?v ?_ ?a ?b; (case F => k_asm); (case a => rfl); (case b => rfl); (case v => assumption); k_whole)))
theorem eval_rot {kd : Addr} {kvs : List Value} {k n : Nat} {t : Tok} {p1 p2 p3 p4 p5 p6 p7 p8 p9 : Pos} {Q : Value → Shared → Prop}
    (F : Fr h₀ L s.heap m) (X : (hd.heap_39 w.params).In h₀) (N : News h₀ L s.heap news) (T : Top hd.view_39 (looseW hd.view_39 [Str.ofString "_Accumulator"]) mean mg mb h₀)
    (mk : m (Str.ofString "keys") = some (.ref kd)) (ms : m (Str.ofString "start") = some (.int (k : Nat) t)) (hkd : (kd, listOf kvs.toArray n) ∈ news) (hk : k ≤ kvs.length) (hsz : kvs.length ≤ 1000)
    (hret : ∀ (D : Addr) (h' : Heap) (tk' : Nat), Fr h₀ L h' m → News h₀ L h' ((D, listOf (kvs.drop k ++ kvs.take k).toArray 0) :: news) → (∀ p ∈ news, p.1 < D) → Q (.ref D) { s with heap := h', toks := tk' }) :
    wpAny (model Challenge.rw_pg0058_01.row.prog w) (ktrTop dp un gd cn lawScope L a ccd cl outer)
      (eval (.BinOp (.Subscript (.Name (Str.ofString "keys") p1) (.Slice (some (.Name (Str.ofString "start") p2)) none none p3) p4) .Add (.Subscript (.Name (Str.ofString "keys") p5) (.Slice none (some (.Name (Str.ofString "start") p6)) none p7) p8) p9) (envX cn lawScope L a ccd cl)) Q E s := by
  k_steps
  k_dflt (refine' kmk_slice ?F ?N ?hl ?pl ?pu ?_ ?hs ?ht ?hz)
  (case F => k_asm)
  (case N => k_asm)
  (case hl => exact News.isList N hkd)
  (case pl => exact IsPart.int _ _)
  (case pu => exact IsPart.none)
  (case hs => rfl)
  (case ht => exact fun _ => rfl)
  (case hz => rw [sizeLine_eq, List.size_toArray]; omega)
  intro D₁ h₁ F₁ N₁ l₁
  rw [pick_from rfl hk] at N₁
  k_steps
  k_dflt (refine' kmk_slice ?F ?N ?hl ?pl ?pu ?_ ?hs ?ht ?hz)
  (case F => exact F₁)
  (case N => exact N₁)
  (case hl => exact News.isList N₁ (List.mem_cons_of_mem _ hkd))
  (case pl => exact IsPart.none)
  (case pu => exact IsPart.int _ _)
  (case hs => rfl)
  (case ht => exact fun _ => rfl)
  (case hz => rw [sizeLine_eq, List.size_toArray]; omega)
  intro D₂ h₂ F₂ N₂ l₂
  rw [pick_upto rfl hk] at N₂
  refine kmk_add_lit F₂ N₂ (News.isList N₂ (List.mem_cons_of_mem _ List.mem_cons_self)) (News.isList N₂ List.mem_cons_self) rfl ?_ ?_
  · intro D₃ h₃ F₃ N₃ l₃
    exact hret D₃ h₃ _ F₃ (cb_drop N₃ fun p hp => by simp only [List.mem_cons] at hp ⊢; grind) fun p hp => l₃ p (List.mem_cons_of_mem _ (List.mem_cons_of_mem _ hp))
  · simp only [List.length_drop, List.length_take]
    rw [sizeLine_eq]; omega
/-- a key pressed, and whether the line was never empty -/
def stepF (p : List Nat × Bool) (c : Nat) : List Nat × Bool := (press p.1 c, p.2 && decide (0 < (press p.1 c).length))
theorem stepF_fst (ks : List Nat) : ∀ p : List Nat × Bool, (ks.foldl stepF p).1 = ks.foldl press p.1 := by
  induction ks with
  | nil => intro p; rfl
  | cons k r ih => intro p; rw [List.foldl_cons, List.foldl_cons, ih]; rfl
local macro_rules | `(tactic| walk_at "getMethod ref") => `(tactic| (k_here; k_dflt (refine' method_acc ?k1 ?k2 ?k3 ?k4 ?k5 ?k6 ?_; (case k1 => k_in); (case k2 => (refine' inst_acc ?N ?h1 ?h2; (case N => k_asm); (case h1 => k_mem); (case h2 => k_mem))); (case k3 => first | exact f_append _ | exact f_push _ | exact f_popfrom _ | exact f_partcount _); (case k4 => exact rfl); (case k5 => decide); (case k6 => exact rfl))))
local macro_rules | `(tactic| walk_at "call ref") => `(tactic| (k_here; (k_dflt show wpAny _ _ (call (Value.ref 97) [Value.ref _]) _ _ _); k_dflt (refine' partcount_c ?k1 ?k2 ?k3 ?k4 ?k5 ?kK ?kx ?ky ?kd ?ku ?_; (case k1 => k_asm); (case k2 => k_asm); (case k3 => k_asm); (case k4 => k_asm); (case k5 => k_asm); (case kK => first | exact rfl | assumption); (case kx => k_mem); (case ky => k_mem); (case kd => ktr_room); (case ku => ktr_units); intro t9 h9 tk9 F9 N9; (try dsimp only); (try k_fold))))
theorem loop_fill {x dx kd : Addr} {ep n : Nat} {td ts : Tok} {kvs : List Value} {ks : List Nat} {k : Nat} {px p1 p2 p3 p4 p5 pos q1 q2 q3 q4 q5 q6 q7 q8 q9 : Pos} {Q : Flow → Shared → Prop}
    (B : Below A₀ base outer h₀) (F : Fr h₀ L s.heap m) (X : (hd.heap_39 w.params).In h₀) (N : News h₀ L s.heap ((x, accObj dx #[] ep) :: rest)) (T : Top hd.view_39 (looseW hd.view_39 [Str.ofString "_Accumulator"]) mean mg mb h₀)
    (hdp : dp + 10 < recursionLimit) (hun : un + 100 < cLine)
    (mk : m (Str.ofString "keys") = some (.ref kd)) (ml : m (Str.ofString "line") = some (.ref x)) (ms : m (Str.ofString "start") = some (.int (k : Nat) ts)) (mf : m (Str.ofString "filled") = some (.bool true))
    (hoff : ∀ p ∈ rest, p.1 ≠ x) (hdx : (dx, sizeDict w td (.int 0 210)) ∈ rest) (hkd : (kd, listOf kvs.toArray n) ∈ rest) (hks : Keys kvs ks) (hle : ∀ k ∈ ks, k ≤ 256)
    (hk : k ≤ ks.length) (hsz : ks.length ≤ 900)
    (hret : ∀ (h' : Heap) (tk' : Nat) (m' : Str → Option Value) (items' : Array Value) (ep' : Nat) (tup : List (Addr × Obj)), Fr h₀ L h' m' → (∀ y, y ≠ Str.ofString "key" → y ≠ Str.ofString "filled" → m' y = m y) → m' (Str.ofString "filled") = some (.bool ((ks.drop k ++ ks.take k).foldl stepF ([], true)).2) →
      News h₀ L h' ((x, accObj dx items' ep') :: (tup ++ rest)) → Q .next { s with heap := h', toks := tk' }) :
    wpAny (model Challenge.rw_pg0058_01.row.prog w) (ktrTop dp un gd cn lawScope L a ccd cl outer)
      (exec (.For (.Name (Str.ofString "key") px) (.BinOp (.Subscript (.Name (Str.ofString "keys") q1) (.Slice (some (.Name (Str.ofString "start") q2)) none none q3) q4) .Add (.Subscript (.Name (Str.ofString "keys") q5) (.Slice none (some (.Name (Str.ofString "start") q6)) none q7) q8) q9)
        [.Expr (.Call (.Name (Str.ofString "_law_press") p1) [.Name (Str.ofString "line") p2, .Name (Str.ofString "key") p3] [] p4) p5,
         .Assign [.Name (Str.ofString "filled") ⟨95, 12, 95, 18⟩] (.BoolOp .And [.Name (Str.ofString "filled") ⟨95, 21, 95, 27⟩, .Compare (.Call (.Attribute (.Name (Str.ofString "line") ⟨95, 32, 95, 36⟩) (Str.ofString "part_count") ⟨95, 32, 95, 47⟩) [] [] ⟨95, 32, 95, 49⟩) [.Gt] [.Constant (.int 0) 0 ⟨95, 52, 95, 53⟩] ⟨95, 32, 95, 53⟩] ⟨95, 21, 95, 53⟩) ⟨95, 12, 95, 53⟩] [] pos) (envX cn lawScope L a ccd cl)) Q E s := by
  have hkv := hks.length
  refine for_list (h₀ := h₀) rfl rfl rfl rfl ?_
  refine eval_rot F X N T mk ms (List.mem_cons_of_mem _ hkd) (by omega) (by omega) fun D h₁ tk₁ F₁ N₁ l₁ => ?_
  have hrk : Keys (kvs.drop k ++ kvs.take k) (ks.drop k ++ ks.take k) := (hks.drop k).append (hks.take k)
  have hrle : ∀ c ∈ ks.drop k ++ ks.take k, c ≤ 256 := fun c hc => (List.mem_append.mp hc).elim (fun h => hle c (List.mem_of_mem_drop h)) fun h => hle c (List.mem_of_mem_take h)
  have hrlen : (ks.drop k ++ ks.take k).length ≤ 900 := by simp only [List.length_append, List.length_drop, List.length_take]; omega
  generalize ks.drop k ++ ks.take k = rks at hrk hrle hrlen hret
  generalize kvs.drop k ++ kvs.take k = rk at hrk N₁
  have hDx : D ≠ x := Nat.ne_of_gt (l₁ _ List.mem_cons_self)
  have hDr : ∀ p ∈ rest, p.1 ≠ D := fun p hp => Nat.ne_of_lt (l₁ p (List.mem_cons_of_mem _ hp))
  refine ⟨D, rk.toArray, (x, accObj dx #[] ep) :: ((D, listOf rk.toArray 0) :: rest), m, fun i m' nw => ∃ items' ep' tup, nw = (x, accObj dx items' ep') :: (tup ++ (D, listOf rk.toArray 0) :: rest) ∧ (∀ y, y ≠ Str.ofString "key" → y ≠ Str.ofString "filled" → m' y = m y) ∧ (∀ p ∈ tup, p.1 ≠ x ∧ ∀ q ∈ (D, listOf rk.toArray 0) :: rest, p.1 ≠ q.1) ∧
      Pieces (tup ++ rest) items'.toList ((rks.take i).foldl stepF ([], true)).1 ∧ m' (Str.ofString "filled") = some (.bool ((rks.take i).foldl stepF ([], true)).2), rfl, F₁, cb_drop N₁ swap2, ?_, ?_, ?_, ?_⟩
  · rintro i m' nw ⟨items', ep', tup, rfl, _, _, _⟩
    exact .inr ⟨_, List.mem_cons_of_mem _ (List.mem_append_right _ List.mem_cons_self), rfl, _, rfl⟩
  · exact ⟨#[], ep, [], rfl, fun _ _ _ => rfl, (fun p hp => nomatch hp), .nil, mf⟩
  · rintro i v m₁ nw I oI h tk E' hv ⟨items', ep', tup, rfl, hm, htup, hP', hfil⟩ hI F' N'
    obtain ⟨c, t, hc, rfl⟩ := hrk.get (by simpa using hv)
    dsimp only
    rw [foldl_take_succ _ _ _ _ _ hc]
    have hlen := press_fold_len [] (rks.take i)
    have hi := (List.getElem?_eq_some_iff.mp hc).1
    rw [← stepF_fst (rks.take i) ([], true)] at hlen
    rw [List.length_take] at hlen
    generalize (rks.take i).foldl stepF ([], true) = pi at hP' hfil hlen
    obtain ⟨st, b⟩ := pi
    generalize hmm : (fun y => if y = Str.ofString "key" then some (Value.str ⟨#[c]⟩ t) else m₁ y) = mm at F'
    have hline : mm (Str.ofString "line") = some (.ref x) := by rw [← hmm]; show m₁ (Str.ofString "line") = _; rw [hm _ (by decide) (by decide)]; exact ml
    have hkey : mm (Str.ofString "key") = some (.str ⟨#[c]⟩ t) := by rw [← hmm]; rfl
    have hfm : mm (Str.ofString "filled") = some (.bool b) := by rw [← hmm]; show m₁ (Str.ofString "filled") = _; exact hfil
    have hmm' : ∀ y, y ≠ Str.ofString "key" → y ≠ Str.ofString "filled" → mm y = m y := fun y hy hy' => by rw [← hmm]; show (if y = _ then _ else _) = _; rw [if_neg hy]; exact hm y hy hy'
    clear hmm
    refine wpAny_execs_cons ?_
    k_steps
    refine press_all (st := st) (pcs := tup ++ rest) (news := (I, oI) :: (tup ++ (D, listOf rk.toArray 0) :: rest)) B F' X (cb_drop N' swap2) T rfl ?_ (List.mem_cons_of_mem _ (List.mem_append_right _ (List.mem_cons_of_mem _ hdx))) hP' ?_ (hrle c (List.mem_of_getElem? hc)) (by omega) (by omega) ?_
    · intro p hp
      rcases List.mem_cons.mp hp with rfl | hp
      · exact fun e => hI _ List.mem_cons_self e.symm
      · rcases List.mem_append.mp hp with hp | hp
        · exact (htup p hp).1
        · rcases List.mem_cons.mp hp with rfl | hp
          · exact hDx
          · exact hoff p hp
    · simp only [List.length_nil] at hlen; omega
    · intro items₂ ep₂ tup₂ h₂ tk₂ F₂ N₂ htup₂ hP₂
      have hx₂ : (x, accObj dx items₂ ep₂) ∈ (x, accObj dx items₂ ep₂) :: (tup₂ ++ (I, oI) :: (tup ++ (D, listOf rk.toArray 0) :: rest)) := List.mem_cons_self
      have hd₂ : (dx, sizeDict w td (.int 0 210)) ∈ (x, accObj dx items₂ ep₂) :: (tup₂ ++ (I, oI) :: (tup ++ (D, listOf rk.toArray 0) :: rest)) := by
        simp only [List.mem_cons, List.mem_append]; grind
      have hlen₂ := hP₂.length
      generalize hnn : (x, accObj dx items₂ ep₂) :: (tup₂ ++ (I, oI) :: (tup ++ (D, listOf rk.toArray 0) :: rest)) = nn at N₂ hx₂ hd₂
      clear F' N'
      refine wpAny_mono (Q := fun f s₂ => Stop (f = .next ∧ ∃ h' tk' m' , s₂ = { s with heap := h', toks := tk' } ∧ Fr h₀ L h' m' ∧ News h₀ L h' nn ∧ m' (Str.ofString "filled") = some (.bool (b && decide (0 < (press st c).length))) ∧ (∀ y, y ≠ Str.ofString "filled" → m' y = mm y))) ?_ ?_ fun _ _ z => z
      · cases b
        · k_steps
          exact ⟨rfl, _, _, _, rfl, by assumption, by assumption, rfl, fun y hy => if_neg hy⟩
        · k_steps
          refine ⟨rfl, _, _, _, rfl, by assumption, by assumption, ?_, fun y hy => if_neg hy⟩
          show some (Value.bool (decide (_ < _))) = some (Value.bool (true && decide (_ < _)))
          rw [Bool.true_and]
          have e : items₂.size = (press st c).length := by simpa using hlen₂
          congr 2
          rw [decide_eq_decide]
          omega
      · intro f s₂ z
        obtain ⟨rfl, h', tk', m', rfl, F₃, N₃, hf₃, hm₃⟩ := z
        rw [← hnn] at N₃
        refine ⟨rfl, h', tk', m', (x, accObj dx items₂ ep₂) :: ((tup₂ ++ tup) ++ (D, listOf rk.toArray 0) :: rest), rfl, F₃, ?_, ?_, items₂, ep₂, tup₂ ++ tup, rfl, ?_, ?_, ?_, ?_⟩
        · refine cb_drop N₃ fun p hp => ?_
          simp only [List.mem_cons, List.mem_append] at hp ⊢
          grind
        · intro p hp
          simp only [List.mem_cons, List.mem_append] at hp
          rcases hp with rfl | (hp | hp) | rfl | hp
          · exact hI (x, accObj dx items' ep') List.mem_cons_self
          · exact (htup₂ p hp).2 (I, oI) List.mem_cons_self
          · exact hI p (List.mem_cons_of_mem _ (List.mem_append_left _ hp))
          · exact hI _ (List.mem_cons_of_mem _ (List.mem_append_right _ List.mem_cons_self))
          · exact hI p (List.mem_cons_of_mem _ (List.mem_append_right _ (List.mem_cons_of_mem _ hp)))
        · exact fun y h1 h2 => (hm₃ y h2).trans (hmm' y h1 h2)
        · intro p hp
          rcases List.mem_append.mp hp with hp | hp
          · exact ⟨(htup₂ p hp).1, fun q hq => (htup₂ p hp).2 q (List.mem_cons_of_mem _ (List.mem_append_right _ hq))⟩
          · exact htup p hp
        · rw [List.append_assoc]
          exact hP₂
        · exact hf₃
  · rintro h' tk m' nw F' N' ⟨items', ep', tup, rfl, hm, htup, hP', hfil⟩
    rw [List.size_toArray, hrk.length, List.take_length] at hfil
    exact hret h' tk m' items' ep' (tup ++ [(D, listOf rk.toArray 0)]) F' hm hfil (by rw [List.append_assoc]; exact N')
end
end Mine
-- part E3
open PySem PySem.W PyProof.Rows PySem.Calls
namespace Mine
theorem offE3 : True := by
  w_top off
  trivial
local macro_rules | `(tactic| walk_at "no such place") => `(tactic| skip)
local macro_rules | `(tactic| walk_at "no such place") => `(tactic| skip)
local macro_rules | `(tactic| walk_at "no such place") => `(tactic| skip)
local macro_rules | `(tactic| walk_at "no such place") => `(tactic| skip)
local macro_rules | `(tactic| walk_at "no such place") => `(tactic| skip)
local macro_rules | `(tactic| walk_at "no such place") => `(tactic| skip)
local macro_rules | `(tactic| walk_at "no such place") => `(tactic| skip)
local macro_rules | `(tactic| walk_at "no such place") => `(tactic| skip)
set_option maxRecDepth 100000
set_option maxHeartbeats 2000000
theorem fillE3 (w : World) (h : Heap) : (Challenge.rw_pg0058_01.row.prog = Challenge.rw_pg0058_01.row.prog ∧ ((hd.heap_39 w.params).In h → True)) := by
  k_fill
  exact ⟨rfl, fun _ => trivial⟩
def goodB (ks : List Nat) (k : Nat) : Bool := ((ks.drop k ++ ks.take k).foldl stepF ([], true)).2
def goods (ks : List Nat) : List Nat := (List.range ks.length).filter (goodB ks)
theorem ints_snoc {vs : List Value} {ns : List Int} (h : IntsAre vs ns) (n : Int) (t : Tok) : IntsAre (vs ++ [.int n t]) (ns ++ [n]) := by
  induction h with
  | nil => exact .cons n t .nil
  | cons k u _ ih => exact .cons k u ih
section
variable {w : World} {mean : ExcName → Option Value} {mg mb : Str → Option Value} {dp un : Nat} {gd : Option (List Code)} {cn : Str} {a : Addr} {ccd : Value} {cl : List (Str × Addr)} {outer : List Env} {A₀ : Around} {base h₀ : Heap} {L : Addr} {m : Str → Option Value} {bs : List (Addr × Obj)} {s : Shared} {E : Value → Shared → Prop} {Q : Flow → Shared → Prop}
local macro_rules | `(tactic| k_mem) => `(tactic| first | assumption | exact List.mem_cons_self | (refine List.mem_cons_of_mem _ ?_; k_mem))
local macro_rules | `(tactic| walk_at "eval Name") => `(tactic| (k_here; k_dflt (refine' nameX_L ?F ?v ?_ ?a ?b; (case F => k_asm); (case a => rfl); (case b => rfl); (case v => assumption); k_whole)))
local macro_rules | `(tactic| k_all) => `(tactic| first | assumption | exact all_lt (by assumption))
theorem eval_rangelen {kd : Addr} {kvs : List Value} {n : Nat} {p1 p2 p3 p4 p5 : Pos} {news : List (Addr × Obj)} {Q : Value → Shared → Prop}
    (F : Fr h₀ L s.heap m) (X : (hd.heap_39 w.params).In h₀) (N : News h₀ L s.heap news) (T : Top hd.view_39 (looseW hd.view_39 [Str.ofString "_Accumulator"]) mean mg mb h₀)
    (mk : m (Str.ofString "keys") = some (.ref kd)) (hkd : (kd, listOf kvs.toArray n) ∈ news) (hsz : kvs.length ≤ 1000)
    (hret : ∀ (r : Addr) (t u v : Tok) (h' : Heap) (tk' : Nat), IsRange h' r 0 (kvs.length : Nat) 1 t u v → Fr h₀ L h' m → News h₀ L h' news → Q (.ref r) { s with heap := h', toks := tk' }) :
    wpAny (model Challenge.rw_pg0058_01.row.prog w) (ktrTop dp un gd cn lawScope L a ccd cl outer)
      (eval (.Call (.Name (Str.ofString "range") p1) [.Call (.Name (Str.ofString "len") p2) [.Name (Str.ofString "keys") p3] [] p4] [] p5) (envX cn lawScope L a ccd cl)) Q E s := by
  k_steps
  refine len_list (News.isList N hkd) (by rw [List.size_toArray]; omega) ?_
  rw [List.size_toArray]
  k_steps
  exact hret _ _ _ _ _ _ (by assumption) (by assumption) (by assumption)
theorem seg5 {G kd : Addr} {n ng : Nat} {kvs : List Value} {ks : List Nat}
    (B : Below A₀ base outer h₀) (F : Fr h₀ L s.heap m) (X : (hd.heap_39 w.params).In h₀) (N : News h₀ L s.heap ((G, listOf #[] ng) :: bs)) (T : Top hd.view_39 (looseW hd.view_39 [Str.ofString "_Accumulator"]) mean mg mb h₀)
    (hdp : dp + 20 < recursionLimit) (hun : un + 200 < cLine)
    (mk : m (Str.ofString "keys") = some (.ref kd)) (mgd : m (Str.ofString "good") = some (.ref G)) (hoff : ∀ p ∈ bs, p.1 ≠ G) (hkd : (kd, listOf kvs.toArray n) ∈ bs) (hks : Keys kvs ks) (hle : ∀ k ∈ ks, k ≤ 256) (hsz : ks.length ≤ 900)
    (hret : ∀ (h' : Heap) (tk' : Nat) (m' : Str → Option Value) (gvs : List Value) (eg : Nat), Fr h₀ L h' m' → (∀ y, y ≠ Str.ofString "key" → y ≠ Str.ofString "filled" → y ≠ Str.ofString "line" → y ≠ Str.ofString "start" → m' y = m y) →
      News h₀ L h' ((G, listOf gvs.toArray eg) :: bs) → IntsAre gvs ((goods ks).map Int.ofNat) → wpAny (model Challenge.rw_pg0058_01.row.prog w) (ktrTop dp un gd cn lawScope L a ccd cl outer) (execs (lawBody.drop 6) (envX cn lawScope L a ccd cl)) Q E { s with heap := h', toks := tk' }) :
    wpAny (model Challenge.rw_pg0058_01.row.prog w) (ktrTop dp un gd cn lawScope L a ccd cl outer) (execs (lawBody.drop 5) (envX cn lawScope L a ccd cl)) Q E s := by
  rw [show lawBody.drop 5 = _ :: lawBody.drop 6 from rfl]
  refine wpAny_execs_cons ?_
  refine for_range (h₀ := h₀) rfl rfl rfl rfl ?_
  have hkv := hks.length
  refine eval_rangelen F X N T mk (List.mem_cons_of_mem _ hkd) (by omega) fun r t₁ u₁ v₁ h₁ tk₁ hr F₁ N₁ => ?_
  refine ⟨_, 0, _, t₁, u₁, v₁, ks.length, _, m, fun i m' nw => ∃ gvs eg, nw = (G, listOf (List.toArray gvs) eg) :: bs ∧ IntsAre gvs (((List.range i).filter (goodB ks)).map Int.ofNat) ∧ (∀ y, y ≠ Str.ofString "key" → y ≠ Str.ofString "filled" → y ≠ Str.ofString "line" → y ≠ Str.ofString "start" → m' y = m y), rfl, F₁, N₁, hr, small_one (by omega) (by omega) (by omega) (by omega), ?_, ?_, ?_, ?_⟩
  · rw [rangeSize_nat]; omega
  · exact ⟨[], ng, rfl, .nil, fun _ _ _ _ _ => rfl⟩
  · rintro i t m₁ nw I oI h tk E' hi ⟨gvs, eg, rfl, hg, hm⟩ hI F' N'
    dsimp only
    generalize hmm : (fun y => if y = Str.ofString "start" then some (Value.int (0 + (i : Int)) t) else m₁ y) = mm at F'
    have hstart : mm (Str.ofString "start") = some (.int (i : Nat) t) := by rw [← hmm]; show some (Value.int (0 + (i : Int)) t) = _; rw [Int.zero_add]
    have hmm' : ∀ y, y ≠ Str.ofString "key" → y ≠ Str.ofString "filled" → y ≠ Str.ofString "line" → y ≠ Str.ofString "start" → mm y = m y := fun y a1 a2 a3 a4 => by rw [← hmm]; show (if y = _ then _ else _) = _; rw [if_neg a4]; exact hm y a1 a2 a3 a4
    clear hmm
    k_steps
    refine acc_new B F' X N' T rfl (by omega) (by omega) fun x dx td h₂ tk₂ F₂ N₂ l₁ l₂ => ?_
    clear F' N'
    k_steps
    rename Fr _ _ _ _ => F₃
    rename News _ _ _ _ => N₃
    refine wpAny_mono (Q := fun f s₂ => Stop (f = .next ∧ ∃ h' tk' m' items' ep' tup, s₂ = { s with heap := h', toks := tk' } ∧ Fr h₀ L h' m' ∧ (∀ y, y ≠ Str.ofString "key" → y ≠ Str.ofString "filled" → m' y = (if y = Str.ofString "line" then some (Value.ref x) else mm y)) ∧ m' (Str.ofString "filled") = some (.bool (goodB ks i)) ∧
      News h₀ L h' ((x, accObj dx items' ep') :: (tup ++ (dx, sizeDict w td (.int 0 210)) :: (I, oI) :: (G, listOf (List.toArray gvs) eg) :: bs)))) ?_ ?_ fun _ _ z => z
    · refine loop_fill (kd := kd) (n := n) (kvs := kvs) (ks := ks) (k := i) (x := x) (dx := dx) (td := td) (ts := t) B F₃ X N₃ T (by omega) (by omega) ?_ ?_ ?_ ?_ ?_ ?_ ?_ hks hle (by omega) hsz ?_
      · show mm (Str.ofString "keys") = _
        rw [hmm' _ (by decide) (by decide) (by decide) (by decide)]
        exact mk
      · rfl
      · exact hstart
      · rfl
      · intro p hp
        rcases List.mem_cons.mp hp with rfl | hp
        · exact Nat.ne_of_lt l₂
        · exact Nat.ne_of_lt (Nat.lt_trans (l₁ p hp) l₂)
      · exact List.mem_cons_self
      · exact List.mem_cons_of_mem _ (List.mem_cons_of_mem _ (List.mem_cons_of_mem _ hkd))
      · intro h' tk' m' items' ep' tup F₄ hm₄ hf₄ N₄
        refine ⟨rfl, h', tk', m', items', ep', tup, rfl, F₄, fun y a1 a2 => (hm₄ y a1 a2).trans (if_neg a2), hf₄, N₄⟩
    · intro f s₂ z
      obtain ⟨rfl, h', tk', m', items', ep', tup, rfl, F₄, hm₄, hf₄, N₄⟩ := z
      have hIG : (@Ne Nat I G) := fun e => hI (G, listOf (List.toArray gvs) eg) List.mem_cons_self e.symm
      have N₅ : News h₀ L h' ((G, listOf (List.toArray gvs) eg) :: (I, oI) :: bs) := cb_drop N₄ fun p hp => by
        simp only [List.mem_cons, List.mem_append] at hp ⊢
        grind
      have hgood : m' (Str.ofString "good") = some (.ref G) := by
        rw [hm₄ _ (by decide) (by decide)]
        show mm (Str.ofString "good") = _
        rw [hmm' _ (by decide) (by decide) (by decide) (by decide)]
        exact mgd
      have hst₄ : m' (Str.ofString "start") = some (.int (i : Nat) t) := by rw [hm₄ _ (by decide) (by decide)]; exact hstart
      have hm₅ : ∀ y, y ≠ Str.ofString "key" → y ≠ Str.ofString "filled" → y ≠ Str.ofString "line" → y ≠ Str.ofString "start" → m' y = m y := fun y a1 a2 a3 a4 => by
        rw [hm₄ y a1 a2, if_neg a3]; exact hmm' y a1 a2 a3 a4
      have hglen := hg.length
      have hgl : gvs.toArray.size ≤ 900 := by
        rw [List.size_toArray, hglen, List.length_map]
        exact Nat.le_trans (List.length_filter_le _ _) (by rw [List.length_range]; omega)
      clear F₃ N₃ N₄
      cases hb : goodB ks i with
      | false =>
        rw [hb] at hf₄
        k_steps
        refine ⟨rfl, h', tk', m', (G, listOf (List.toArray gvs) eg) :: bs, rfl, F₄, cb_drop N₅ swap2, hI, gvs, eg, rfl, ?_, hm₅⟩
        rw [List.range_succ, List.filter_append]
        simpa [hb] using hg
      | true =>
        rw [hb] at hf₄
        k_steps
        rename News h₀ L _ ((G, listOf (gvs.toArray.push _) _) :: _) => N₆
        rename Fr h₀ L _ m' => F₆
        rw [List.push_toArray] at N₆
        refine ⟨rfl, _, _, m', (G, listOf (List.toArray (gvs ++ [.int (i : Nat) t])) (eg + 1)) :: bs, rfl, F₆, cb_drop N₆ swap2, ?_, gvs ++ [.int (i : Nat) t], eg + 1, rfl, ?_, hm₅⟩
        · intro p hp
          rcases List.mem_cons.mp hp with rfl | hp
          · exact fun e => hIG e.symm
          · exact hI p (List.mem_cons_of_mem _ hp)
        · rw [List.range_succ, List.filter_append, List.map_append]
          simpa [hb] using ints_snoc hg (i : Nat) t
  · rintro h' tk m' nw F' N' ⟨gvs, eg, rfl, hg, hm⟩
    exact hret h' tk m' gvs eg F' hm N' hg
end
end Mine
-- part C3
open PySem PySem.W PyProof.Rows PySem.Calls
namespace Mine
theorem offC3 : True := by
  w_top off
  trivial
set_option maxRecDepth 100000
set_option maxHeartbeats 1000000
open LCg in
theorem off1_mem {D : Addr} : ∀ {l : List (Addr × Obj)}, Off1 D l → ∀ p ∈ l, p.1 ≠ D
  | [], _, _, h => nomatch h
  | _ :: _, x, p, h => by
    rcases List.mem_cons.mp h with rfl | h
    · exact x.1
    · exact off1_mem x.2 p h
section
variable {prog : Program} {w : World} {A : Around} {E : Value → Shared → Prop} {s : Shared} {h₀ : Heap} {L : Addr} {m : Str → Option Value} {env : Env}
open LCg in
/-- a block's own name -/
theorem name_comp {scope : Scope} {cl : List (Str × Addr)} {C : Addr} {x : Str} {p : Pos} {v : Value} {m₂ : Str → Option Value} {Q : Value → Shared → Prop} (hkind : scope.kind = .function) (hx : scope.names.lookup x = some .local) (hn : s.heap.Ns C m₂) (hm : m₂ x = some v) (h : Q v s) (hd : (x == ("__debug__" : Str)) = false := by decide) :
    wpAny (model prog w) A (eval (.Name x p) (compEnvC scope cl C env)) Q E s :=
  wpAny_Name (wpAny_loadName_local (env := compEnvC scope cl C env) (by simp [compEnvC, relabel, hkind]) (lookup_relabel_local hx) hn hm h) hd
open LCg in
theorem copy_acc {x y : Str} {p px py : Pos} {iter : Expr} {scope : Scope} {cl : List (Str × Addr)} {pos spos : Pos} {Q : Flow → Shared → Prop} (hLe : env.locals = L)
    (hsw : swapsWith (.ListComp (.Name x p) [⟨.Name x px, iter, [], 0⟩] scope pos) (some (.Name y py)) spos.line env = pure true)
    (hclos : closureFor scope env = pure cl) (hcell : ∀ z ∈ scope.names, z.2 ≠ .cell) (hkind : scope.kind = .function)
    (hnames : ∀ z ∈ scope.names, z.2 = .local → scope.names.lookup z.1 = some .local) (hx : scope.names.lookup x = some .local)
    (hy : env.kindOf y = some .local) (hp : (env.scope.kind == .class || (env.scope.kind == .module && env.locals != env.globals)) = false) (hdb : (x == ("__debug__" : Str)) = false)
    (h : wpAny (model prog w) A (eval iter env) (fun xv s₁ => ∃ (ax dx : Addr) (items : Array Value) (ep : Nat) (news : List (Addr × Obj)), xv = .ref ax ∧ A.handled = none ∧ Fr h₀ L s₁.heap m ∧ News h₀ L s₁.heap news ∧ (ax, accObj dx items ep) ∈ news ∧ items.size ≤ sizeLine ∧ (hd.heap_39 w.params).In h₀ ∧
      ∀ D h tk, Fr h₀ L h (fun z => if z = y then some (.ref D) else m z) → News h₀ L h ((D, lst items.toList) :: news) → (∀ p ∈ news, p.1 ≠ D) → Q .next { s₁ with heap := h, toks := tk }) E s)
    (hs : ∀ x, foldedSetIterable iter env x = pure x := by intro _; rfl) :
    wpAny (model prog w) A (exec (.Assign [.Name y py] (.ListComp (.Name x p) [⟨.Name x px, iter, [], 0⟩] scope pos) spos) env) Q E s := by
  subst hLe
  rw [exec_Assign_Name_used _ _ _ _ hsw]
  refine wpAny_bind (wpAny_standAt (wpAny_bind ?_))
  show wpAny _ A (do let _ ← comprehension (.ListComp (.Name x p) [⟨.Name x px, iter, [], 0⟩] scope pos) scope env _ (newList []) false (eval iter env) (some (assign (.Name y py) env))) _ _ s
  refine wpAny_bind (wpAny_mono (wpAny_comprehension_free (use := some (assign (.Name y py) env)) (Q := fun _ s' => Q .next s') rfl hs hclos hkind hnames
    (wpAny_mono h (fun xv s₁ h₁ => ?_) fun _ _ e => e)) (fun _ s' hq => wpAny_pure (wpAny_pure hq)) fun _ _ e => e)
  obtain ⟨ax, dx, items, ep, news, rfl, hh, F, N, hax, hsz, X₀, fin⟩ := h₁
  have X := X₀.keeps F.keep
  have hl := (N _ hax).1
  have hlt : ax < s₁.heap.objs.size := Heap.lt_size hl
  refine iter_acc X hl ?_
  have up : ∀ b o, s₁.heap.get? b = some o → (s₁.heap.push { cls := .type "list_iterator", data := .fields #[.ref ax, .int 0 0] }).get? b = some o := fun b o e => Heap.get?_push_of_some _ e
  refine block_U (S := fun nw => (ax, accObj dx items ep) ∈ nw) (Fin := fun ys nw => ys = items.toList ∧ nw = news) (walks_acc (dx := dx) (items := items) (ep := ep) hh s₁.heap.objs.size (Nat.ne_of_lt hlt)) hsz (fun i h st => by obtain ⟨o, e, _⟩ := st.1; exact ⟨o, e⟩) ?_ hcell hkind hx ⟨⟨_, Heap.get?_push_size _ rfl, rfl, rfl⟩, up _ _ hl⟩ (fun b hb => ?_)
      (F.keeps up) (N.grown up) (Nat.ne_of_lt F.ns.lt) (next_is_new F) (fun p hp => Nat.ne_of_lt (Heap.lt_size (N p hp).1)) hax ?_ ?_
  · intro i h h' o nw st e e' k N' hS
    refine ⟨?_, (N' _ hS).1⟩
    obtain ⟨o', q, r⟩ := st.1
    rw [e] at q; cases q
    exact ⟨o, e', r⟩
  · show b < (s₁.heap.push _).objs.size
    rw [Heap.size_push]
    rcases List.mem_cons.mp hb with rfl | hb
    · exact Nat.lt_succ_self _
    · rw [List.mem_singleton.mp hb]; exact Nat.lt_succ_of_lt hlt
  · refine comp_rest (fun i ys nw => ys = items.toList.take i ∧ nw = news) items.size ?_ ?_ items.size 0 [] news (Nat.zero_add _) ⟨rfl, rfl⟩
    · rintro i ys nw v I oI C oC D m₂ h tk E' hi ⟨rfl, rfl⟩ hv hoC hm F' N' off ne
      refine name_comp (s := { s₁ with heap := h, toks := tk }) hkind hx (hoC.ns (N' (C, oC) (by simp)).1) hm ?_ hdb
      refine ⟨h, tk, nw, rfl, F', N', off, hax, ?_, rfl⟩
      have e : items.toList[i]? = some v := by simpa using hv
      rw [List.take_add_one, e]
      rfl
    · rintro ys nw ⟨rfl, rfl⟩
      refine ⟨?_, rfl⟩
      rw [← Array.length_toList, List.take_length]
  · intro D C h' tk m' ys news' F' N' o1 hn hC₀ hD₀ hCL hDL hCD offC fin'
    obtain ⟨rfl, rfl⟩ := fin'
    show wpAny _ A (assign (.Name y py) env (.ref D)) _ _ _
    refine wpAny_assign_Name (wpAny_storeName_local hy F'.ns (fun h₂ hn₂ hs₂ => ?_) hp)
    have hL₀ : h₀.get? env.locals = none := Heap.get?_none_of_le F'.above
    have F₂ : Fr h₀ env.locals h₂ (fun z => if z = y then some (.ref D) else m z) := ⟨hn₂, fun b o e => hs₂.extBut b o (fun q => by rw [q, hL₀] at e; cases e) (F'.keep b o e), F'.above⟩
    refine ⟨m', hn.sameBut hs₂ hCL, fun h'' hs'' => fin D h'' _ (F₂.change hs'' hCL hC₀) (fun p hp => ?_) (off1_mem o1)⟩
    have z : h₂.get? p.1 = some p.2 := hs₂.extBut _ _ (N' p hp).2.1 (N' p hp).1
    refine ⟨hs''.extBut _ _ ?_ z, (N' p hp).2⟩
    rcases List.mem_cons.mp hp with rfl | hp
    · exact Ne.symm hCD
    · exact offC p hp
end
end Mine
-- part E4
open PySem PySem.W PyProof.Rows PySem.Calls
namespace Mine
theorem offE4 : True := by
  w_top off
  trivial
local macro_rules | `(tactic| walk_at "no such place") => `(tactic| skip)
local macro_rules | `(tactic| walk_at "no such place") => `(tactic| skip)
local macro_rules | `(tactic| walk_at "no such place") => `(tactic| skip)
local macro_rules | `(tactic| walk_at "no such place") => `(tactic| skip)
local macro_rules | `(tactic| walk_at "no such place") => `(tactic| skip)
local macro_rules | `(tactic| walk_at "no such place") => `(tactic| skip)
local macro_rules | `(tactic| walk_at "no such place") => `(tactic| skip)
local macro_rules | `(tactic| walk_at "no such place") => `(tactic| skip)
local macro_rules | `(tactic| walk_at "no such place") => `(tactic| skip)
local macro_rules | `(tactic| walk_at "no such place") => `(tactic| skip)
local macro_rules | `(tactic| walk_at "no such place") => `(tactic| skip)
local macro_rules | `(tactic| walk_at "no such place") => `(tactic| skip)
local macro_rules | `(tactic| walk_at "no such place") => `(tactic| skip)
local macro_rules | `(tactic| walk_at "no such place") => `(tactic| skip)
local macro_rules | `(tactic| walk_at "no such place") => `(tactic| skip)
local macro_rules | `(tactic| walk_at "no such place") => `(tactic| skip)
set_option maxRecDepth 100000
set_option maxHeartbeats 2000000
theorem fillE4 (w : World) (h : Heap) : (Challenge.rw_pg0058_01.row.prog = Challenge.rw_pg0058_01.row.prog ∧ ((hd.heap_39 w.params).In h → True)) := by
  k_fill
  exact ⟨rfl, fun _ => trivial⟩
theorem Pieces.monoT {news news' : List (Addr × Obj)} {vs : List Value} {cs : List Nat} (h : Pieces news vs cs) (hs : ∀ D c t u, (D, tupObj c t u) ∈ news → (D, tupObj c t u) ∈ news') : Pieces news' vs cs := by
  induction h with
  | nil => exact .nil
  | cons hm _ ih => exact .cons (hs _ _ _ _ hm) ih
section
variable {w : World} {mean : ExcName → Option Value} {mg mb : Str → Option Value} {dp un : Nat} {gd : Option (List Code)} {cn : Str} {a : Addr} {ccd : Value} {outer : List Env} {A₀ : Around} {base h₀ : Heap} {L : Addr} {m : Str → Option Value} {bs : List (Addr × Obj)} {s : Shared} {E : Value → Shared → Prop} {Q : Flow → Shared → Prop} {ci cw cc : Addr}
local macro_rules | `(tactic| k_mem) => `(tactic| first | assumption | exact List.mem_cons_self | (refine List.mem_cons_of_mem _ ?_; k_mem))
local macro_rules | `(tactic| walk_at "eval Name") => `(tactic| (k_here; k_dflt (refine' nameX_L ?F ?v ?_ ?a ?b; (case F => k_asm); (case a => rfl); (case b => rfl); (case v => assumption); k_whole)))
theorem seg6 {kd : Addr} {n : Nat} {kvs : List Value} {ks : List Nat}
    (B : Below A₀ base outer h₀) (F : Fr h₀ L s.heap m) (X : (hd.heap_39 w.params).In h₀) (N : News h₀ L s.heap bs) (T : Top hd.view_39 (looseW hd.view_39 [Str.ofString "_Accumulator"]) mean mg mb h₀)
    (hdp : dp + 20 < recursionLimit) (hun : un + 200 < cLine)
    (mk : m (Str.ofString "keys") = some (.ref kd)) (hkd : (kd, listOf kvs.toArray n) ∈ bs) (hks : Keys kvs ks) (hle : ∀ k ∈ ks, k ≤ 256) (hsz : ks.length ≤ 400)
    (hret : ∀ (h' : Heap) (tk' : Nat) (m' : Str → Option Value) (O Tw : Addr) (vs₁ vs₂ : List Value) (pcs : List (Addr × Obj)), Fr h₀ L h' m' → m' (Str.ofString "once") = some (.ref O) → m' (Str.ofString "twice") = some (.ref Tw) →
      (∀ y, y ≠ Str.ofString "key" → y ≠ Str.ofString "line" → y ≠ Str.ofString "once" → y ≠ Str.ofString "twice" → m' y = m y) →
      News h₀ L h' ((Tw, LCg.lst vs₂) :: (O, LCg.lst vs₁) :: (pcs ++ bs)) → Pieces (pcs ++ bs) vs₁ (ks.foldl press []) → Pieces (pcs ++ bs) vs₂ (ks.foldl press (ks.foldl press [])) → (∀ p ∈ (Tw, LCg.lst vs₂) :: (O, LCg.lst vs₁) :: pcs, ∀ q ∈ bs, p.1 ≠ q.1) →
      wpAny (model Challenge.rw_pg0058_01.row.prog w) (ktrTop dp un gd cn lawScope L a ccd (lawCells ci cw cc) outer) (execs (lawBody.drop 11) (envX cn lawScope L a ccd (lawCells ci cw cc))) Q E { s with heap := h', toks := tk' }) :
    wpAny (model Challenge.rw_pg0058_01.row.prog w) (ktrTop dp un gd cn lawScope L a ccd (lawCells ci cw cc) outer) (execs (lawBody.drop 6) (envX cn lawScope L a ccd (lawCells ci cw cc))) Q E s := by
  rw [show lawBody.drop 6 = _ :: lawBody.drop 7 from rfl]
  have hkv := hks.length
  k_steps
  refine acc_new B F X N T rfl (by omega) (by omega) fun x dx td h₂ tk₂ F₂ N₂ l₁ l₂ => ?_
  refine storeX_L (s := { s with heap := h₂, toks := tk₂ }) F₂ N₂ (fun h₃ F₃ N₃ => ?_) rfl rfl
  clear F₂ N₂ F N
  rw [show lawBody.drop 7 = _ :: lawBody.drop 8 from rfl]
  refine wpAny_execs_cons ?_
  have hoffx : ∀ p ∈ (dx, sizeDict w td (.int 0 210)) :: bs, p.1 ≠ x := fun p hp => by
    rcases List.mem_cons.mp hp with rfl | hp
    · exact Nat.ne_of_lt l₂
    · exact Nat.ne_of_lt (Nat.lt_trans (l₁ p hp) l₂)
  refine loop_press (kd := kd) (n := n) (kvs := kvs) (ks := ks) (st := []) (x := x) (dx := dx) (td := td) B F₃ X N₃ T (by omega) (by omega) mk rfl hoffx List.mem_cons_self (List.mem_cons_of_mem _ hkd) hks hle .nil (by simp only [List.length_nil]; omega) ?_
  intro h₄ tk₄ m₄ items₁ ep₁ tup₁ F₄ hm₄ N₄ htup₁ hP₁
  dsimp only
  clear F₃ N₃
  rw [show lawBody.drop 8 = _ :: lawBody.drop 9 from rfl]
  refine wpAny_execs_cons ?_
  have hlen₁ := hP₁.length
  have hfl₁ := press_fold_len [] ks
  refine copy_acc (h₀ := h₀) (L := L) (m := m₄) (cl := []) rfl (by with_unfolding_all rfl) (by with_unfolding_all rfl) (by decide) rfl (by decide) rfl rfl rfl (by decide) ?_
  refine nameX_L F₄ ((hm₄ _ (by decide)).trans rfl) ?_ rfl rfl
  refine ⟨x, dx, items₁, ep₁, _, rfl, rfl, F₄, N₄, List.mem_cons_self, ?_, X, ?_⟩
  · rw [sizeLine_eq]; simp only [Array.length_toList, List.length_nil] at hlen₁ hfl₁; omega
  intro O h₅ tk₅ F₅ N₅ hO
  dsimp only
  clear F₄ N₄
  rw [show lawBody.drop 9 = _ :: lawBody.drop 10 from rfl]
  refine wpAny_execs_cons ?_
  have N₅' : News h₀ L h₅ ((x, accObj dx items₁ ep₁) :: ((O, LCg.lst items₁.toList) :: (tup₁ ++ (dx, sizeDict w td (.int 0 210)) :: bs))) := cb_drop N₅ swap2
  have hoffx₂ : ∀ p ∈ (O, LCg.lst items₁.toList) :: (tup₁ ++ (dx, sizeDict w td (.int 0 210)) :: bs), p.1 ≠ x := fun p hp => by
    rcases List.mem_cons.mp hp with rfl | hp
    · exact fun e => hO (x, accObj dx items₁ ep₁) List.mem_cons_self e.symm
    · rcases List.mem_append.mp hp with hp | hp
      · exact (htup₁ p hp).1
      · exact hoffx p hp
  have hm₅ : ∀ y, y ≠ Str.ofString "key" → y ≠ Str.ofString "line" → y ≠ Str.ofString "once" → (if y = Str.ofString "once" then some (Value.ref O) else m₄ y) = m y := fun y a1 a2 a3 => by
    rw [if_neg a3, hm₄ y a1]; exact if_neg a2
  refine loop_press (kd := kd) (n := n) (kvs := kvs) (ks := ks) (st := ks.foldl press []) (x := x) (dx := dx) (td := td) B F₅ X N₅' T (by omega) (by omega) ((hm₅ _ (by decide) (by decide) (by decide)).trans mk) ?_ hoffx₂ (List.mem_cons_of_mem _ (List.mem_append_right _ List.mem_cons_self)) (List.mem_cons_of_mem _ (List.mem_append_right _ (List.mem_cons_of_mem _ hkd))) hks hle (hP₁.mono fun p hp => List.mem_cons_of_mem _ hp) (by simp only [List.length_nil] at hfl₁; omega) ?_
  · show m₄ (Str.ofString "line") = _
    rw [hm₄ _ (by decide)]; rfl
  intro h₆ tk₆ m₆ items₂ ep₂ tup₂ F₆ hm₆ N₆ htup₂ hP₂
  dsimp only
  clear F₅ N₅ N₅'
  rw [show lawBody.drop 10 = _ :: lawBody.drop 11 from rfl]
  refine wpAny_execs_cons ?_
  have hlen₂ := hP₂.length
  have hfl₂ := press_fold_len (ks.foldl press []) ks
  refine copy_acc (h₀ := h₀) (L := L) (m := m₆) (cl := []) rfl (by with_unfolding_all rfl) (by with_unfolding_all rfl) (by decide) rfl (by decide) rfl rfl rfl (by decide) ?_
  refine nameX_L F₆ (v := .ref x) ?_ ?_ rfl rfl
  · rw [hm₆ _ (by decide)]
    show m₄ (Str.ofString "line") = _
    rw [hm₄ _ (by decide)]; rfl
  refine ⟨x, dx, items₂, ep₂, _, rfl, rfl, F₆, N₆, List.mem_cons_self, ?_, X, ?_⟩
  · rw [sizeLine_eq]; simp only [Array.length_toList, List.length_nil] at hlen₂ hfl₂ hfl₁; omega
  intro Tw h₇ tk₇ F₇ N₇ hTw
  dsimp only
  refine hret h₇ tk₇ _ O Tw items₁.toList items₂.toList (tup₂ ++ (tup₁ ++ [(dx, sizeDict w td (.int 0 210))])) F₇ ?_ rfl ?_ ?_ ?_ ?_ ?_
  · show m₆ (Str.ofString "once") = _
    rw [hm₆ _ (by decide)]; rfl
  · intro y a1 a2 a3 a4
    show (if y = _ then _ else _) = _
    rw [if_neg a4, hm₆ y a1]
    exact hm₅ y a1 a2 a3
  · refine cb_drop N₇ fun p hp => ?_
    simp only [List.mem_cons, List.mem_append, List.not_mem_nil, or_false] at hp ⊢
    grind
  · refine hP₁.mono fun p hp => ?_
    simp only [List.mem_cons, List.mem_append, List.not_mem_nil, or_false] at hp ⊢
    grind
  · refine hP₂.monoT fun D c t u hp => ?_
    simp only [List.mem_cons, List.mem_append, List.not_mem_nil, or_false] at hp ⊢
    rcases hp with hp | hp | hp | hp | hp
    · exact .inl (.inl hp)
    · exact absurd (congrArg (fun z => z.2.cls) hp) (by simp)
    · exact .inl (.inr (.inl hp))
    · exact .inl (.inr (.inr hp))
    · exact .inr hp
  · intro p hp q hq
    simp only [List.mem_cons, List.mem_append, List.not_mem_nil, or_false] at hp
    rcases hp with rfl | rfl | hp | hp | rfl
    · exact fun e => hTw q (by simp only [List.mem_cons, List.mem_append]; grind) e.symm
    · exact fun e => hO q (by simp only [List.mem_cons, List.mem_append]; grind) e.symm
    · exact (htup₂ p hp).2 q (by simp only [List.mem_cons, List.mem_append]; grind)
    · exact (htup₁ p hp).2 q (List.mem_cons_of_mem _ hq)
    · exact Nat.ne_of_gt (l₁ q hq)
end
end Mine
-- part E5
open PySem PySem.W PyProof.Rows PySem.Calls
namespace Mine
theorem offE5 : True := by
  w_top off
  trivial
set_option maxRecDepth 100000
set_option maxHeartbeats 2000000
theorem fillE5 (w : World) (h : Heap) : (Challenge.rw_pg0058_01.row.prog = Challenge.rw_pg0058_01.row.prog ∧ ((hd.heap_39 w.params).In h → True)) := by
  k_fill
  exact ⟨rfl, fun _ => trivial⟩
abbrev sumsScope : Scope := { kind := .function, names := [(Str.ofString ".0", .local), (Str.ofString "j", .local), (Str.ofString "sum", .globalImplicit), (Str.ofString "i", .free), (Str.ofString "worths", .free)], isGenerator := false, isCoroutine := false, more := [] }
theorem sums_clos (cn : Str) (L a : Addr) (ccd : Value) (ci cw cc : Addr) : closureFor sumsScope (envX cn lawScope L a ccd (lawCells ci cw cc)) = pure [(Str.ofString "worths", cw), (Str.ofString "i", ci)] := by
  with_unfolding_all rfl
abbrev sumsCl (ci cw : Addr) : List (Str × Addr) := [(Str.ofString "worths", cw), (Str.ofString "i", ci)]
section
variable {w : World} {mean : ExcName → Option Value} {mg mb : Str → Option Value} {dp un : Nat} {gd : Option (List Code)} {cn : Str} {a : Addr} {ccd : Value} {outer : List Env} {A₀ : Around} {base h₀ : Heap} {L : Addr} {m : Str → Option Value} {news : List (Addr × Obj)} {s : Shared} {E : Value → Shared → Prop} {ci cw cc : Addr}
local macro_rules | `(tactic| k_mem) => `(tactic| first | assumption | exact List.mem_cons_self | (refine List.mem_cons_of_mem _ ?_; k_mem))
local macro_rules | `(tactic| walk_at "eval Name") => `(tactic| (k_here; (with_reducible show wpAny _ _ (eval (Expr.Name _ _) (compEnvC _ _ _ _)) _ _ _); k_dflt (refine' name_comp ?a ?b ?c ?d ?_ ?e; (case a => rfl); (case b => rfl); (case c => assumption); (case d => assumption); (case e => decide); k_whole)))
theorem elt_sum {C W : Addr} {oi ow : Obj} {wvs : List Value} {ws : List Int} {nw : Nat} {i j : Nat} {ti tj : Tok} {m₂ : Str → Option Value} {Q : Value → Shared → Prop} {p1 p2 p3 p4 p5 p6 p7 p8 p9 : Pos}
    (F : Fr h₀ L s.heap m) (X : (hd.heap_39 w.params).In h₀) (N : News h₀ L s.heap news) (T : Top hd.view_39 (looseW hd.view_39 [Str.ofString "_Accumulator"]) mean mg mb h₀)
    (hC : s.heap.Ns C m₂) (hj : m₂ (Str.ofString "j") = some (.int (j : Nat) tj)) (hci : (ci, oi) ∈ news) (hoi : oi.data = .cell (some (.int (i : Nat) ti))) (hcw : (cw, ow) ∈ news) (how : ow.data = .cell (some (.ref W))) (hW : (W, listOf wvs.toArray nw) ∈ news) (hws : IntsAre wvs ws) (hlen : ws.length ≤ 1000)
    (hret : ∀ (t : Tok) (h' : Heap) (tk' : Nat), Fr h₀ L h' m → News h₀ L h' news → Q (.int ((ws.drop (i + 1)).take (min j ws.length - (i + 1))).sum t) { s with heap := h', toks := tk' }) :
    wpAny (model Challenge.rw_pg0058_01.row.prog w) (ktrTop dp un gd cn lawScope L a ccd (lawCells ci cw cc) outer)
      (eval (.Call (.Name (Str.ofString "sum") p1) [.Subscript (.Name (Str.ofString "worths") p2) (.Slice (some (.BinOp (.Name (Str.ofString "i") p3) .Add (.Constant (.int 1) 0 p4) p5)) (some (.Name (Str.ofString "j") p6)) none p7) p8] [] p9) (compEnvC sumsScope (sumsCl ci cw) C (envX cn lawScope L a ccd (lawCells ci cw cc)))) Q E s := by
  k_steps
  have e1 : ((i : Int) + 1).toNat = i + 1 := by omega
  have e2 : (j : Int).toNat = j := by omega
  rw [e1, e2]
  exact hret _ _ _ (by assumption) (by first | assumption | exact cb_drop (by assumption) (fun p hp => List.mem_cons_of_mem _ hp))
end
end Mine
-- part E6
open PySem PySem.W PyProof.Rows PySem.Calls
namespace Mine
theorem offE6 : True := by
  w_top off
  trivial
local macro_rules | `(tactic| walk_at "no such place") => `(tactic| skip)
local macro_rules | `(tactic| walk_at "no such place") => `(tactic| skip)
local macro_rules | `(tactic| walk_at "no such place") => `(tactic| skip)
local macro_rules | `(tactic| walk_at "no such place") => `(tactic| skip)
local macro_rules | `(tactic| walk_at "no such place") => `(tactic| skip)
local macro_rules | `(tactic| walk_at "no such place") => `(tactic| skip)
local macro_rules | `(tactic| walk_at "no such place") => `(tactic| skip)
local macro_rules | `(tactic| walk_at "no such place") => `(tactic| skip)
set_option maxRecDepth 100000
set_option maxHeartbeats 2000000
theorem fillE6 (w : World) (h : Heap) : (Challenge.rw_pg0058_01.row.prog = Challenge.rw_pg0058_01.row.prog ∧ ((hd.heap_39 w.params).In h → True)) := by
  k_fill
  exact ⟨rfl, fun _ => trivial⟩
/-- the sum of the worths behind i, d of them -/
def sumAt (ws : List Int) (i d : Nat) : Int := ((ws.drop (i + 1)).take d).sum
section
variable {w : World} {mean : ExcName → Option Value} {mg mb : Str → Option Value} {dp un : Nat} {gd : Option (List Code)} {cn : Str} {a : Addr} {ccd : Value} {outer : List Env} {A₀ : Around} {base h₀ : Heap} {L : Addr} {m : Str → Option Value} {news : List (Addr × Obj)} {s : Shared} {E : Value → Shared → Prop} {ci cw cc : Addr}
local macro_rules | `(tactic| k_mem) => `(tactic| first | assumption | exact List.mem_cons_self | (refine List.mem_cons_of_mem _ ?_; k_mem))
local macro_rules | `(tactic| walk_at "eval Name") => `(tactic| (k_here; k_dflt (refine' nameX_L ?F ?v ?_ ?a ?b; (case F => k_asm); (case a => rfl); (case b => rfl); (case v => assumption); k_whole)))
theorem eval_range2 {kd : Addr} {kvs : List Value} {n i : Nat} {oi : Obj} {ti : Tok} {p1 p2 p3 p4 p5 p6 p7 p8 p9 q1 : Pos} {Q : Value → Shared → Prop}
    (F : Fr h₀ L s.heap m) (X : (hd.heap_39 w.params).In h₀) (N : News h₀ L s.heap news) (T : Top hd.view_39 (looseW hd.view_39 [Str.ofString "_Accumulator"]) mean mg mb h₀)
    (mk : m (Str.ofString "keys") = some (.ref kd)) (hkd : (kd, listOf kvs.toArray n) ∈ news) (hsz : kvs.length ≤ 1000) (hci : (ci, oi) ∈ news) (hoi : oi.data = .cell (some (.int (i : Nat) ti)))
    (hret : ∀ (r : Addr) (t u v : Tok) (h' : Heap) (tk' : Nat), IsRange h' r ((i : Int) + 1) ((kvs.length : Nat) + 1) 1 t u v → Fr h₀ L h' m → News h₀ L h' news → Q (.ref r) { s with heap := h', toks := tk' }) :
    wpAny (model Challenge.rw_pg0058_01.row.prog w) (ktrTop dp un gd cn lawScope L a ccd (lawCells ci cw cc) outer)
      (eval (.Call (.Name (Str.ofString "range") p1) [.BinOp (.Name (Str.ofString "i") p2) .Add (.Constant (.int 1) 0 p3) p4, .BinOp (.Call (.Name (Str.ofString "len") p5) [.Name (Str.ofString "keys") p6] [] p7) .Add (.Constant (.int 1) 0 p8) p9] [] q1) (envX cn lawScope L a ccd (lawCells ci cw cc))) Q E s := by
  k_steps
  refine len_list (News.isList N hkd) (by rw [List.size_toArray]; omega) ?_
  rw [List.size_toArray]
  k_steps
  exact hret _ _ _ _ _ _ (by assumption) (by assumption) (by assumption)
theorem st_sums {kd W : Addr} {kvs : List Value} {n i nw : Nat} {oi ow : Obj} {ti : Tok} {wvs : List Value} {ws : List Int} {py pj pos spos p1 p2 p3 p4 p5 p6 p7 p8 p9 q1 r1 r2 r3 r4 r5 r6 r7 r8 r9 : Pos} {Q : Flow → Shared → Prop}
    (F : Fr h₀ L s.heap m) (X : (hd.heap_39 w.params).In h₀) (N : News h₀ L s.heap news) (T : Top hd.view_39 (looseW hd.view_39 [Str.ofString "_Accumulator"]) mean mg mb h₀)
    (mk : m (Str.ofString "keys") = some (.ref kd)) (hkd : (kd, listOf kvs.toArray n) ∈ news) (hsz : kvs.length ≤ 1000) (hci : (ci, oi) ∈ news) (hoi : oi.data = .cell (some (.int (i : Nat) ti)))
    (hcw : (cw, ow) ∈ news) (how : ow.data = .cell (some (.ref W))) (hW : (W, listOf wvs.toArray nw) ∈ news) (hws : IntsAre wvs ws) (hlen : ws.length = kvs.length) (hi : i < kvs.length)
    (hsw : swapsWith (.ListComp (.Call (.Name (Str.ofString "sum") r1) [.Subscript (.Name (Str.ofString "worths") r2) (.Slice (some (.BinOp (.Name (Str.ofString "i") r3) .Add (.Constant (.int 1) 0 r4) r5)) (some (.Name (Str.ofString "j") r6)) none r7) r8] [] r9)
      [⟨.Name (Str.ofString "j") pj, .Call (.Name (Str.ofString "range") p1) [.BinOp (.Name (Str.ofString "i") p2) .Add (.Constant (.int 1) 0 p3) p4, .BinOp (.Call (.Name (Str.ofString "len") p5) [.Name (Str.ofString "keys") p6] [] p7) .Add (.Constant (.int 1) 0 p8) p9] [] q1, [], 0⟩] sumsScope pos) (some (.Name (Str.ofString "sums") py)) spos.line (envX cn lawScope L a ccd (lawCells ci cw cc)) = pure true)
    (hret : ∀ (D : Addr) (h' : Heap) (tk' : Nat) (svs : List Value), Fr h₀ L h' (fun z => if z = Str.ofString "sums" then some (.ref D) else m z) → News h₀ L h' ((D, LCg.lst svs) :: news) → (∀ p ∈ news, p.1 ≠ D) → IntsAre svs ((List.range (kvs.length - i)).map (sumAt ws i)) → Q .next { s with heap := h', toks := tk' }) :
    wpAny (model Challenge.rw_pg0058_01.row.prog w) (ktrTop dp un gd cn lawScope L a ccd (lawCells ci cw cc) outer)
      (exec (.Assign [.Name (Str.ofString "sums") py] (.ListComp (.Call (.Name (Str.ofString "sum") r1) [.Subscript (.Name (Str.ofString "worths") r2) (.Slice (some (.BinOp (.Name (Str.ofString "i") r3) .Add (.Constant (.int 1) 0 r4) r5)) (some (.Name (Str.ofString "j") r6)) none r7) r8] [] r9)
      [⟨.Name (Str.ofString "j") pj, .Call (.Name (Str.ofString "range") p1) [.BinOp (.Name (Str.ofString "i") p2) .Add (.Constant (.int 1) 0 p3) p4, .BinOp (.Call (.Name (Str.ofString "len") p5) [.Name (Str.ofString "keys") p6] [] p7) .Add (.Constant (.int 1) 0 p8) p9] [] q1, [], 0⟩] sumsScope pos) spos) (envX cn lawScope L a ccd (lawCells ci cw cc))) Q E s := by
  refine LCg.Assign_ListComp_U (h₀ := h₀) (L := L) (m := m) (cl := sumsCl ci cw) F rfl hsw (sums_clos ..) (by decide) rfl (by decide) rfl rfl rfl ?_
  refine eval_range2 F X N T mk hkd hsz hci hoi fun r t u v h₁ tk₁ hr F₁ N₁ => ?_
  refine LCg.CompSrc.range (n := kvs.length - i) (s₁ := { s with heap := h₁, toks := tk₁ }) rfl F₁ N₁ hr (small_one (by omega) (by omega) (by omega) (by omega)) (by rw [rangeSize_nat]; omega) (by rw [sizeLine_eq]; omega) fun g => ?_
  refine comp_rest (fun d ys nw' => nw' = news ∧ IntsAre ys ((List.range d).map (sumAt ws i))) (kvs.length - i) ?_ ?_ (kvs.length - i) 0 [] news (Nat.zero_add _) ⟨rfl, .nil⟩
  · rintro d ys nw' v I oI C oC D m₂ h tk E' hd ⟨rfl, hys⟩ hv hoC hm F' N' off ne
    obtain ⟨tj, rfl⟩ := hv
    have e : ((i : Int) + 1) + (d : Int) = ((i + 1 + d : Nat) : Int) := by omega
    rw [e] at hm
    refine elt_sum (s := { s with heap := h, toks := tk }) F' X N' T (hoC.ns (N' (C, oC) (by simp)).1) hm (List.mem_cons_of_mem _ (List.mem_cons_of_mem _ (List.mem_cons_of_mem _ hci))) hoi (List.mem_cons_of_mem _ (List.mem_cons_of_mem _ (List.mem_cons_of_mem _ hcw))) how (List.mem_cons_of_mem _ (List.mem_cons_of_mem _ (List.mem_cons_of_mem _ hW))) hws (by omega) ?_
    intro t h' tk' F'' N''
    have e2 : min (i + 1 + d) ws.length - (i + 1) = d := by omega
    rw [e2]
    refine ⟨h', tk', nw', rfl, F'', N'', off, trivial, rfl, ?_⟩
    rw [List.range_succ, List.map_append]
    exact ints_snoc hys _ t
  · rintro ys nw' ⟨rfl, hys⟩
    intro D h tk F' N' o1
    exact hret D h tk ys F' N' (off1_mem o1) hys
end
end Mine
-- part E7
open PySem PySem.W PyProof.Rows PySem.Calls
namespace Mine
theorem offE7 : True := by
  w_top off
  trivial
local macro_rules | `(tactic| walk_at "no such place") => `(tactic| skip)
local macro_rules | `(tactic| walk_at "no such place") => `(tactic| skip)
local macro_rules | `(tactic| walk_at "no such place") => `(tactic| skip)
local macro_rules | `(tactic| walk_at "no such place") => `(tactic| skip)
local macro_rules | `(tactic| walk_at "no such place") => `(tactic| skip)
local macro_rules | `(tactic| walk_at "no such place") => `(tactic| skip)
local macro_rules | `(tactic| walk_at "no such place") => `(tactic| skip)
local macro_rules | `(tactic| walk_at "no such place") => `(tactic| skip)
local macro_rules | `(tactic| walk_at "no such place") => `(tactic| skip)
local macro_rules | `(tactic| walk_at "no such place") => `(tactic| skip)
local macro_rules | `(tactic| walk_at "no such place") => `(tactic| skip)
local macro_rules | `(tactic| walk_at "no such place") => `(tactic| skip)
local macro_rules | `(tactic| walk_at "no such place") => `(tactic| skip)
local macro_rules | `(tactic| walk_at "no such place") => `(tactic| skip)
local macro_rules | `(tactic| walk_at "no such place") => `(tactic| skip)
local macro_rules | `(tactic| walk_at "no such place") => `(tactic| skip)
set_option maxRecDepth 100000
set_option maxHeartbeats 2000000
theorem fillE7 (w : World) (h : Heap) : (Challenge.rw_pg0058_01.row.prog = Challenge.rw_pg0058_01.row.prog ∧ ((hd.heap_39 w.params).In h → True)) := by
  k_fill
  exact ⟨rfl, fun _ => trivial⟩
/-- a key that is left, by sums alone -/
def leftB (ws : List Int) (n i : Nat) : Bool := decide (ws.getD i 0 = 1) && (List.range (n - i)).all fun d => decide (0 ≤ sumAt ws i d)
def lefts (ws : List Int) (ks : List Nat) (n : Nat) : List Nat := ((List.range n).filter (leftB ws ks.length)).map fun i => ks.getD i 0
section
variable {w : World} {mean : ExcName → Option Value} {mg mb : Str → Option Value} {dp un : Nat} {gd : Option (List Code)} {cn : Str} {a : Addr} {ccd : Value} {outer : List Env} {A₀ : Around} {base h₀ : Heap} {L : Addr} {m : Str → Option Value} {bs : List (Addr × Obj)} {s : Shared} {E : Value → Shared → Prop} {ci cw cc : Addr} {Q : Flow → Shared → Prop}
local macro_rules | `(tactic| k_mem) => `(tactic| first | assumption | exact List.mem_cons_self | (refine List.mem_cons_of_mem _ ?_; k_mem))
local macro_rules | `(tactic| k_all) => `(tactic| first | assumption | exact all_lt (by assumption))
local macro_rules | `(tactic| walk_at "eval Name") => `(tactic| (k_here; k_dflt (refine' nameX_L ?F ?v ?_ ?a ?b; (case F => k_asm); (case a => rfl); (case b => rfl); (case v => assumption); k_whole)))
theorem seg11 {kd W Cd : Addr} {oi ow oc : Obj} {v₀ : Option Value} {nk nw nc : Nat} {kvs wvs cvs : List Value} {ws : List Int} {ks : List Nat}
    (B : Below A₀ base outer h₀) (F : Fr h₀ L s.heap m) (X : (hd.heap_39 w.params).In h₀) (N : News h₀ L s.heap ((ci, oi) :: bs)) (T : Top hd.view_39 (looseW hd.view_39 [Str.ofString "_Accumulator"]) mean mg mb h₀)
    (hdp : dp + 20 < recursionLimit) (hun : un + 200 < cLine) (hoi : oi.data = .cell v₀) (hoff : ∀ p ∈ bs, p.1 ≠ ci)
    (mk : m (Str.ofString "keys") = some (.ref kd)) (hkd : (kd, listOf kvs.toArray nk) ∈ bs) (hkl : kvs.length = ks.length) (hsz : ks.length ≤ 400) (hle : ∀ k ∈ ks, k ≤ 256)
    (hcw : (cw, ow) ∈ bs) (how : ow.data = .cell (some (.ref W))) (hW : (W, listOf wvs.toArray nw) ∈ bs) (hws : IntsAre wvs ws) (hwl : ws.length = ks.length) (hwk : ∀ i, ws.getD i 0 = 1 → 32 ≤ ks.getD i 0 ∧ ks.getD i 0 ≠ 127)
    (hcc : (cc, oc) ∈ bs) (hoc : oc.data = .cell (some (.ref Cd))) (hCd : (Cd, listOf cvs.toArray nc) ∈ bs) (hcs : IntsAre cvs (ks.map Int.ofNat))
    (hret : ∀ (h' : Heap) (tk' : Nat) (m' : Str → Option Value) (Lf : Addr) (oi' : Obj) (lvs : List Value) (el : Nat) (pcs : List (Addr × Obj)), Fr h₀ L h' m' → m' (Str.ofString "left") = some (.ref Lf) → (∀ y, y ≠ Str.ofString "left" → y ≠ Str.ofString "sums" → m' y = m y) →
      News h₀ L h' ((ci, oi') :: (Lf, listOf lvs.toArray el) :: (pcs ++ bs)) → Pieces pcs lvs (lefts ws ks ks.length) →
      wpAny (model Challenge.rw_pg0058_01.row.prog w) (ktrTop dp un gd cn lawScope L a ccd (lawCells ci cw cc) outer) (execs (lawBody.drop 13) (envX cn lawScope L a ccd (lawCells ci cw cc))) Q E { s with heap := h', toks := tk' }) :
    wpAny (model Challenge.rw_pg0058_01.row.prog w) (ktrTop dp un gd cn lawScope L a ccd (lawCells ci cw cc) outer) (execs (lawBody.drop 11) (envX cn lawScope L a ccd (lawCells ci cw cc))) Q E s := by
  rw [show lawBody.drop 11 = _ :: lawBody.drop 12 from rfl]
  refine wpAny_execs_cons ?_
  refine wpAny_mono (Q := fun f s₂ => Stop (f = .next ∧ ∃ Lf h' tk' el, s₂ = { s with heap := h', toks := tk' } ∧ Fr h₀ L h' (fun y => if y = Str.ofString "left" then some (.ref Lf) else m y) ∧ News h₀ L h' ((Lf, listOf #[] el) :: (ci, oi) :: bs) ∧ (∀ p ∈ (ci, oi) :: bs, p.1 < Lf))) ?_ ?_ fun _ _ z => z
  · k_steps
    rename _ ∧ AllLt _ _ => l9
    refine ⟨trivial, _, _, _, _, rfl, by assumption, by assumption, fun p hp => ?_⟩
    rcases List.mem_cons.mp hp with rfl | hp
    · exact l9.1
    · exact allLt_out l9.2 p hp
  intro f s₂ z
  obtain ⟨rfl, Lf, h₁, tk₁, el₁, rfl, F₁, N₁, l₁⟩ := z
  dsimp only
  rw [show lawBody.drop 12 = _ :: lawBody.drop 13 from rfl]
  refine wpAny_execs_cons ?_
  refine for_range_cell (h₀ := h₀) rfl rfl rfl rfl ?_
  refine eval_rangelen F₁ X N₁ T (by exact mk) (List.mem_cons_of_mem _ (List.mem_cons_of_mem _ hkd)) (by omega) fun r t₁ u₁ v₁ h₂ tk₂ hr F₂ N₂ => ?_
  refine ⟨r, 0, _, t₁, u₁, v₁, ks.length, oi, v₀, (Lf, listOf #[] el₁) :: bs, _, fun i m' rest => ∃ lvs el pcs, rest = (Lf, listOf (List.toArray lvs) el) :: (pcs ++ bs) ∧ Pieces pcs lvs (lefts ws ks i) ∧ m' (Str.ofString "left") = some (.ref Lf) ∧ (∀ y, y ≠ Str.ofString "left" → y ≠ Str.ofString "sums" → m' y = m y) ∧ (∀ p ∈ pcs, p.1 ≠ Lf), rfl, F₂, cb_drop N₂ swap2, hoi, ?_, hr, small_one (by omega) (by omega) (by omega) (by omega), ?_, ?_, ?_, ?_⟩
  · intro p hp
    rcases List.mem_cons.mp hp with rfl | hp
    · exact Nat.ne_of_gt (l₁ (ci, oi) List.mem_cons_self)
    · exact hoff p hp
  · rw [rangeSize_nat]; omega
  · exact ⟨[], el₁, [], rfl, .nil, rfl, fun y a1 _ => if_neg a1, (fun p hp => nomatch hp)⟩
  · rintro i t oc₁ m₁ rest₁ I oI h tk E' hi ⟨lvs, el, pcs, rfl, hP, hml, hm, hpl⟩ hoc₁ hI hc hcI F' N'
    rw [Int.zero_add] at hoc₁
    refine wpAny_execs_cons ?_
    have hbs : ∀ p ∈ bs, p ∈ (I, oI) :: (ci, oc₁) :: (Lf, listOf (List.toArray lvs) el) :: (pcs ++ bs) := fun p hp => by simp only [List.mem_cons, List.mem_append]; grind
    refine st_sums (s := { s with heap := h, toks := tk }) F' X N' T ((hm _ (by decide) (by decide)).trans mk) (hbs _ hkd) (by omega) (List.mem_cons_of_mem _ List.mem_cons_self) hoc₁ (hbs _ hcw) how (hbs _ hW) hws (by omega) (by omega) (by with_unfolding_all rfl) ?_
    intro S h₃ tk₃ svs F₃ N₃ hS hsv
    rw [hkl] at hsv
    dsimp only
    clear F' N'
    generalize hmm : (fun z => if z = Str.ofString "sums" then some (Value.ref S) else m₁ z) = mm at F₃
    have hsums : mm (Str.ofString "sums") = some (.ref S) := by rw [← hmm]; rfl
    have hleft : mm (Str.ofString "left") = some (.ref Lf) := by rw [← hmm]; exact hml
    have hmm' : ∀ y, y ≠ Str.ofString "left" → y ≠ Str.ofString "sums" → mm y = m y := fun y a1 a2 => by rw [← hmm]; show (if y = _ then _ else _) = _; rw [if_neg a2]; exact hm y a1 a2
    clear hmm
    have stay : leftB ws ks.length i = false → ∀ h' tk', Fr h₀ L h' mm → News h₀ L h' ((S, LCg.lst svs) :: (I, oI) :: (ci, oc₁) :: (Lf, listOf (List.toArray lvs) el) :: (pcs ++ bs)) →
        TurnEnd h₀ L I oI (fun m' nw => ∃ rest₂, nw = (ci, oc₁) :: rest₂ ∧ (∀ p ∈ rest₂, p.1 ≠ ci) ∧ ∃ lvs el pcs, rest₂ = (Lf, listOf (List.toArray lvs) el) :: (pcs ++ bs) ∧ Pieces pcs lvs (lefts ws ks (i + 1)) ∧ m' (Str.ofString "left") = some (.ref Lf) ∧ (∀ y, y ≠ Str.ofString "left" → y ≠ Str.ofString "sums" → m' y = m y) ∧ (∀ p ∈ pcs, p.1 ≠ Lf)) { s with heap := h, toks := tk } .next { s with heap := h', toks := tk' } := by
      intro hb h' tk' F'' N''
      refine ⟨rfl, h', tk', mm, (ci, oc₁) :: (Lf, listOf (List.toArray lvs) el) :: (pcs ++ bs), rfl, F'', cb_drop N'' (fun p hp => List.mem_cons_of_mem _ hp), ?_, _, rfl, hc, lvs, el, pcs, rfl, ?_, hleft, hmm', hpl⟩
      · intro p hp
        rcases List.mem_cons.mp hp with rfl | hp
        · exact hcI
        · exact hI p hp
      · unfold lefts
        rw [List.range_succ, List.filter_append]
        simpa [hb, lefts] using hP
    have N₃' : News h₀ L h₃ ((Lf, listOf (List.toArray lvs) el) :: ((S, LCg.lst svs) :: (I, oI) :: (ci, oc₁) :: (pcs ++ bs))) := cb_drop N₃ fun p hp => by
      simp only [List.mem_cons, List.mem_append] at hp ⊢; grind
    have hoffL : ∀ p ∈ (S, LCg.lst svs) :: (I, oI) :: (ci, oc₁) :: (pcs ++ bs), p.1 ≠ Lf := fun p hp => by
      simp only [List.mem_cons, List.mem_append] at hp
      rcases hp with rfl | rfl | rfl | hp | hp
      · exact fun e => hS (Lf, listOf (List.toArray lvs) el) (by simp) e.symm
      · exact fun e => hI (Lf, listOf (List.toArray lvs) el) List.mem_cons_self e.symm
      · exact fun e => hc (Lf, listOf (List.toArray lvs) el) List.mem_cons_self e.symm
      · exact hpl p hp
      · exact Nat.ne_of_lt (l₁ p (List.mem_cons_of_mem _ hp))
    clear N₃
    have hbs' : ∀ p ∈ bs, p ∈ (S, LCg.lst svs) :: (I, oI) :: (ci, oc₁) :: (pcs ++ bs) := fun p hp => by simp only [List.mem_cons, List.mem_append]; grind
    have hback : ∀ p ∈ (S, LCg.lst svs) :: (I, oI) :: (ci, oc₁) :: (Lf, listOf (List.toArray lvs) el) :: (pcs ++ bs), p ∈ (Lf, listOf (List.toArray lvs) el) :: ((S, LCg.lst svs) :: (I, oI) :: (ci, oc₁) :: (pcs ++ bs)) := fun p hp => by
      simp only [List.mem_cons, List.mem_append] at hp ⊢; grind
    generalize hnn : (S, LCg.lst svs) :: (I, oI) :: (ci, oc₁) :: (pcs ++ bs) = r9 at N₃' hbs' hoffL hback
    have hciN : (ci, oc₁) ∈ r9 := by rw [← hnn]; simp
    have hSN : (S, LCg.lst svs) ∈ r9 := by rw [← hnn]; simp
    have hWN := hbs' _ hW
    have hcwN := hbs' _ hcw
    have hccN := hbs' _ hcc
    have hCdN := hbs' _ hCd
    refine wpAny_execs_cons ?_
    k_steps
    · have h1 : ws.getD (i : Int).toNat 0 = 1 := by assumption
      rw [Int.toNat_natCast] at h1
      refine kso_min F₃ N₃' (News.isList N₃' (List.mem_cons_of_mem _ hSN)) hsv (by simp; omega) rfl fun h₄ M tM tk₄ F₄ N₄ hM1 hM2 => ?_
      clear N₃'
      k_steps
      · have hcode : (List.map Int.ofNat ks).getD (i : Int).toNat 0 = ((ks.getD i 0 : Nat) : Int) := by
          rw [Int.toNat_natCast]
          simp only [List.getD_eq_getElem?_getD, List.getElem?_map]
          cases ks[i]? <;> rfl
        have hk1 := hwk i h1
        have hk2 : ks.getD i 0 ≤ 256 := by
          rw [List.getD_eq_getElem?_getD]
          cases e : ks[i]? with
          | none => simp
          | some c => exact hle c (List.mem_of_getElem? e)
        rw [hcode]
        refine piece_c B F₄ X N₄ T rfl ⟨hk1.1, hk2, hk1.2⟩ (by omega) (by omega) fun D t₅ u₅ h₅ tk₅ F₅ N₅ l₅ => ?_
        clear F₄ N₄
        have hll := hP.length
        have hlf : (lefts ws ks i).length ≤ ks.length := by
          unfold lefts
          rw [List.length_map]
          exact Nat.le_trans (List.length_filter_le _ _) (by rw [List.length_range]; omega)
        k_steps
        refine append_K F₅ N₅ (Upd.tail (Nat.ne_of_gt (l₅ _ List.mem_cons_self)) (Upd.head hoffL)) (fun h₆ F₆ N₆ => ?_) (by rw [sizeLine_eq, List.size_toArray]; omega)
        rw [List.push_toArray] at N₆
        have hb : leftB ws ks.length i = true := by
          unfold leftB
          rw [decide_eq_true h1, Bool.true_and, List.all_eq_true]
          intro d hd
          have h0M : 0 ≤ M := by assumption
          exact decide_eq_true (Int.le_trans h0M (hM2 _ (List.mem_map.mpr ⟨d, hd, rfl⟩)))
        refine wpAny_execs_nil ?_
        dsimp only
        refine wpAny_execs_nil ?_
        refine ⟨rfl, h₆, tk₅, mm, (ci, oc₁) :: (Lf, listOf (List.toArray (lvs ++ [.ref D])) (el + 1)) :: (((D, tupObj (ks.getD i 0) t₅ u₅) :: pcs) ++ bs), rfl, F₆, ?_, ?_, _, rfl, ?_, lvs ++ [.ref D], el + 1, (D, tupObj (ks.getD i 0) t₅ u₅) :: pcs, rfl, ?_, hleft, hmm', ?_⟩
        · refine cb_drop N₆ fun p hp => ?_
          rw [← hnn]
          simp only [List.cons_append, List.mem_cons, List.mem_append] at hp ⊢
          grind
        · intro p hp
          simp only [List.cons_append, List.mem_cons, List.mem_append] at hp
          rcases hp with rfl | rfl | rfl | hp | hp
          · exact hcI
          · exact hI (Lf, listOf (List.toArray lvs) el) List.mem_cons_self
          · exact Nat.ne_of_gt (l₅ (I, oI) (List.mem_cons_of_mem _ (by rw [← hnn]; simp)))
          · exact hI p (List.mem_cons_of_mem _ (List.mem_append_left _ hp))
          · exact hI p (List.mem_cons_of_mem _ (List.mem_append_right _ hp))
        · intro p hp
          simp only [List.cons_append, List.mem_cons, List.mem_append] at hp
          rcases hp with rfl | rfl | hp | hp
          · exact hc (Lf, listOf (List.toArray lvs) el) List.mem_cons_self
          · exact Nat.ne_of_gt (l₅ (ci, oc₁) (List.mem_cons_of_mem _ hciN))
          · exact hc p (List.mem_cons_of_mem _ (List.mem_append_left _ hp))
          · exact hc p (List.mem_cons_of_mem _ (List.mem_append_right _ hp))
        · have e : lefts ws ks (i + 1) = lefts ws ks i ++ [ks.getD i 0] := by
            unfold lefts
            rw [List.range_succ, List.filter_append, List.map_append]
            simp [hb]
          rw [e]
          exact (hP.mono fun p hp => List.mem_cons_of_mem _ hp).snoc List.mem_cons_self
        · intro p hp
          rcases List.mem_cons.mp hp with rfl | hp
          · exact Nat.ne_of_gt (l₅ _ List.mem_cons_self)
          · exact hpl p hp
      · have hb : leftB ws ks.length i = false := by
          unfold leftB
          rw [decide_eq_true h1, Bool.true_and]
          obtain ⟨d, hd, e⟩ := List.mem_map.mp hM1
          have h0M : ¬ 0 ≤ M := by assumption
          exact List.all_eq_false.mpr ⟨d, hd, by rw [decide_eq_false (by rw [e]; exact h0M)]; exact Bool.false_ne_true⟩
        exact stay hb _ _ F₄ (cb_drop N₄ hback)
    · have h1 : ws.getD (i : Int).toNat 0 ≠ 1 := by assumption
      rw [Int.toNat_natCast] at h1
      exact stay (by unfold leftB; rw [decide_eq_false h1]; rfl) _ _ F₃ (cb_drop N₃' hback)
  · rintro h' tk m' oc' v₀' rest' F' N' hoc' hoffc ⟨lvs, el, pcs, rfl, hP, hml, hm, hpl⟩
    exact hret h' tk m' Lf oc' lvs el pcs F' hml hm N' hP
end
end Mine
-- part E8
open PySem PySem.W PyProof.Rows PySem.Calls
namespace Mine
theorem offE8 : True := by
  w_top off
  trivial
set_option maxRecDepth 100000
set_option maxHeartbeats 400000
theorem fillE8 (w : World) (h : Heap) : (Challenge.rw_pg0058_01.row.prog = Challenge.rw_pg0058_01.row.prog ∧ ((hd.heap_39 w.params).In h → True)) := by
  k_fill
  exact ⟨rfl, fun _ => trivial⟩
def datOf (c : Nat) : Dat := .tuple [.str (Str.ofString ""), .str (pic c)]
theorem pic_ok (c : Nat) : PyData.strOk (pic c) = true := by
  have h1 : c % 128 < 128 := Nat.mod_lt _ (by decide)
  unfold PyData.strOk pic
  dsimp only
  rw [List.all_toArray]
  split <;> split <;> (try split) <;> simp <;> omega
theorem dat_ok (cs : List Nat) : ∀ d ∈ cs.map datOf, kqdOk 8 d = true := by
  intro d hd
  obtain ⟨c, _, rfl⟩ := List.mem_map.mp hd
  simp only [datOf, kqdOk, List.all_cons, List.all_nil, pic_ok, Bool.and_true]
  decide +kernel
theorem Pieces.dat {news : List (Addr × Obj)} {vs : List Value} {cs : List Nat} (h : Pieces news vs cs) : DatAll news vs (cs.map datOf) := by
  induction h with
  | nil => exact .nil
  | cons hm _ ih => exact .cons (.tuple (vs := [_, _]) hm (.cons (.str _ _) (.cons (.str _ _) .nil))) ih
section
variable {w : World} {mean : ExcName → Option Value} {mg mb : Str → Option Value} {dp un : Nat} {gd : Option (List Code)} {cn : Str} {a : Addr} {ccd : Value} {outer : List Env} {A₀ : Around} {base h₀ : Heap} {L : Addr} {m : Str → Option Value} {news : List (Addr × Obj)} {s : Shared} {E : Value → Shared → Prop} {ci cw cc : Addr} {Q : Flow → Shared → Prop}
local macro_rules | `(tactic| k_mem) => `(tactic| first | assumption | exact List.mem_cons_self | (refine List.mem_cons_of_mem _ ?_; k_mem))
local macro_rules | `(tactic| k_all) => `(tactic| first | assumption | exact all_lt (by assumption))
local macro_rules | `(tactic| walk_at "eval Name") => `(tactic| (k_here; k_dflt (refine' nameX_L ?F ?v ?_ ?a ?b; (case F => k_asm); (case a => rfl); (case b => rfl); (case v => assumption); k_whole)))
theorem ne_same {prog : Program} {A : Around} {x y : Addr} {ox oy : Obj} {ka kb : Nat} {vs us : List Value} {st : List Nat} {pcs : List (Addr × Obj)} {Q : Value → Shared → Prop} (N : News h₀ L s.heap news) (ma : (x, ox) ∈ news) (ca : ox.cls = .type "list") (da : ox.data = .seq vs.toArray ka) (mb : (y, oy) ∈ news) (cb : oy.cls = .type "list") (db : oy.data = .seq us.toArray kb)
    (Da : Pieces pcs vs st) (Db : Pieces pcs us st) (hs : ∀ p ∈ pcs, p ∈ news) (hu : A.units + 64 < cLine) (h : Q (.bool false) s) : wpAny (model prog w) A (compareOp .NotEq (.ref x) (.ref y)) Q E s := by
  refine kqd_ne N ma ca da Da.dat hs mb cb db Db.dat hs (dat_ok _) (dat_ok _) hu ?_
  simpa using h
theorem eq_same {prog : Program} {A : Around} {x y : Addr} {ox oy : Obj} {ka kb : Nat} {vs us : List Value} {st : List Nat} {pcs : List (Addr × Obj)} {Q : Value → Shared → Prop} (N : News h₀ L s.heap news) (ma : (x, ox) ∈ news) (ca : ox.cls = .type "list") (da : ox.data = .seq vs.toArray ka) (mb : (y, oy) ∈ news) (cb : oy.cls = .type "list") (db : oy.data = .seq us.toArray kb)
    (Da : Pieces pcs vs st) (Db : Pieces pcs us st) (hs : ∀ p ∈ pcs, p ∈ news) (hu : A.units + 64 < cLine) (h : Q (.bool true) s) : wpAny (model prog w) A (compareOp .Eq (.ref x) (.ref y)) Q E s := by
  refine kqd_eq N ma ca da Da.dat hs mb cb db Db.dat hs (dat_ok _) (dat_ok _) hu ?_
  simpa using h
local macro_rules | `(tactic| walk_at "compareOp NotEq ref ref") => `(tactic| (k_dflt (refine' ne_same ?N ?ma ?ca ?da ?mb ?cb ?db ?Da ?Db ?sa ?hu ?_; (case N => k_asm); (case ma => assumption); (case ca => exact rfl); (case da => exact rfl); (case mb => assumption); (case cb => exact rfl); (case db => exact rfl); (case Da => assumption); (case Db => assumption); (case sa => assumption); (case hu => ktr_units))))
theorem seg13 {O Lf G W : Addr} {ow : Obj} {el eg nw : Nat} {vs₁ lvs gvs wvs : List Value} {ws gs : List Int} {st : List Nat} {pcs : List (Addr × Obj)}
    (F : Fr h₀ L s.heap m) (X : (hd.heap_39 w.params).In h₀) (N : News h₀ L s.heap news) (T : Top hd.view_39 (looseW hd.view_39 [Str.ofString "_Accumulator"]) mean mg mb h₀)
    (hdp : dp + 20 < recursionLimit) (hun : un + 200 < cLine)
    (mo : m (Str.ofString "once") = some (.ref O)) (ml : m (Str.ofString "left") = some (.ref Lf)) (mgd : m (Str.ofString "good") = some (.ref G))
    (hO : (O, LCg.lst vs₁) ∈ news) (hLf : (Lf, listOf lvs.toArray el) ∈ news) (hG : (G, listOf gvs.toArray eg) ∈ news) (hgs : IntsAre gvs gs) (hgl : gs.length ≤ 1000)
    (hcw : (cw, ow) ∈ news) (how : ow.data = .cell (some (.ref W))) (hW : (W, listOf wvs.toArray nw) ∈ news) (hws : IntsAre wvs ws)
    (hsub : ∀ p ∈ pcs, p ∈ news) (hP₁ : Pieces pcs vs₁ st) (hP₂ : Pieces pcs lvs st) (hlen : (gs.length : Int) = max 0 ws.sum)
    (hret : ∀ (h' : Heap) (tk' : Nat), Fr h₀ L h' m → News h₀ L h' news →
      wpAny (model Challenge.rw_pg0058_01.row.prog w) (ktrTop dp un gd cn lawScope L a ccd (lawCells ci cw cc) outer) (execs (lawBody.drop 14) (envX cn lawScope L a ccd (lawCells ci cw cc))) Q E { s with heap := h', toks := tk' }) :
    wpAny (model Challenge.rw_pg0058_01.row.prog w) (ktrTop dp un gd cn lawScope L a ccd (lawCells ci cw cc) outer) (execs (lawBody.drop 13) (envX cn lawScope L a ccd (lawCells ci cw cc))) Q E s := by
  rw [show lawBody.drop 13 = _ :: lawBody.drop 14 from rfl]
  refine wpAny_execs_cons ?_
  have hgl2 := hgs.length
  refine wpAny_mono (Q := fun f s' => Stop (f = .next ∧ ∃ h' tk', s' = { s with heap := h', toks := tk' } ∧ Fr h₀ L h' m ∧ News h₀ L h' news)) ?_ ?_ (fun _ _ z => z)
  rotate_left
  · rintro f s' ⟨rfl, h', tk', rfl, F', N'⟩
    exact hret h' tk' F' N'
  k_steps
  refine len_list (News.isList N hG) (by rw [List.size_toArray]; omega) ?_
  rw [List.size_toArray, hgl2]
  k_steps
  refine sumK (s := { s with toks := _ }) rfl F N (News.isList N hW) hws fun h₁ tk₁ t₁ F₁ N₁ => ?_
  k_steps
  · exfalso
    rename (gs.length : Int) ≠ _ => hne
    apply hne
    rw [hlen]
    split <;> omega
  · exact ⟨rfl, _, _, rfl, by assumption, by assumption⟩
end
end Mine
-- part E9
open PySem PySem.W PyProof.Rows PySem.Calls
namespace Mine
theorem offE9 : True := by
  w_top off
  trivial
local macro_rules | `(tactic| walk_at "no such place") => `(tactic| skip)
local macro_rules | `(tactic| walk_at "no such place") => `(tactic| skip)
local macro_rules | `(tactic| walk_at "no such place") => `(tactic| skip)
local macro_rules | `(tactic| walk_at "no such place") => `(tactic| skip)
local macro_rules | `(tactic| walk_at "no such place") => `(tactic| skip)
local macro_rules | `(tactic| walk_at "no such place") => `(tactic| skip)
local macro_rules | `(tactic| walk_at "no such place") => `(tactic| skip)
local macro_rules | `(tactic| walk_at "no such place") => `(tactic| skip)
set_option maxRecDepth 100000
set_option maxHeartbeats 400000
theorem fillE9 (w : World) (h : Heap) : (Challenge.rw_pg0058_01.row.prog = Challenge.rw_pg0058_01.row.prog ∧ ((hd.heap_39 w.params).In h → True)) := by
  k_fill
  exact ⟨rfl, fun _ => trivial⟩
abbrev goodScope : Scope := { kind := .function, names := [(Str.ofString ".0", .local), (Str.ofString "start", .local), (Str.ofString "_law_piece", .globalImplicit), (Str.ofString "codes", .free)], isGenerator := false, isCoroutine := false, more := [] }
theorem good_clos (cn : Str) (L a : Addr) (ccd : Value) (ci cw cc : Addr) : closureFor goodScope (envX cn lawScope L a ccd (lawCells ci cw cc)) = pure [(Str.ofString "codes", cc)] := by
  with_unfolding_all rfl
abbrev goodCl (cc : Addr) : List (Str × Addr) := [(Str.ofString "codes", cc)]
section
variable {w : World} {mean : ExcName → Option Value} {mg mb : Str → Option Value} {dp un : Nat} {gd : Option (List Code)} {cn : Str} {a : Addr} {ccd : Value} {outer : List Env} {A₀ : Around} {base h₀ : Heap} {L : Addr} {m : Str → Option Value} {news : List (Addr × Obj)} {s : Shared} {E : Value → Shared → Prop} {ci cw cc : Addr}
local macro_rules | `(tactic| k_mem) => `(tactic| first | assumption | exact List.mem_cons_self | (refine List.mem_cons_of_mem _ ?_; k_mem))
local macro_rules | `(tactic| walk_at "eval Name") => `(tactic| (k_here; (with_reducible show wpAny _ _ (eval (Expr.Name _ _) (compEnvC _ _ _ _)) _ _ _); k_dflt (refine' name_comp ?a ?b ?c ?d ?_ ?e; (case a => rfl); (case b => rfl); (case c => assumption); (case d => assumption); (case e => decide); k_whole)))
theorem elt_piece {C Cd : Addr} {oc : Obj} {cvs : List Value} {ks : List Nat} {nc k : Nat} {tj : Tok} {m₂ : Str → Option Value} {Q : Value → Shared → Prop} {p1 p2 p3 p4 p5 : Pos}
    (B : Below A₀ base outer h₀) (F : Fr h₀ L s.heap m) (X : (hd.heap_39 w.params).In h₀) (N : News h₀ L s.heap news) (T : Top hd.view_39 (looseW hd.view_39 [Str.ofString "_Accumulator"]) mean mg mb h₀) (hdp : dp + 20 < recursionLimit) (hun : un + 200 < cLine)
    (hC : s.heap.Ns C m₂) (hj : m₂ (Str.ofString "start") = some (.int (k : Nat) tj)) (hcc : (cc, oc) ∈ news) (hoc : oc.data = .cell (some (.ref Cd))) (hCd : (Cd, listOf cvs.toArray nc) ∈ news) (hcs : IntsAre cvs (ks.map Int.ofNat)) (hlen : ks.length ≤ 1000) (hk : k < ks.length)
    (hok : 32 ≤ ks.getD k 0 ∧ ks.getD k 0 ≤ 256 ∧ ks.getD k 0 ≠ 127)
    (hret : ∀ (D : Addr) (t u : Tok) (h' : Heap) (tk' : Nat), Fr h₀ L h' m → News h₀ L h' ((D, tupObj (ks.getD k 0) t u) :: news) → (∀ p ∈ news, p.1 < D) → Q (.ref D) { s with heap := h', toks := tk' }) :
    wpAny (model Challenge.rw_pg0058_01.row.prog w) (ktrTop dp un gd cn lawScope L a ccd (lawCells ci cw cc) outer)
      (eval (.Call (.Name (Str.ofString "_law_piece") p1) [.Subscript (.Name (Str.ofString "codes") p2) (.Name (Str.ofString "start") p3) p4] [] p5) (compEnvC goodScope (goodCl cc) C (envX cn lawScope L a ccd (lawCells ci cw cc)))) Q E s := by
  have hcl := hcs.length
  k_steps
  have hcode : (List.map Int.ofNat ks).getD (k : Int).toNat 0 = ((ks.getD k 0 : Nat) : Int) := by
    rw [Int.toNat_natCast]
    simp only [List.getD_eq_getElem?_getD, List.getElem?_map]
    cases ks[k]? <;> rfl
  rw [hcode]
  exact piece_c B F X N T rfl hok (by omega) (by omega) hret
theorem eval_goods {G Cd : Addr} {oc : Obj} {cvs gvs : List Value} {ks gs : List Nat} {nc eg : Nat} {Q : Value → Shared → Prop} {p1 p2 p3 p4 p5 p6 p7 p8 : Pos}
    (B : Below A₀ base outer h₀) (F : Fr h₀ L s.heap m) (X : (hd.heap_39 w.params).In h₀) (N : News h₀ L s.heap news) (T : Top hd.view_39 (looseW hd.view_39 [Str.ofString "_Accumulator"]) mean mg mb h₀) (hdp : dp + 20 < recursionLimit) (hun : un + 200 < cLine)
    (mgd : m (Str.ofString "good") = some (.ref G)) (hG : (G, listOf gvs.toArray eg) ∈ news) (hgs : IntsAre gvs (gs.map Int.ofNat)) (hgl : gs.length ≤ 1000)
    (hcc : (cc, oc) ∈ news) (hoc : oc.data = .cell (some (.ref Cd))) (hCd : (Cd, listOf cvs.toArray nc) ∈ news) (hcs : IntsAre cvs (ks.map Int.ofNat)) (hlen : ks.length ≤ 1000)
    (hok : ∀ k ∈ gs, k < ks.length ∧ 32 ≤ ks.getD k 0 ∧ ks.getD k 0 ≤ 256 ∧ ks.getD k 0 ≠ 127)
    (hret : ∀ (D : Addr) (h' : Heap) (tk' : Nat) (pvs : List Value) (pcs : List (Addr × Obj)), Fr h₀ L h' m → News h₀ L h' ((D, LCg.lst pvs) :: (pcs ++ news)) → Pieces pcs pvs (gs.map fun k => ks.getD k 0) → Q (.ref D) { s with heap := h', toks := tk' }) :
    wpAny (model Challenge.rw_pg0058_01.row.prog w) (ktrTop dp un gd cn lawScope L a ccd (lawCells ci cw cc) outer)
      (eval (.ListComp (.Call (.Name (Str.ofString "_law_piece") p1) [.Subscript (.Name (Str.ofString "codes") p2) (.Name (Str.ofString "start") p3) p4] [] p5) [⟨.Name (Str.ofString "start") p6, .Name (Str.ofString "good") p7, [], 0⟩] goodScope p8) (envX cn lawScope L a ccd (lawCells ci cw cc))) Q E s := by
  have hglen := hgs.length
  rw [List.length_map] at hglen
  refine LCg.ListComp_U (h₀ := h₀) (L := L) (m := m) (cl := goodCl cc) F (good_clos ..) (by decide) rfl (by decide) rfl ?_
  refine nameX_L F mgd ?_ rfl rfl
  refine LCg.CompSrc.ledger (its := gvs.toArray) (k := eg) rfl F N hG (by rw [sizeLine_eq, List.size_toArray]; omega) fun g => ?_
  refine comp_rest (fun d ys nw' => ∃ pcs, nw' = pcs ++ news ∧ Pieces pcs ys ((gs.take d).map fun k => ks.getD k 0)) gvs.toArray.size ?_ ?_ gvs.toArray.size 0 [] news (Nat.zero_add _) ⟨[], rfl, .nil⟩
  · rintro d ys nw' v I oI C oC D m₂ h tk E' hd ⟨pcs, rfl, hys⟩ hv hoC hm F' N' off ne
    have hd' : d < gs.length := by rw [List.size_toArray] at hd; omega
    obtain ⟨tv, hx⟩ := hgs.get d ((gs.map Int.ofNat)[d]'(by rw [List.length_map]; exact hd')) (by simp [hd'])
    have hv' : gvs[d]? = some v := by simpa using hv
    rw [hv'] at hx
    obtain rfl := Option.some.inj hx
    have hgd : gs[d]? = some gs[d] := by simp [hd']
    have hmem : gs[d] ∈ gs := List.getElem_mem hd'
    have hsub : ∀ p ∈ news, p ∈ (I, oI) :: (C, oC) :: (D, LCg.lst ys) :: (pcs ++ news) := fun p hp => List.mem_cons_of_mem _ (List.mem_cons_of_mem _ (List.mem_cons_of_mem _ (List.mem_append_right _ hp)))
    refine elt_piece (s := { s with heap := h, toks := tk }) (ks := ks) (k := gs[d]) (tj := tv) B F' X N' T hdp hun (hoC.ns (N' (C, oC) (by simp)).1) (hm.trans (by simp)) (hsub _ hcc) hoc (hsub _ hCd) hcs hlen (hok _ hmem).1 (hok _ hmem).2 ?_
    intro Dn t u h' tk' F'' N'' l
    refine ⟨h', tk', (Dn, tupObj (ks.getD gs[d] 0) t u) :: (pcs ++ news), rfl, F'', ?_, ?_, ?_, (Dn, tupObj (ks.getD gs[d] 0) t u) :: pcs, rfl, ?_⟩
    · refine cb_drop N'' fun p hp => ?_
      simp only [List.mem_cons, List.mem_append] at hp ⊢
      grind
    · refine ⟨⟨Nat.ne_of_gt (l (I, oI) (by simp)), Nat.ne_of_gt (l (C, oC) (by simp)), Nat.ne_of_gt (l (D, LCg.lst ys) (by simp))⟩, off⟩
    · exact .inr ⟨_, List.mem_cons_of_mem _ (List.mem_append_right _ hG), rfl, _, rfl⟩
    · rw [List.take_add_one, hgd, List.map_append]
      exact (hys.mono fun p hp => List.mem_cons_of_mem _ hp).snoc List.mem_cons_self
  · rintro ys nw' ⟨pcs, rfl, hys⟩
    intro D h tk F' N' o1
    refine hret D h tk ys pcs F' N' ?_
    rw [List.size_toArray, hglen, List.take_length] at hys
    exact hys
end
end Mine
-- part E10
open PySem PySem.W PyProof.Rows PySem.Calls
namespace Mine
theorem offE10 : True := by
  w_top off
  trivial
set_option maxRecDepth 100000
set_option maxHeartbeats 400000
theorem fillE10 (w : World) (h : Heap) : (Challenge.rw_pg0058_01.row.prog = Challenge.rw_pg0058_01.row.prog ∧ ((hd.heap_39 w.params).In h → True)) := by
  k_fill
  exact ⟨rfl, fun _ => trivial⟩
theorem Pieces.append {news : List (Addr × Obj)} {vs us : List Value} {cs ds : List Nat} (h : Pieces news vs cs) (h' : Pieces news us ds) : Pieces news (vs ++ us) (cs ++ ds) := by
  induction h with
  | nil => exact h'
  | cons hm _ ih => exact .cons hm ih
section
variable {w : World} {mean : ExcName → Option Value} {mg mb : Str → Option Value} {dp un : Nat} {gd : Option (List Code)} {cn : Str} {a : Addr} {ccd : Value} {outer : List Env} {A₀ : Around} {base h₀ : Heap} {L : Addr} {m : Str → Option Value} {news : List (Addr × Obj)} {s : Shared} {E : Value → Shared → Prop} {ci cw cc : Addr} {Q : Flow → Shared → Prop}
theorem seg14 {O Tw G Cd : Addr} {oc : Obj} {eg nc : Nat} {vs₁ vs₂ gvs cvs : List Value} {ks st₁ gs : List Nat} {pcs : List (Addr × Obj)}
    (B : Below A₀ base outer h₀) (F : Fr h₀ L s.heap m) (X : (hd.heap_39 w.params).In h₀) (N : News h₀ L s.heap news) (T : Top hd.view_39 (looseW hd.view_39 [Str.ofString "_Accumulator"]) mean mg mb h₀)
    (hdp : dp + 20 < recursionLimit) (hun : un + 200 < cLine)
    (mo : m (Str.ofString "once") = some (.ref O)) (mt : m (Str.ofString "twice") = some (.ref Tw)) (mgd : m (Str.ofString "good") = some (.ref G))
    (hO : (O, LCg.lst vs₁) ∈ news) (hTw : (Tw, LCg.lst vs₂) ∈ news) (hG : (G, listOf gvs.toArray eg) ∈ news) (hgs : IntsAre gvs (gs.map Int.ofNat)) (hgl : gs.length ≤ 1000) (hvl : vs₁.length ≤ 1000)
    (hcc : (cc, oc) ∈ news) (hoc : oc.data = .cell (some (.ref Cd))) (hCd : (Cd, listOf cvs.toArray nc) ∈ news) (hcs : IntsAre cvs (ks.map Int.ofNat)) (hlen : ks.length ≤ 1000)
    (hok : ∀ k ∈ gs, k < ks.length ∧ 32 ≤ ks.getD k 0 ∧ ks.getD k 0 ≤ 256 ∧ ks.getD k 0 ≠ 127)
    (hsub : ∀ p ∈ pcs, p ∈ news) (hP₁ : Pieces pcs vs₁ st₁) (hP₂ : Pieces pcs vs₂ ((gs.map fun k => ks.getD k 0) ++ st₁))
    (hret : ∀ (h' : Heap) (tk' : Nat), Fr h₀ L h' m → Q (.ret (.bool true)) { s with heap := h', toks := tk' }) :
    wpAny (model Challenge.rw_pg0058_01.row.prog w) (ktrTop dp un gd cn lawScope L a ccd (lawCells ci cw cc) outer) (execs (lawBody.drop 14) (envX cn lawScope L a ccd (lawCells ci cw cc))) Q E s := by
  rw [show lawBody.drop 14 = [_] from rfl]
  refine wpAny_execs_cons (wpAny_Return_some (wpAny_Compare1 (nameX_L F mt (wpAny_BinOp ?_) rfl rfl)))
  refine eval_goods B F X N T hdp hun mgd hG hgs hgl hcc hoc hCd hcs hlen hok fun D h₁ tk₁ pvs pcs₁ F₁ N₁ hpv => ?_
  refine nameX_L F₁ mo ?_ rfl rfl
  have hsub₁ : ∀ p ∈ news, p ∈ (D, LCg.lst pvs) :: (pcs₁ ++ news) := fun p hp => List.mem_cons_of_mem _ (List.mem_append_right _ hp)
  have hpl := hpv.length
  rw [List.length_map] at hpl
  refine kmk_add_lit F₁ N₁ (its := pvs.toArray) (its2 := vs₁.toArray) ⟨_, (N₁ (D, LCg.lst pvs) List.mem_cons_self).1, rfl, _, rfl⟩ ⟨_, (N₁ _ (hsub₁ _ hO)).1, rfl, _, rfl⟩ rfl ?_ (by rw [sizeLine_eq]; simp only [List.toList_toArray]; omega)
  intro R h₂ F₂ N₂ l₂
  simp only [List.toList_toArray] at N₂
  refine eq_same (pcs := pcs₁ ++ pcs) (vs := vs₂) (us := pvs ++ vs₁) N₂ (List.mem_cons_of_mem _ (hsub₁ _ hTw)) rfl rfl List.mem_cons_self rfl rfl (hP₂.mono fun p hp => List.mem_append_right _ hp)
    ((hpv.mono fun p hp => List.mem_append_left _ hp).append (hP₁.mono fun p hp => List.mem_append_right _ hp)) ?_ ?_ ?_
  · intro p hp
    rcases List.mem_append.mp hp with hp | hp
    · exact List.mem_cons_of_mem _ (List.mem_cons_of_mem _ (List.mem_append_left _ hp))
    · exact List.mem_cons_of_mem _ (hsub₁ _ (hsub p hp))
  · show un + 64 < cLine
    omega
  · exact hret h₂ _ F₂
end
end Mine
-- part F0
open PySem PySem.W PyProof.Rows PySem.Calls
namespace Mine
theorem offF0 : True := by
  w_top off
  trivial
local macro_rules | `(tactic| walk_at "no such place") => `(tactic| skip)
local macro_rules | `(tactic| walk_at "no such place") => `(tactic| skip)
local macro_rules | `(tactic| walk_at "no such place") => `(tactic| skip)
local macro_rules | `(tactic| walk_at "no such place") => `(tactic| skip)
local macro_rules | `(tactic| walk_at "no such place") => `(tactic| skip)
local macro_rules | `(tactic| walk_at "no such place") => `(tactic| skip)
local macro_rules | `(tactic| walk_at "no such place") => `(tactic| skip)
local macro_rules | `(tactic| walk_at "no such place") => `(tactic| skip)
local macro_rules | `(tactic| walk_at "no such place") => `(tactic| skip)
local macro_rules | `(tactic| walk_at "no such place") => `(tactic| skip)
local macro_rules | `(tactic| walk_at "no such place") => `(tactic| skip)
local macro_rules | `(tactic| walk_at "no such place") => `(tactic| skip)
local macro_rules | `(tactic| walk_at "no such place") => `(tactic| skip)
local macro_rules | `(tactic| walk_at "no such place") => `(tactic| skip)
local macro_rules | `(tactic| walk_at "no such place") => `(tactic| skip)
local macro_rules | `(tactic| walk_at "no such place") => `(tactic| skip)
set_option maxRecDepth 100000
set_option maxHeartbeats 800000
theorem fillF0 (w : World) (h : Heap) : (Challenge.rw_pg0058_01.row.prog = Challenge.rw_pg0058_01.row.prog ∧ ((hd.heap_39 w.params).In h → True)) := by
  k_fill
  exact ⟨rfl, fun _ => trivial⟩
abbrev numScope : Scope := { kind := .function, names := [(Str.ofString ".0", .local), (Str.ofString "n", .local)], isGenerator := false, isCoroutine := false, more := [] }
section
variable {w : World} {mean : ExcName → Option Value} {mg mb : Str → Option Value} {dp un : Nat} {gd : Option (List Code)} {cn : Str} {a : Addr} {ccd : Value} {outer : List Env} {A₀ : Around} {base h₀ : Heap} {L : Addr} {m : Str → Option Value} {news : List (Addr × Obj)} {s : Shared} {E : Value → Shared → Prop} {ci cw cc : Addr}
local macro_rules | `(tactic| k_mem) => `(tactic| first | assumption | exact List.mem_cons_self | (refine List.mem_cons_of_mem _ ?_; k_mem))
local macro_rules | `(tactic| walk_at "eval Name") => `(tactic| (k_here; k_dflt (refine' nameX_L ?F ?v ?_ ?a ?b; (case F => k_asm); (case a => rfl); (case b => rfl); (case v => assumption); k_whole)))
local macro_rules | `(tactic| walk_at "eval Name") => `(tactic| (k_here; (with_reducible show wpAny _ _ (eval (Expr.Name _ _) (compEnvC _ _ _ _)) _ _ _); k_dflt (refine' name_comp ?a ?b ?c ?d ?_ ?e; (case a => rfl); (case b => rfl); (case c => assumption); (case d => assumption); (case e => decide); k_whole)))
def srcOf (ns : List Int) : List Int := ns.take 7 ++ [(ns.take 60).sum + 1, 3, 4]
theorem eval_src {l : Addr} {vs : List Value} {ns : List Int} {p1 p2 p3 p4 p5 p6 p7 p8 p9 q1 q2 q3 q4 q5 q6 q7 : Pos} {Q : Value → Shared → Prop}
    (F : Fr h₀ L s.heap m) (X : (hd.heap_39 w.params).In h₀) (N : News h₀ L s.heap news) (T : Top hd.view_39 (looseW hd.view_39 [Str.ofString "_Accumulator"]) mean mg mb h₀)
    (ms : m (Str.ofString "script") = some (.ref l)) (hl : h₀.IsList l vs.toArray) (hi : IntsAre vs ns) (hn : ns.length ≤ 63)
    (hret : ∀ (D : Addr) (h' : Heap) (tk' : Nat) (us : List Value), Fr h₀ L h' m → News h₀ L h' ((D, listOf us.toArray 0) :: news) → (∀ p ∈ news, p.1 < D) → IntsAre us (srcOf ns) → Q (.ref D) { s with heap := h', toks := tk' }) :
    wpAny (model Challenge.rw_pg0058_01.row.prog w) (ktrTop dp un gd cn lawScope L a ccd (lawCells ci cw cc) outer)
      (eval (.BinOp (.Subscript (.Name (Str.ofString "script") p1) (.Slice none (some (.Constant (.int 7) 0 p2)) none p3) p4) .Add
        (.List [.BinOp (.Call (.Name (Str.ofString "sum") p5) [.Subscript (.Name (Str.ofString "script") p6) (.Slice none (some (.Constant (.int 60) 0 p7)) none p8) p9] [] q1) .Add (.Constant (.int 1) 0 q2) q3, .Constant (.int 3) 0 q4, .Constant (.int 4) 0 q5] q6) q7) (envX cn lawScope L a ccd (lawCells ci cw cc))) Q E s := by
  k_steps
  rename _ ∧ _ ∧ _ ∧ AllLt _ _ => l9
  refine hret _ _ _ _ (by assumption) (cb_drop (by assumption) ?_) (allLt_out l9.2.2.2) (by assumption)
  intro p hp
  simp only [List.mem_cons] at hp ⊢
  grind
theorem elt_mod {C : Addr} {n : Int} {tn : Tok} {m₂ : Str → Option Value} {Q : Value → Shared → Prop}
    (F : Fr h₀ L s.heap m) (X : (hd.heap_39 w.params).In h₀) (N : News h₀ L s.heap news) (T : Top hd.view_39 (looseW hd.view_39 [Str.ofString "_Accumulator"]) mean mg mb h₀)
    (hC : s.heap.Ns C m₂) (hj : m₂ (Str.ofString "n") = some (.int n tn))
    (hret : ∀ (t : Tok) (tk' : Nat), Q (.int (n % 1000000000) t) { s with toks := tk' }) :
    wpAny (model Challenge.rw_pg0058_01.row.prog w) (ktrTop dp un gd cn lawScope L a ccd (lawCells ci cw cc) outer)
      (eval (.BinOp (.Name (Str.ofString "n") ⟨85, 15, 85, 16⟩) .Mod (.BinOp (.Constant (.int 10) 0 ⟨85, 19, 85, 21⟩) .Pow (.Constant (.int 9) 0 ⟨85, 25, 85, 26⟩) ⟨85, 19, 85, 26⟩) ⟨85, 15, 85, 26⟩) (compEnvC numScope [] C (envX cn lawScope L a ccd (lawCells ci cw cc)))) Q E s := by
  k_steps
  have e : n.fmod ((10 : Int) ^ Int.toNat 9) = n % 1000000000 := by
    rw [show ((10 : Int) ^ Int.toNat 9) = 1000000000 from rfl]
    exact Int.fmod_eq_emod_of_nonneg _ (by decide)
  rw [e]
  exact hret _ _
theorem elt_code {C : Addr} {n : Int} {tn : Tok} {m₂ : Str → Option Value} {scope : Scope} {p1 p2 p3 : Pos} {Q : Value → Shared → Prop} (hsc : scope = { kind := .function, names := [(Str.ofString ".0", .local), (Str.ofString "n", .local), (Str.ofString "_law_code", .globalImplicit)], isGenerator := false, isCoroutine := false, more := [] })
    (B : Below A₀ base outer h₀) (F : Fr h₀ L s.heap m) (X : (hd.heap_39 w.params).In h₀) (N : News h₀ L s.heap news) (T : Top hd.view_39 (looseW hd.view_39 [Str.ofString "_Accumulator"]) mean mg mb h₀) (hdp : dp + 20 < recursionLimit) (hun : un + 200 < cLine)
    (hC : s.heap.Ns C m₂) (hj : m₂ (Str.ofString "n") = some (.int n tn)) (hn : 0 ≤ n ∧ n < 1000000000)
    (hret : ∀ (t : Tok) (h' : Heap) (tk' : Nat), Fr h₀ L h' m → News h₀ L h' news → Q (.int (codeOf n : Nat) t) { s with heap := h', toks := tk' }) :
    wpAny (model Challenge.rw_pg0058_01.row.prog w) (ktrTop dp un gd cn lawScope L a ccd (lawCells ci cw cc) outer)
      (eval (.Call (.Name (Str.ofString "_law_code") p1) [.Name (Str.ofString "n") p2] [] p3) (compEnvC scope [] C (envX cn lawScope L a ccd (lawCells ci cw cc)))) Q E s := by
  subst hsc
  k_steps
  exact code_c B F X N T rfl hn (by omega) (by omega) hret
theorem elt_worth {C : Addr} {n : Int} {tn : Tok} {m₂ : Str → Option Value} {scope : Scope} {p1 p2 p3 : Pos} {Q : Value → Shared → Prop} (hsc : scope = { kind := .function, names := [(Str.ofString ".0", .local), (Str.ofString "n", .local), (Str.ofString "_law_worth", .globalImplicit)], isGenerator := false, isCoroutine := false, more := [] })
    (B : Below A₀ base outer h₀) (F : Fr h₀ L s.heap m) (X : (hd.heap_39 w.params).In h₀) (N : News h₀ L s.heap news) (T : Top hd.view_39 (looseW hd.view_39 [Str.ofString "_Accumulator"]) mean mg mb h₀) (hdp : dp + 20 < recursionLimit) (hun : un + 200 < cLine)
    (hC : s.heap.Ns C m₂) (hj : m₂ (Str.ofString "n") = some (.int n tn)) (hn : 0 ≤ n ∧ n < 1000000000)
    (hret : ∀ (t : Tok) (h' : Heap) (tk' : Nat), Fr h₀ L h' m → News h₀ L h' news → Q (.int (worthOf n) t) { s with heap := h', toks := tk' }) :
    wpAny (model Challenge.rw_pg0058_01.row.prog w) (ktrTop dp un gd cn lawScope L a ccd (lawCells ci cw cc) outer)
      (eval (.Call (.Name (Str.ofString "_law_worth") p1) [.Name (Str.ofString "n") p2] [] p3) (compEnvC scope [] C (envX cn lawScope L a ccd (lawCells ci cw cc)))) Q E s := by
  subst hsc
  k_steps
  exact worth_c B F X N T rfl hn (by omega) (by omega) hret
theorem elt_chr {C : Addr} {c : Nat} {tn : Tok} {m₂ : Str → Option Value} {scope : Scope} {p1 p2 p3 : Pos} {Q : Value → Shared → Prop} (hsc : scope = { kind := .function, names := [(Str.ofString ".0", .local), (Str.ofString "code", .local), (Str.ofString "chr", .globalImplicit)], isGenerator := false, isCoroutine := false, more := [] })
    (F : Fr h₀ L s.heap m) (X : (hd.heap_39 w.params).In h₀) (N : News h₀ L s.heap news) (T : Top hd.view_39 (looseW hd.view_39 [Str.ofString "_Accumulator"]) mean mg mb h₀)
    (hC : s.heap.Ns C m₂) (hj : m₂ (Str.ofString "code") = some (.int (c : Nat) tn)) (hc : c ≤ 256)
    (hret : ∀ (t : Tok) (h' : Heap) (tk' : Nat), Fr h₀ L h' m → News h₀ L h' news → Q (.str ⟨#[c]⟩ t) { s with heap := h', toks := tk' }) :
    wpAny (model Challenge.rw_pg0058_01.row.prog w) (ktrTop dp un gd cn lawScope L a ccd (lawCells ci cw cc) outer)
      (eval (.Call (.Name (Str.ofString "chr") p1) [.Name (Str.ofString "code") p2] [] p3) (compEnvC scope [] C (envX cn lawScope L a ccd (lawCells ci cw cc)))) Q E s := by
  subst hsc
  k_steps
  exact hret _ _ _ F N
end
end Mine
-- part F1
open PySem PySem.W PyProof.Rows PySem.Calls
namespace Mine
theorem offF1 : True := by
  w_top off
  trivial
set_option maxRecDepth 100000
set_option maxHeartbeats 800000
theorem ints_get {vs : List Value} {ns : List Int} (h : IntsAre vs ns) {d : Nat} {v : Value} (hv : vs[d]? = some v) : ∃ n t, ns[d]? = some n ∧ v = .int n t := by
  have hd : d < ns.length := by rw [← h.length]; exact (List.getElem?_eq_some_iff.mp hv).1
  obtain ⟨t, hx⟩ := h.get d ns[d] (by simp [hd])
  rw [hv] at hx
  exact ⟨ns[d], t, by simp [hd], Option.some.inj hx⟩
theorem map_take_succ {α β : Type} (f : α → β) (l : List α) (d : Nat) (x : α) (h : l[d]? = some x) : (l.take (d + 1)).map f = (l.take d).map f ++ [f x] := by
  rw [List.take_add_one, h, List.map_append]; rfl
section
variable {w : World} {mean : ExcName → Option Value} {mg mb : Str → Option Value} {dp un : Nat} {gd : Option (List Code)} {cn : Str} {a : Addr} {ccd : Value} {outer : List Env} {A₀ : Around} {base h₀ : Heap} {L : Addr} {m : Str → Option Value} {bs : List (Addr × Obj)} {s : Shared} {E : Value → Shared → Prop} {Q : Flow → Shared → Prop} {ci cw cc : Addr}
def numsOf' (ns : List Int) : List Int := (srcOf ns).map (· % 1000000000)
theorem seg0 {l : Addr} {vs : List Value} {ns : List Int} {news : List (Addr × Obj)}
    (F : Fr h₀ L s.heap m) (X : (hd.heap_39 w.params).In h₀) (N : News h₀ L s.heap news) (T : Top hd.view_39 (looseW hd.view_39 [Str.ofString "_Accumulator"]) mean mg mb h₀)
    (ms : m (Str.ofString "script") = some (.ref l)) (hl : h₀.IsList l vs.toArray) (hi : IntsAre vs ns) (hn : ns.length ≤ 63)
    (hret : ∀ (D : Addr) (h' : Heap) (tk' : Nat) (us : List Value) (D₀ : Addr) (o₀ : Obj), Fr h₀ L h' (fun z => if z = Str.ofString "numbers" then some (.ref D) else m z) → News h₀ L h' ((D, LCg.lst us) :: (D₀, o₀) :: news) → (∀ p ∈ (D₀, o₀) :: news, p.1 ≠ D) → (∀ p ∈ news, p.1 ≠ D₀) → IntsAre us (numsOf' ns) →
      wpAny (model Challenge.rw_pg0058_01.row.prog w) (ktrTop dp un gd cn lawScope L a ccd (lawCells ci cw cc) outer) (execs (lawBody.drop 1) (envX cn lawScope L a ccd (lawCells ci cw cc))) Q E { s with heap := h', toks := tk' }) :
    wpAny (model Challenge.rw_pg0058_01.row.prog w) (ktrTop dp un gd cn lawScope L a ccd (lawCells ci cw cc) outer) (execs lawBody (envX cn lawScope L a ccd (lawCells ci cw cc))) Q E s := by
  rw [show lawBody = _ :: lawBody.drop 1 from rfl]
  refine wpAny_execs_cons ?_
  refine LCg.Assign_ListComp_U (h₀ := h₀) (L := L) (m := m) (cl := []) F rfl (by with_unfolding_all rfl) (by with_unfolding_all rfl) (by decide) rfl (by decide) rfl rfl rfl ?_
  refine eval_src F X N T ms hl hi hn fun D₀ h₁ tk₁ us F₁ N₁ l₁ hus => ?_
  have hul := hus.length
  have hsl : (srcOf ns).length ≤ 10 := by unfold srcOf; simp; omega
  refine LCg.CompSrc.ledger (its := us.toArray) (k := 0) rfl F₁ N₁ List.mem_cons_self (by rw [sizeLine_eq, List.size_toArray]; omega) fun g => ?_
  refine comp_rest (fun d ys nw' => nw' = (D₀, listOf us.toArray 0) :: news ∧ IntsAre ys (((srcOf ns).take d).map (· % 1000000000))) us.toArray.size ?_ ?_ us.toArray.size 0 [] _ (Nat.zero_add _) ⟨rfl, .nil⟩
  · rintro d ys nw' v I oI C oC D m₂ h tk E' hd ⟨rfl, hys⟩ hv hoC hm F' N' off ne
    obtain ⟨n, tn, hnd, rfl⟩ := ints_get hus (by simpa using hv)
    refine elt_mod (s := { s with heap := h, toks := tk }) F' X N' T (hoC.ns (N' (C, oC) (by simp)).1) hm fun t tk' => ?_
    refine ⟨h, tk', _, rfl, F', N', off, .inr ⟨_, List.mem_cons_self, rfl, _, rfl⟩, rfl, ?_⟩
    rw [map_take_succ _ _ _ _ hnd]
    exact ints_snoc hys _ t
  · rintro ys nw' ⟨rfl, hys⟩
    intro D h tk F' N' o1
    rw [List.size_toArray, hul, List.take_length] at hys
    exact hret D h tk ys D₀ _ F' N' (off1_mem o1) (fun p hp => Nat.ne_of_lt (l₁ p hp)) hys
theorem seg1 {Nd : Addr} {us : List Value} {nums : List Int} {oc : Obj} {v₀ : Option Value} {bs : List (Addr × Obj)}
    (B : Below A₀ base outer h₀) (F : Fr h₀ L s.heap m) (X : (hd.heap_39 w.params).In h₀) (N : News h₀ L s.heap ((cc, oc) :: bs)) (T : Top hd.view_39 (looseW hd.view_39 [Str.ofString "_Accumulator"]) mean mg mb h₀) (hdp : dp + 20 < recursionLimit) (hun : un + 200 < cLine)
    (mn : m (Str.ofString "numbers") = some (.ref Nd)) (hNd : (Nd, LCg.lst us) ∈ bs) (hus : IntsAre us nums) (hnl : nums.length ≤ 100) (hnb : ∀ n ∈ nums, 0 ≤ n ∧ n < 1000000000) (hoc : oc.data = .cell v₀) (hoff : ∀ p ∈ bs, p.1 ≠ cc)
    (hret : ∀ (Cd : Addr) (oc' : Obj) (h' : Heap) (tk' : Nat) (cvs : List Value), Fr h₀ L h' m → News h₀ L h' ((Cd, LCg.lst cvs) :: (cc, oc') :: bs) → oc'.data = .cell (some (.ref Cd)) → (∀ p ∈ (cc, oc) :: bs, p.1 ≠ Cd) → IntsAre cvs ((nums.map codeOf).map Int.ofNat) →
      wpAny (model Challenge.rw_pg0058_01.row.prog w) (ktrTop dp un gd cn lawScope L a ccd (lawCells ci cw cc) outer) (execs (lawBody.drop 2) (envX cn lawScope L a ccd (lawCells ci cw cc))) Q E { s with heap := h', toks := tk' }) :
    wpAny (model Challenge.rw_pg0058_01.row.prog w) (ktrTop dp un gd cn lawScope L a ccd (lawCells ci cw cc) outer) (execs (lawBody.drop 1) (envX cn lawScope L a ccd (lawCells ci cw cc))) Q E s := by
  rw [show lawBody.drop 1 = _ :: lawBody.drop 2 from rfl]
  have hul := hus.length
  refine wpAny_execs_cons (wpAny_Assign_Name ?_ (by with_unfolding_all rfl))
  refine LCg.ListComp_U (h₀ := h₀) (L := L) (m := m) (cl := []) F (by with_unfolding_all rfl) (by decide) rfl (by decide) rfl ?_
  refine nameX_L F mn ?_ rfl rfl
  refine LCg.CompSrc.ledger (its := us.toArray) (k := us.length) rfl F N (List.mem_cons_of_mem _ hNd) (by rw [sizeLine_eq, List.size_toArray]; omega) fun g => ?_
  refine comp_rest (fun d ys nw' => nw' = (cc, oc) :: bs ∧ IntsAre ys ((nums.take d).map fun n => Int.ofNat (codeOf n))) us.toArray.size ?_ ?_ us.toArray.size 0 [] _ (Nat.zero_add _) ⟨rfl, .nil⟩
  · rintro d ys nw' v I oI C oC D m₂ h tk E' hd ⟨rfl, hys⟩ hv hoC hm F' N' off ne
    obtain ⟨n, tn, hnd, rfl⟩ := ints_get hus (by simpa using hv)
    refine elt_code (s := { s with heap := h, toks := tk }) rfl B F' X N' T hdp hun (hoC.ns (N' (C, oC) (by simp)).1) hm (hnb n (List.mem_of_getElem? hnd)) fun t h' tk' F'' N'' => ?_
    refine ⟨h', tk', _, rfl, F'', N'', off, .inr ⟨_, List.mem_cons_of_mem _ hNd, rfl, _, rfl⟩, rfl, ?_⟩
    rw [map_take_succ _ _ _ _ hnd]
    exact ints_snoc hys _ t
  · rintro ys nw' ⟨rfl, hys⟩
    intro D h tk F' N' o1
    rw [List.size_toArray, hul, List.take_length] at hys
    have hD := off1_mem o1
    refine storeX_C (s := { s with heap := h, toks := tk }) F' (cb_drop N' swap2) rfl (UpdF.head fun p hp => ?_) hoc (fun h₂ oc₂ F₂ N₂ hoc₂ => ?_) rfl rfl
    · rcases List.mem_cons.mp hp with rfl | hp
      · exact fun e => hD (cc, oc) List.mem_cons_self e.symm
      · exact hoff p hp
    · refine hret D oc₂ h₂ tk ys F₂ (cb_drop N₂ swap2) hoc₂ hD ?_
      rw [List.map_map]
      exact hys
end
end Mine
-- part F2
open PySem PySem.W PyProof.Rows PySem.Calls
namespace Mine
theorem offF2 : True := by
  w_top off
  trivial
set_option maxRecDepth 100000
set_option maxHeartbeats 800000
theorem fillF2 (w : World) (h : Heap) : (Challenge.rw_pg0058_01.row.prog = Challenge.rw_pg0058_01.row.prog ∧ ((hd.heap_39 w.params).In h → True)) := by
  k_fill
  exact ⟨rfl, fun _ => trivial⟩
theorem Keys.snoc {vs : List Value} {cs : List Nat} (h : Keys vs cs) (c : Nat) (t : Tok) : Keys (vs ++ [.str ⟨#[c]⟩ t]) (cs ++ [c]) := by
  induction h with
  | nil => exact .cons c t .nil
  | cons k u _ ih => exact .cons k u ih
section
variable {w : World} {mean : ExcName → Option Value} {mg mb : Str → Option Value} {dp un : Nat} {gd : Option (List Code)} {cn : Str} {a : Addr} {ccd : Value} {outer : List Env} {A₀ : Around} {base h₀ : Heap} {L : Addr} {m : Str → Option Value} {bs : List (Addr × Obj)} {s : Shared} {E : Value → Shared → Prop} {Q : Flow → Shared → Prop} {ci cw cc : Addr}
local macro_rules | `(tactic| k_mem) => `(tactic| first | assumption | exact List.mem_cons_self | (refine List.mem_cons_of_mem _ ?_; k_mem))
local macro_rules | `(tactic| k_all) => `(tactic| first | assumption | exact all_lt (by assumption))
local macro_rules | `(tactic| walk_at "eval Name") => `(tactic| (k_here; k_dflt (refine' nameX_L ?F ?v ?_ ?a ?b; (case F => k_asm); (case a => rfl); (case b => rfl); (case v => assumption); k_whole)))
theorem seg2 {Nd : Addr} {us : List Value} {nums : List Int} {ow : Obj} {v₀ : Option Value} {bs : List (Addr × Obj)}
    (B : Below A₀ base outer h₀) (F : Fr h₀ L s.heap m) (X : (hd.heap_39 w.params).In h₀) (N : News h₀ L s.heap ((cw, ow) :: bs)) (T : Top hd.view_39 (looseW hd.view_39 [Str.ofString "_Accumulator"]) mean mg mb h₀) (hdp : dp + 20 < recursionLimit) (hun : un + 200 < cLine)
    (mn : m (Str.ofString "numbers") = some (.ref Nd)) (hNd : (Nd, LCg.lst us) ∈ bs) (hus : IntsAre us nums) (hnl : nums.length ≤ 100) (hnb : ∀ n ∈ nums, 0 ≤ n ∧ n < 1000000000) (how : ow.data = .cell v₀) (hoff : ∀ p ∈ bs, p.1 ≠ cw)
    (hret : ∀ (W : Addr) (ow' : Obj) (h' : Heap) (tk' : Nat) (wvs : List Value), Fr h₀ L h' m → News h₀ L h' ((W, LCg.lst wvs) :: (cw, ow') :: bs) → ow'.data = .cell (some (.ref W)) → (∀ p ∈ (cw, ow) :: bs, p.1 ≠ W) → IntsAre wvs (nums.map worthOf) →
      wpAny (model Challenge.rw_pg0058_01.row.prog w) (ktrTop dp un gd cn lawScope L a ccd (lawCells ci cw cc) outer) (execs (lawBody.drop 3) (envX cn lawScope L a ccd (lawCells ci cw cc))) Q E { s with heap := h', toks := tk' }) :
    wpAny (model Challenge.rw_pg0058_01.row.prog w) (ktrTop dp un gd cn lawScope L a ccd (lawCells ci cw cc) outer) (execs (lawBody.drop 2) (envX cn lawScope L a ccd (lawCells ci cw cc))) Q E s := by
  rw [show lawBody.drop 2 = _ :: lawBody.drop 3 from rfl]
  have hul := hus.length
  refine wpAny_execs_cons (wpAny_Assign_Name ?_ (by with_unfolding_all rfl))
  refine LCg.ListComp_U (h₀ := h₀) (L := L) (m := m) (cl := []) F (by with_unfolding_all rfl) (by decide) rfl (by decide) rfl ?_
  refine nameX_L F mn ?_ rfl rfl
  refine LCg.CompSrc.ledger (its := us.toArray) (k := us.length) rfl F N (List.mem_cons_of_mem _ hNd) (by rw [sizeLine_eq, List.size_toArray]; omega) fun g => ?_
  refine comp_rest (fun d ys nw' => nw' = (cw, ow) :: bs ∧ IntsAre ys ((nums.take d).map worthOf)) us.toArray.size ?_ ?_ us.toArray.size 0 [] _ (Nat.zero_add _) ⟨rfl, .nil⟩
  · rintro d ys nw' v I oI C oC D m₂ h tk E' hd ⟨rfl, hys⟩ hv hoC hm F' N' off ne
    obtain ⟨n, tn, hnd, rfl⟩ := ints_get hus (by simpa using hv)
    refine elt_worth (s := { s with heap := h, toks := tk }) rfl B F' X N' T hdp hun (hoC.ns (N' (C, oC) (by simp)).1) hm (hnb n (List.mem_of_getElem? hnd)) fun t h' tk' F'' N'' => ?_
    refine ⟨h', tk', _, rfl, F'', N'', off, .inr ⟨_, List.mem_cons_of_mem _ hNd, rfl, _, rfl⟩, rfl, ?_⟩
    rw [map_take_succ _ _ _ _ hnd]
    exact ints_snoc hys _ t
  · rintro ys nw' ⟨rfl, hys⟩
    intro D h tk F' N' o1
    rw [List.size_toArray, hul, List.take_length] at hys
    have hD := off1_mem o1
    refine storeX_C (s := { s with heap := h, toks := tk }) F' (cb_drop N' swap2) rfl (UpdF.head fun p hp => ?_) how (fun h₂ ow₂ F₂ N₂ how₂ => ?_) rfl rfl
    · rcases List.mem_cons.mp hp with rfl | hp
      · exact fun e => hD (cw, ow) List.mem_cons_self e.symm
      · exact hoff p hp
    · refine hret D ow₂ h₂ tk ys F₂ (cb_drop N₂ swap2) how₂ hD ?_
      exact hys
theorem seg3 {Cd : Addr} {cvs : List Value} {ks : List Nat} {oc : Obj} {bs : List (Addr × Obj)}
    (F : Fr h₀ L s.heap m) (X : (hd.heap_39 w.params).In h₀) (N : News h₀ L s.heap bs) (T : Top hd.view_39 (looseW hd.view_39 [Str.ofString "_Accumulator"]) mean mg mb h₀)
    (hcc : (cc, oc) ∈ bs) (hoc : oc.data = .cell (some (.ref Cd))) (hCd : (Cd, LCg.lst cvs) ∈ bs) (hcs : IntsAre cvs (ks.map Int.ofNat)) (hnl : ks.length ≤ 100) (hle : ∀ k ∈ ks, k ≤ 256)
    (hret : ∀ (kd : Addr) (h' : Heap) (tk' : Nat) (kvs : List Value), Fr h₀ L h' (fun z => if z = Str.ofString "keys" then some (.ref kd) else m z) → News h₀ L h' ((kd, LCg.lst kvs) :: bs) → (∀ p ∈ bs, p.1 ≠ kd) → Keys kvs ks →
      wpAny (model Challenge.rw_pg0058_01.row.prog w) (ktrTop dp un gd cn lawScope L a ccd (lawCells ci cw cc) outer) (execs (lawBody.drop 4) (envX cn lawScope L a ccd (lawCells ci cw cc))) Q E { s with heap := h', toks := tk' }) :
    wpAny (model Challenge.rw_pg0058_01.row.prog w) (ktrTop dp un gd cn lawScope L a ccd (lawCells ci cw cc) outer) (execs (lawBody.drop 3) (envX cn lawScope L a ccd (lawCells ci cw cc))) Q E s := by
  rw [show lawBody.drop 3 = _ :: lawBody.drop 4 from rfl]
  have hul := hcs.length
  rw [List.length_map] at hul
  refine wpAny_execs_cons ?_
  refine LCg.Assign_ListComp_U (h₀ := h₀) (L := L) (m := m) (cl := []) F rfl (by with_unfolding_all rfl) (by with_unfolding_all rfl) (by decide) rfl (by decide) rfl rfl rfl ?_
  refine nameX_C N rfl hcc hoc ?_ rfl rfl
  refine LCg.CompSrc.ledger (its := cvs.toArray) (k := cvs.length) rfl F N hCd (by rw [sizeLine_eq, List.size_toArray]; omega) fun g => ?_
  refine comp_rest (fun d ys nw' => nw' = bs ∧ Keys ys (ks.take d)) cvs.toArray.size ?_ ?_ cvs.toArray.size 0 [] _ (Nat.zero_add _) ⟨rfl, .nil⟩
  · rintro d ys nw' v I oI C oC D m₂ h tk E' hd ⟨rfl, hys⟩ hv hoC hm F' N' off ne
    obtain ⟨n, tn, hnd, rfl⟩ := ints_get hcs (by simpa using hv)
    rw [List.getElem?_map] at hnd
    obtain ⟨c, hc, rfl⟩ := Option.map_eq_some_iff.mp hnd
    refine elt_chr (s := { s with heap := h, toks := tk }) rfl F' X N' T (hoC.ns (N' (C, oC) (by simp)).1) hm (hle c (List.mem_of_getElem? hc)) fun t h' tk' F'' N'' => ?_
    refine ⟨h', tk', _, rfl, F'', N'', off, .inr ⟨_, hCd, rfl, _, rfl⟩, rfl, ?_⟩
    rw [List.take_add_one, hc]
    exact hys.snoc _ t
  · rintro ys nw' ⟨rfl, hys⟩
    intro D h tk F' N' o1
    rw [List.size_toArray, hul, List.take_length] at hys
    exact hret D h tk ys F' N' (off1_mem o1) hys
theorem seg4 {bs : List (Addr × Obj)}
    (F : Fr h₀ L s.heap m) (X : (hd.heap_39 w.params).In h₀) (N : News h₀ L s.heap bs) (T : Top hd.view_39 (looseW hd.view_39 [Str.ofString "_Accumulator"]) mean mg mb h₀)
    (hret : ∀ (G : Addr) (h' : Heap) (tk' ng : Nat), Fr h₀ L h' (fun z => if z = Str.ofString "good" then some (.ref G) else m z) → News h₀ L h' ((G, listOf #[] ng) :: bs) → (∀ p ∈ bs, p.1 < G) →
      wpAny (model Challenge.rw_pg0058_01.row.prog w) (ktrTop dp un gd cn lawScope L a ccd (lawCells ci cw cc) outer) (execs (lawBody.drop 5) (envX cn lawScope L a ccd (lawCells ci cw cc))) Q E { s with heap := h', toks := tk' }) :
    wpAny (model Challenge.rw_pg0058_01.row.prog w) (ktrTop dp un gd cn lawScope L a ccd (lawCells ci cw cc) outer) (execs (lawBody.drop 4) (envX cn lawScope L a ccd (lawCells ci cw cc))) Q E s := by
  rw [show lawBody.drop 4 = _ :: lawBody.drop 5 from rfl]
  refine wpAny_execs_cons ?_
  refine wpAny_mono (Q := fun f s₂ => Stop (f = .next ∧ ∃ G h' tk' el, s₂ = { s with heap := h', toks := tk' } ∧ Fr h₀ L h' (fun y => if y = Str.ofString "good" then some (.ref G) else m y) ∧ News h₀ L h' ((G, listOf #[] el) :: bs) ∧ (∀ p ∈ bs, p.1 < G))) ?_ ?_ fun _ _ z => z
  · k_steps
    exact ⟨trivial, _, _, _, _, rfl, by assumption, by assumption, by assumption⟩
  · rintro f s₂ ⟨rfl, G, h', tk', el, rfl, F', N', l⟩
    exact hret G h' tk' el F' N' l
end
end Mine
-- part M1
open PySem PySem.W PyProof.Rows PySem.Calls
namespace Mine
set_option maxHeartbeats 400000
/-- the worth of a key, by its code -/
def wOf (c : Nat) : Int := if c ≤ 31 ∨ c = 127 then -(strengthOf c : Int) else 1
/-- how many signs a stretch of keys eats from the line ahead of it -/
def dfc : List Nat → Nat
  | [] => 0
  | k :: r => if k ≤ 31 ∨ k = 127 then dfc r + strengthOf k else dfc r - 1
/-- the keys that a test on the key and on the keys after it lets pass -/
def pick (p : Nat → List Nat → Bool) : List Nat → List Nat
  | [] => []
  | k :: r => if p k r then k :: pick p r else pick p r
def typedB (k : Nat) : Bool := !decide (k ≤ 31 ∨ k = 127)
def svB (tail : List Nat) (k : Nat) (r : List Nat) : Bool := typedB k && decide (dfc (r ++ tail) = 0)
def Ctl (k : Nat) : Prop := k ≤ 31 ∨ k = 127
theorem dfc_ctl {k : Nat} (h : Ctl k) (r : List Nat) : dfc (k :: r) = dfc r + strengthOf k := if_pos h
theorem dfc_typ {k : Nat} (h : ¬Ctl k) (r : List Nat) : dfc (k :: r) = dfc r - 1 := if_neg h
theorem pick_cons (p : Nat → List Nat → Bool) (k : Nat) (r : List Nat) : pick p (k :: r) = if p k r then k :: pick p r else pick p r := rfl
theorem sv_ctl {k : Nat} (h : Ctl k) (t r : List Nat) : svB t k r = false := by
  unfold svB typedB
  rw [show decide (k ≤ 31 ∨ k = 127) = true from decide_eq_true h]; rfl
theorem sv_typ {k : Nat} (h : ¬Ctl k) (t r : List Nat) : svB t k r = decide (dfc (r ++ t) = 0) := by
  unfold svB typedB
  rw [show decide (k ≤ 31 ∨ k = 127) = false from decide_eq_false h]; rfl
theorem pr_ctl {k : Nat} (h : Ctl k) (st : List Nat) : press st k = st.take (st.length - strengthOf k) := if_pos h
theorem pr_typ {k : Nat} (h : ¬Ctl k) (st : List Nat) : press st k = st ++ [k] := if_neg h
theorem w_ctl {k : Nat} (h : Ctl k) : wOf k = -(strengthOf k : Int) := if_pos h
theorem w_typ {k : Nat} (h : ¬Ctl k) : wOf k = 1 := if_neg h
theorem press_fold : ∀ (r st : List Nat), r.foldl press st = st.take (st.length - dfc r) ++ pick (svB []) r
  | [], st => by simp [dfc, pick]
  | k :: r, st => by
    rw [List.foldl_cons, press_fold r, pick_cons]
    by_cases hk : Ctl k
    · rw [pr_ctl hk, dfc_ctl hk, sv_ctl hk, if_neg (by decide), List.take_take, List.length_take]
      congr 2
      omega
    · rw [pr_typ hk, dfc_typ hk, sv_typ hk, List.append_nil, List.length_append, List.length_singleton]
      by_cases hd : dfc r = 0
      · rw [hd, if_pos (by decide), List.take_of_length_le (by simp), Nat.zero_sub, Nat.sub_zero, List.take_length, List.append_assoc]
        rfl
      · rw [if_neg (by simpa using hd), List.take_append_of_le_length (by omega)]
        congr 2
        omega
theorem pick_append (t : List Nat) : ∀ a : List Nat, pick (svB []) (a ++ t) = pick (svB t) a ++ pick (svB []) t
  | [] => rfl
  | k :: a => by
    rw [List.cons_append, pick_cons, pick_cons, show svB [] k (a ++ t) = svB t k a by unfold svB; rw [List.append_nil], pick_append t a]
    split <;> rfl
theorem pick_range (p : Nat → List Nat → Bool) : ∀ a : List Nat, pick p a = ((List.range a.length).filter fun i => p (a.getD i 0) (a.drop (i + 1))).map fun i => a.getD i 0
  | [] => rfl
  | k :: a => by
    rw [List.length_cons, List.range_succ_eq_map, List.filter_cons, List.filter_map, pick_cons, pick_range p a]
    simp only [List.getD_cons_zero, Nat.zero_add, List.drop_succ_cons, List.drop_zero]
    split
    · rw [List.map_cons, List.map_map]; rfl
    · rw [List.map_map]; rfl
theorem dfc_append_le : ∀ a b : List Nat, dfc (a ++ b) ≤ dfc a + dfc b
  | [], b => by simp [dfc]
  | k :: a, b => by
    have := dfc_append_le a b
    rw [List.cons_append]
    by_cases hk : Ctl k
    · rw [dfc_ctl hk, dfc_ctl hk]; omega
    · rw [dfc_typ hk, dfc_typ hk]; omega
theorem dfc_le_append : ∀ a b : List Nat, dfc a ≤ dfc (a ++ b)
  | [], b => Nat.zero_le _
  | k :: a, b => by
    have := dfc_le_append a b
    rw [List.cons_append]
    by_cases hk : Ctl k
    · rw [dfc_ctl hk, dfc_ctl hk]; omega
    · rw [dfc_typ hk, dfc_typ hk]; omega
theorem fold_off (r : List Nat) : ∀ st : List Nat, (r.foldl stepF (st, false)).2 = false := by
  induction r with
  | nil => intro st; rfl
  | cons k r ih => intro st; rw [List.foldl_cons]; exact ih _
theorem stepF_eq (st : List Nat) (k : Nat) : stepF (st, true) k = (press st k, decide (0 < (press st k).length)) := rfl
theorem fold_fill : ∀ (r st : List Nat), 0 < st.length → (r.foldl stepF (st, true)).2 = decide (dfc r < st.length)
  | [], st, h => by simp [dfc, h]
  | k :: r, st, h => by
    rw [List.foldl_cons, stepF_eq]
    by_cases hp : 0 < (press st k).length
    · rw [decide_eq_true hp, fold_fill r (press st k) hp]
      by_cases hk : Ctl k
      · rw [pr_ctl hk, List.length_take] at *
        rw [dfc_ctl hk]
        congr 1
        apply propext
        omega
      · rw [pr_typ hk, List.length_append, List.length_singleton] at *
        rw [dfc_typ hk]
        congr 1
        apply propext
        omega
    · rw [decide_eq_false hp, fold_off]
      symm
      rw [decide_eq_false_iff_not]
      by_cases hk : Ctl k
      · rw [pr_ctl hk, List.length_take] at hp
        rw [dfc_ctl hk]
        omega
      · rw [pr_typ hk, List.length_append, List.length_singleton] at hp
        omega
theorem good_eq {ks : List Nat} {i : Nat} (hi : i < ks.length) : goodB ks i = svB ks (ks.getD i 0) (ks.drop (i + 1)) := by
  unfold goodB svB typedB
  have hg : ks.getD i 0 = ks[i] := by simp [List.getD, hi]
  have hs : ks = ks.take i ++ ks[i] :: ks.drop (i + 1) := by simp
  rw [hg, List.drop_eq_getElem_cons hi, List.cons_append, List.foldl_cons]
  by_cases hk : ks[i] ≤ 31 ∨ ks[i] = 127
  · rw [show stepF ([], true) ks[i] = ([], false) by simp [stepF, press, hk], fold_off]
    simp [hk]
  · rw [show stepF ([], true) ks[i] = ([ks[i]], true) by simp [stepF, press, hk], fold_fill _ _ (by simp)]
    have h1 : dfc (ks.drop (i + 1)) ≤ dfc (ks.drop (i + 1) ++ ks.take i) := dfc_le_append _ _
    have h2 : dfc (ks.drop (i + 1) ++ ks.take i) ≤ dfc (ks.drop (i + 1) ++ ks) := by
      conv => rhs; rw [hs]
      rw [show List.drop (i + 1) (ks.take i ++ ks[i] :: ks.drop (i + 1)) = ks.drop (i + 1) by rw [← hs]]
      rw [← List.append_assoc]
      exact dfc_le_append _ _
    have h3 : dfc (ks.drop (i + 1) ++ ks) ≤ dfc (ks.drop (i + 1) ++ ks.take i) + dfc (ks[i] :: ks.drop (i + 1)) := by
      conv => lhs; rw [hs]
      rw [show List.drop (i + 1) (ks.take i ++ ks[i] :: ks.drop (i + 1)) = ks.drop (i + 1) by rw [← hs]]
      rw [← List.append_assoc]
      exact dfc_append_le _ _
    have h4 : dfc (ks[i] :: ks.drop (i + 1)) = dfc (ks.drop (i + 1)) - 1 := by
      show (if _ then _ else _) = _
      rw [if_neg hk]
    simp only [hk, decide_false, Bool.not_false, Bool.true_and, List.length_singleton]
    congr 1
    apply propext
    omega
theorem goods_pick (ks : List Nat) : (goods ks).map (fun k => ks.getD k 0) = pick (svB ks) ks := by
  rw [pick_range]
  unfold goods
  congr 1
  apply List.filter_congr
  intro i hi
  exact good_eq (List.mem_range.mp hi)
theorem law_P3 (ks : List Nat) : ks.foldl press (ks.foldl press []) = ((goods ks).map fun k => ks.getD k 0) ++ ks.foldl press [] := by
  rw [← List.foldl_append, press_fold (ks ++ ks), press_fold ks [], goods_pick]
  simp only [List.take_nil, List.nil_append]
  exact pick_append ks ks
theorem pick_len : ∀ r : List Nat, ((pick (svB []) r).length : Int) - dfc r = (r.map wOf).sum
  | [] => rfl
  | k :: r => by
    have ih := pick_len r
    rw [List.map_cons, List.sum_cons, pick_cons]
    by_cases hk : Ctl k
    · rw [w_ctl hk, dfc_ctl hk, sv_ctl hk, if_neg (by decide)]
      omega
    · rw [w_typ hk, dfc_typ hk, sv_typ hk, List.append_nil]
      by_cases hd : dfc r = 0
      · rw [if_pos (by simpa using hd), List.length_cons]; omega
      · rw [if_neg (by simpa using hd)]; omega
theorem law_P2 (ks : List Nat) : ((goods ks).length : Int) = max 0 (ks.map wOf).sum := by
  have h1 := law_P3 ks
  have h2 := congrArg List.length h1
  rw [press_fold ks (ks.foldl press []), press_fold ks []] at h2
  simp only [List.take_nil, List.nil_append, List.length_append, List.length_take, List.length_map] at h2
  have h3 := pick_len ks
  omega
theorem dfc_iff : ∀ (r : List Nat) (m : Nat), dfc r ≤ m ↔ ∀ d, d ≤ r.length → 0 ≤ (m : Int) + ((r.map wOf).take d).sum
  | [], m => by simp [dfc]
  | k :: r, m => by
    constructor
    · intro h d hd
      cases d with
      | zero => simp
      | succ d =>
        rw [List.map_cons, List.take_succ_cons, List.sum_cons]
        by_cases hk : Ctl k
        · rw [dfc_ctl hk] at h
          have := (dfc_iff r (m - strengthOf k)).mp (by omega) d (by simpa using hd)
          rw [w_ctl hk]
          omega
        · rw [dfc_typ hk] at h
          have := (dfc_iff r (m + 1)).mp (by omega) d (by simpa using hd)
          rw [w_typ hk]
          omega
    · intro h
      have h1 := h 1 (by simp)
      rw [List.map_cons, List.take_succ_cons, List.sum_cons, List.take_zero, List.sum_nil] at h1
      by_cases hk : Ctl k
      · rw [w_ctl hk] at h1
        rw [dfc_ctl hk]
        have := (dfc_iff r (m - strengthOf k)).mpr fun d hd => by
          have h2 := h (d + 1) (by simpa using hd)
          rw [List.map_cons, List.take_succ_cons, List.sum_cons, w_ctl hk] at h2
          omega
        omega
      · rw [dfc_typ hk]
        have := (dfc_iff r (m + 1)).mpr fun d hd => by
          have h2 := h (d + 1) (by simpa using hd)
          rw [List.map_cons, List.take_succ_cons, List.sum_cons, w_typ hk] at h2
          omega
        omega
theorem wOf_one (k : Nat) : decide (wOf k = 1) = typedB k := by
  unfold wOf typedB
  by_cases hk : k ≤ 31 ∨ k = 127
  · rw [if_pos hk]; simp [hk]; omega
  · rw [if_neg hk]; simp [hk]
theorem left_eq {ks : List Nat} {i : Nat} (hi : i < ks.length) : leftB (ks.map wOf) ks.length i = svB [] (ks.getD i 0) (ks.drop (i + 1)) := by
  unfold leftB svB
  rw [show (ks.map wOf).getD i 0 = wOf (ks.getD i 0) by simp [List.getD, hi], wOf_one, List.append_nil]
  congr 1
  rw [Bool.eq_iff_iff, List.all_eq_true, decide_eq_true_eq, ← Nat.le_zero, dfc_iff]
  constructor
  · intro h d hd
    have := h d (by rw [List.mem_range]; rw [List.length_drop] at hd; omega)
    unfold sumAt at this
    rw [← List.map_drop] at this
    simpa using this
  · intro h d hd
    have := h d (by rw [List.mem_range] at hd; rw [List.length_drop]; omega)
    unfold sumAt
    rw [← List.map_drop]
    simpa using this
theorem law_P1 (ks : List Nat) : ks.foldl press [] = lefts (ks.map wOf) ks ks.length := by
  rw [press_fold ks []]
  simp only [List.take_nil, List.nil_append]
  rw [pick_range]
  unfold lefts
  congr 1
  apply List.filter_congr
  intro i hi
  exact (left_eq (List.mem_range.mp hi)).symm
theorem good_typed {ks : List Nat} {k : Nat} (h : k ∈ goods ks) : k < ks.length ∧ 32 ≤ ks.getD k 0 ∧ ks.getD k 0 ≠ 127 := by
  unfold goods at h
  rw [List.mem_filter, List.mem_range] at h
  refine ⟨h.1, ?_⟩
  have h2 := h.2
  rw [good_eq h.1] at h2
  generalize ks.getD k 0 = c at *
  unfold svB typedB at h2
  simp at h2
  omega
theorem code_le (n : Int) : codeOf n ≤ 256 := by
  unfold codeOf
  split
  · repeat' split
    all_goals omega
  · split <;> omega
theorem worth_code (n : Int) : worthOf n = wOf (codeOf n) := by
  unfold worthOf codeOf wOf strengthOf
  split
  · repeat' split
    all_goals omega
  · repeat' split
    all_goals omega
theorem w_typed {ks : List Nat} (i : Nat) (h : (ks.map wOf).getD i 0 = 1) : 32 ≤ ks.getD i 0 ∧ ks.getD i 0 ≠ 127 := by
  by_cases hi : i < ks.length
  · rw [show (ks.map wOf).getD i 0 = wOf (ks.getD i 0) by simp [List.getD, hi]] at h
    generalize ks.getD i 0 = c at *
    have := wOf_one c
    rw [h] at this
    unfold typedB at this
    simp at this
    omega
  · rw [show (ks.map wOf).getD i 0 = 0 by simp [List.getD, hi]] at h
    omega
end Mine
-- part G1
open PySem PySem.W PyProof.Rows PySem.Calls
namespace Mine
theorem offG1 : True := by
  w_top off
  trivial
set_option maxRecDepth 100000
set_option maxHeartbeats 800000
theorem nums_len (ns : List Int) : (numsOf' ns).length ≤ 10 := by
  unfold numsOf' srcOf
  rw [List.length_map, List.length_append, List.length_take]
  simp only [List.length_cons, List.length_nil]
  omega
theorem nums_in (ns : List Int) : ∀ n ∈ numsOf' ns, 0 ≤ n ∧ n < 1000000000 := by
  intro n hn
  unfold numsOf' at hn
  obtain ⟨k, _, rfl⟩ := List.mem_map.mp hn
  constructor <;> omega
section
variable {w : World} {mean : ExcName → Option Value} {mg mb : Str → Option Value} {dp un : Nat} {gd : Option (List Code)} {cn : Str} {a : Addr} {ccd : Value} {outer : List Env} {A₀ : Around} {base h₀ : Heap} {L : Addr} {m : Str → Option Value} {s : Shared} {E : Value → Shared → Prop} {Q : Flow → Shared → Prop} {ci cw cc : Addr}
theorem law_walk {l : Addr} {vs : List Value} {ns : List Int} {oi ow oc : Obj} {vi vw vc : Option Value}
    (B : Below A₀ base outer h₀) (F : Fr h₀ L s.heap m) (X : (hd.heap_39 w.params).In h₀) (N : News h₀ L s.heap [(ci, oi), (cw, ow), (cc, oc)]) (T : Top hd.view_39 (looseW hd.view_39 [Str.ofString "_Accumulator"]) mean mg mb h₀)
    (hdp : dp + 20 < recursionLimit) (hun : un + 200 < cLine)
    (ms : m (Str.ofString "script") = some (.ref l)) (hl : h₀.IsList l vs.toArray) (hi : IntsAre vs ns) (hn : ns.length ≤ 63)
    (hoi : oi.data = .cell vi) (how : ow.data = .cell vw) (hoc : oc.data = .cell vc) (e1 : ci ≠ cw) (e2 : ci ≠ cc) (e3 : cw ≠ cc)
    (hret : ∀ (h' : Heap) (tk' : Nat) (m' : Str → Option Value), Fr h₀ L h' m' → Q (.ret (.bool true)) { s with heap := h', toks := tk' }) :
    wpAny (model Challenge.rw_pg0058_01.row.prog w) (ktrTop dp un gd cn lawScope L a ccd (lawCells ci cw cc) outer) (execs lawBody (envX cn lawScope L a ccd (lawCells ci cw cc))) Q E s := by
  have hnl := nums_len ns
  have hnb := nums_in ns
  refine seg0 F X N T ms hl hi hn fun Nd h tk us D₀ o₀ F₁ N₁ a₁ a₂ hus => ?_
  clear F N hi hl ms
  revert hus hnl hnb
  generalize numsOf' ns = nums
  intro hnl hnb hus
  have hk : nums.map worthOf = (nums.map codeOf).map wOf := by
    rw [List.map_map]; exact List.map_congr_left fun n _ => worth_code n
  have hle : ∀ k ∈ nums.map codeOf, k ≤ 256 := by
    intro k hk
    obtain ⟨n, _, rfl⟩ := List.mem_map.mp hk
    exact code_le n
  have hkl : (nums.map codeOf).length = nums.length := List.length_map ..
  refine seg1 (s := { s with heap := h, toks := tk }) (bs := [(Nd, LCg.lst us), (ci, oi), (cw, ow)]) B F₁ X (cb_drop N₁ ?_) T hdp hun (if_pos rfl) List.mem_cons_self hus (by omega) hnb hoc ?_ ?_
  · intro p hp; simp only [List.mem_cons] at hp ⊢; grind
  · intro p hp
    simp only [List.mem_cons, List.not_mem_nil, or_false] at hp
    rcases hp with rfl | rfl | rfl
    · exact (a₁ (cc, oc) (by simp)).symm
    · exact e2
    · exact e3
  intro Cd oc' h₂ tk₂ cvs F₂ N₂ hoc' a₃ hcs
  clear F₁ N₁
  refine seg2 (s := { s with heap := h₂, toks := tk₂ }) (bs := [(Cd, LCg.lst cvs), (cc, oc'), (Nd, LCg.lst us), (ci, oi)]) B F₂ X (cb_drop N₂ ?_) T hdp hun (if_pos rfl) (by simp) hus (by omega) hnb how ?_ ?_
  · intro p hp; simp only [List.mem_cons] at hp ⊢; grind
  · intro p hp
    simp only [List.mem_cons, List.not_mem_nil, or_false] at hp
    rcases hp with rfl | rfl | rfl | rfl
    · exact (a₃ (cw, ow) (by simp)).symm
    · exact e3.symm
    · exact (a₁ (cw, ow) (by simp)).symm
    · exact e1
  intro W ow' h₃ tk₃ wvs F₃ N₃ how' a₄ hws
  clear F₂ N₂
  rw [hk] at hws
  clear hk hnb
  revert hcs hws hle hkl
  generalize nums.map codeOf = ks
  intro hle hkl hcs hws
  refine seg3 (s := { s with heap := h₃, toks := tk₃ }) (oc := oc') (Cd := Cd) (cvs := cvs) F₃ X N₃ T (by simp) hoc' (by simp) hcs (by omega) hle fun kd h₄ tk₄ kvs F₄ N₄ a₅ hks => ?_
  clear F₃ N₃
  refine seg4 (s := { s with heap := h₄, toks := tk₄ }) F₄ X N₄ T fun G h₅ tk₅ ng F₅ N₅ a₆ => ?_
  clear F₄ N₄
  have hkvl := hks.length
  refine seg5 (s := { s with heap := h₅, toks := tk₅ }) (kd := kd) (kvs := kvs) (n := kvs.length) B F₅ X N₅ T hdp hun ?_ (if_pos rfl) (fun p hp => Nat.ne_of_lt (a₆ p hp)) List.mem_cons_self hks hle (by omega) ?_
  · show (if _ then _ else _) = _
    rw [if_neg (by decide)]
    exact if_pos rfl
  intro h₆ tk₆ m₆ gvs eg F₆ hm₆ N₆ hgs
  clear F₅ N₅
  have mk₆ : m₆ (Str.ofString "keys") = some (.ref kd) := by
    rw [hm₆ _ (by decide) (by decide) (by decide) (by decide)]
    show (if _ then _ else _) = _
    rw [if_neg (by decide)]
    exact if_pos rfl
  have mg₆ : m₆ (Str.ofString "good") = some (.ref G) := by
    rw [hm₆ _ (by decide) (by decide) (by decide) (by decide)]
    exact if_pos rfl
  clear hm₆
  refine seg6 (s := { s with heap := h₆, toks := tk₆ }) (kd := kd) (kvs := kvs) (n := kvs.length) B F₆ X N₆ T hdp hun mk₆ (by simp) hks hle (by omega) ?_
  intro h₇ tk₇ m₇ O Tw vs₁ vs₂ pcs F₇ mo₇ mt₇ hm₇ N₇ hP₁ hP₂ a₇
  clear F₆ N₆
  have mk₇ : m₇ (Str.ofString "keys") = some (.ref kd) := (hm₇ _ (by decide) (by decide) (by decide) (by decide)).trans mk₆
  have mg₇ : m₇ (Str.ofString "good") = some (.ref G) := (hm₇ _ (by decide) (by decide) (by decide) (by decide)).trans mg₆
  clear hm₇ mk₆ mg₆
  have hPl := hP₁.length
  refine seg11 (s := { s with heap := h₇, toks := tk₇ }) (bs := (Tw, LCg.lst vs₂) :: (O, LCg.lst vs₁) :: (pcs ++ [(G, listOf gvs.toArray eg), (kd, LCg.lst kvs), (W, LCg.lst wvs), (cw, ow'), (Cd, LCg.lst cvs), (cc, oc')])) (kd := kd) (kvs := kvs) (nk := kvs.length) (W := W) (wvs := wvs) (nw := wvs.length) (Cd := Cd) (cvs := cvs) (nc := cvs.length) (ow := ow') (oc := oc') (ks := ks) B F₇ X (cb_drop N₇ ?_) T hdp hun hoi ?_ mk₇ ?_ hkvl (by omega) hle ?_ how' ?_ hws (List.length_map ..) w_typed ?_ hoc' ?_ hcs ?_
  · intro p hp; simp only [List.mem_cons, List.mem_append] at hp ⊢; grind
  · intro p hp
    have hci : (ci, oi) ∈ (G, listOf gvs.toArray eg) :: (kd, LCg.lst kvs) :: (W, LCg.lst wvs) :: (cw, ow') :: [(Cd, LCg.lst cvs), (cc, oc'), (Nd, LCg.lst us), (ci, oi)] := by simp
    have b1 := fun p hp => a₇ p hp _ hci
    simp only [List.mem_cons, List.mem_append, List.not_mem_nil, or_false] at hp
    rcases hp with rfl | rfl | hp | rfl | rfl | rfl | rfl | rfl | rfl
    · exact b1 _ (by simp)
    · exact b1 _ (by simp)
    · exact b1 _ (by simp [hp])
    · exact Nat.ne_of_gt (a₆ (ci, oi) (by simp))
    · exact (a₅ (ci, oi) (by simp)).symm
    · exact (a₄ (ci, oi) (by simp)).symm
    · exact e1.symm
    · exact (a₃ (ci, oi) (by simp)).symm
    · exact e2.symm
  · simp
  · simp only [List.mem_cons, List.mem_append]; grind
  · simp
  · simp only [List.mem_cons, List.mem_append]; grind
  · simp
  intro h₈ tk₈ m₈ Lf oi' lvs el pcs₂ F₈ ml₈ hm₈ N₈ hP₃
  have mo₈ := (hm₈ (Str.ofString "once") (by decide) (by decide)).trans mo₇
  have mt₈ := (hm₈ (Str.ofString "twice") (by decide) (by decide)).trans mt₇
  have mg₈ := (hm₈ (Str.ofString "good") (by decide) (by decide)).trans mg₇
  clear F₇ N₇
  generalize hnews : (ci, oi') :: (Lf, listOf lvs.toArray el) :: (pcs₂ ++ (Tw, LCg.lst vs₂) :: (O, LCg.lst vs₁) :: (pcs ++ [(G, listOf gvs.toArray eg), (kd, LCg.lst kvs), (W, LCg.lst wvs), (cw, ow'), (Cd, LCg.lst cvs), (cc, oc')])) = news at N₈
  have hO : (O, LCg.lst vs₁) ∈ news := by subst hnews; simp only [List.mem_cons, List.mem_append]; grind
  have hTw : (Tw, LCg.lst vs₂) ∈ news := by subst hnews; simp only [List.mem_cons, List.mem_append]; grind
  have hLf : (Lf, listOf lvs.toArray el) ∈ news := by subst hnews; simp only [List.mem_cons, List.mem_append]; grind
  have hG : (G, listOf gvs.toArray eg) ∈ news := by subst hnews; simp only [List.mem_cons, List.mem_append]; grind
  have hW : (W, LCg.lst wvs) ∈ news := by subst hnews; simp only [List.mem_cons, List.mem_append]; grind
  have hCd : (Cd, LCg.lst cvs) ∈ news := by subst hnews; simp only [List.mem_cons, List.mem_append]; grind
  have hcw : (cw, ow') ∈ news := by subst hnews; simp only [List.mem_cons, List.mem_append]; grind
  have hcc : (cc, oc') ∈ news := by subst hnews; simp only [List.mem_cons, List.mem_append]; grind
  have hsub : ∀ D c t u, (D, tupObj c t u) ∈ pcs ++ (G, listOf gvs.toArray eg) :: (kd, LCg.lst kvs) :: (W, LCg.lst wvs) :: (cw, ow') :: [(Cd, LCg.lst cvs), (cc, oc'), (Nd, LCg.lst us), (ci, oi)] → (D, tupObj c t u) ∈ news := by
    intro D c t u hm
    have x1 : (D, tupObj c t u) ≠ (ci, oi) := fun e => by
      have := (Prod.mk.inj e).2
      rw [← this] at hoi
      exact nomatch hoi
    have x2 : (D, tupObj c t u) ≠ (Nd, LCg.lst us) := fun e => by
      have := congrArg Obj.cls (Prod.mk.inj e).2
      simp [tupObj, LCg.lst] at this
    subst hnews
    simp only [List.mem_cons, List.mem_append] at hm ⊢
    grind
  have hsub₂ : ∀ p ∈ pcs₂, p ∈ news := by subst hnews; intro p hp; simp only [List.mem_cons, List.mem_append]; grind
  have hQ₁ := hP₁.monoT hsub
  have hQ₂ := hP₂.monoT hsub
  have hQ₃ := hP₃.mono hsub₂
  rw [← law_P1 ks] at hQ₃
  rw [law_P3 ks] at hQ₂
  have hglen : (goods ks).length ≤ ks.length := by unfold goods; exact Nat.le_trans (List.length_filter_le _ _) (by simp)
  have hg2 : (((goods ks).map Int.ofNat).length : Int) = max 0 (ks.map wOf).sum := by rw [List.length_map]; exact law_P2 ks
  refine seg13 (s := { s with heap := h₈, toks := tk₈ }) (nw := wvs.length) F₈ X N₈ T hdp hun mo₈ ml₈ mg₈ hO hLf hG hgs (by rw [List.length_map]; omega) hcw how' hW hws (fun _ h => h) hQ₁ hQ₃ hg2 fun h₉ tk₉ F₉ N₉ => ?_
  refine seg14 (s := { s with heap := h₉, toks := tk₉ }) (nc := cvs.length) (gs := goods ks) B F₉ X N₉ T hdp hun mo₈ mt₈ mg₈ hO hTw hG hgs (by omega) ?_ hcc hoc' hCd hcs (by omega) ?_ (fun _ h => h) hQ₁ hQ₂ fun h' tk' F' => hret h' tk' _ F'
  · rw [hPl, law_P1]
    unfold lefts
    rw [List.length_map]
    exact Nat.le_trans (List.length_filter_le _ _) (by rw [List.length_range]; omega)
  · intro k hk
    obtain ⟨g1, g2, g3⟩ := good_typed hk
    refine ⟨g1, g2, hle _ ?_, g3⟩
    rw [show ks.getD k 0 = ks[k] by simp [List.getD, g1]]
    exact List.getElem_mem g1
end
end Mine
-- part H1
open PySem PySem.W PyProof.Rows PySem.Calls
namespace Mine
theorem offH1 : True := by
  w_top off
  trivial
local macro_rules | `(tactic| walk_at "no such place") => `(tactic| skip)
local macro_rules | `(tactic| walk_at "no such place") => `(tactic| skip)
local macro_rules | `(tactic| walk_at "no such place") => `(tactic| skip)
local macro_rules | `(tactic| walk_at "no such place") => `(tactic| skip)
local macro_rules | `(tactic| walk_at "no such place") => `(tactic| skip)
local macro_rules | `(tactic| walk_at "no such place") => `(tactic| skip)
local macro_rules | `(tactic| walk_at "no such place") => `(tactic| skip)
local macro_rules | `(tactic| walk_at "no such place") => `(tactic| skip)
theorem ne_two (n : Nat) : n + 1 + 1 + 1 ≠ n + 1 := by omega
set_option maxRecDepth 100000 in
set_option maxHeartbeats 2000000 in
theorem law_holds : PySem.Challenge.rw_pg0058_01.Holds := hd (by
  k_go0
  rename Below _ _ _ _ => K0
  rename Fr _ _ _ _ => F
  rename News _ _ _ _ => N0
  rename Top _ _ _ _ _ _ => T
  rename Frag.In _ _ => KX
  rename Heap.IsList _ _ _ => hL
  rename IntsAre _ _ => hI
  rename ¬(_ < _) => hc
  rename Obj.data _ = .cell (bindC _ _ _ (Str.ofString "i")) => hd1
  rename Obj.data _ = .cell (bindC _ _ _ (Str.ofString "worths")) => hd2
  rename Obj.data _ = .cell (bindC _ _ _ (Str.ofString "codes")) => hd3
  refine law_walk K0 F KX N0 T ?_ ?_ ?_ hL hI ?_ hd1 hd2 hd3 ?_ ?_ ?_ ?_
  · decide
  · decide
  · rfl
  · omega
  · exact Nat.succ_ne_self _
  · exact ne_two _
  · exact Nat.succ_ne_self _
  · intro h' tk' m' F'
    wrow_close)
end Mine
theorem PySem.Challenge.cw_pg0058_01_holds : PySem.Challenge.rw_pg0058_01.Holds := by
  exact Mine.law_holds
