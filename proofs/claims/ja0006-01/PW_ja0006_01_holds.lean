import PyProof.Rows.All
import Wide.All
import OpenK.AllK
import Wide.FinOn
import PyProof.FactsAll.tuple
import PyProof.IsiH_tuple
import PyProof.FactsAll.tuple_2
import KE.BitLaws
import KE.KEqSeq
import PyProof.TupleOfSeq
import PyProof.TupleOfGen
import PyProof.ObjNew
import PyProof.CompMap
import PyProof.CompUse
import PyProof.CompFree
import PySem.Challenge.RW_ja0006_01
set_option Elab.async false
set_option maxRecDepth 100000
set_option linter.unusedVariables false
section THd
open PySem PySem.W PyProof.Rows
namespace Mine
set_option maxRecDepth 100000 in
set_option maxHeartbeats 8000000 in
open_top hd for PySem.Challenge.rw_ja0006_01
end Mine
end THd
section TP1
open PySem PySem.Calls PySem.W PyProof.Rows
namespace Mine
section
variable {prog : Program} {w : World} {A : Around} {E : Value → Shared → Prop} {s : Shared} {K : Frag} {x C L : Addr} {ox od : Obj} {name : Str} {h₀ : Heap} {m : Str → Option Value} {news : List (Addr × Obj)}
theorem kind_tga : builtinKind "tuple.__getattribute__" = some .slot := by decide +kernel
theorem split_tga : splitId "tuple.__getattribute__" = some ("tuple", "__getattribute__") := by decide +kernel

/-- a field read through a descriptor of the text's own class, on an object of a class over tuple -/
theorem get_desc {expr : Bool} {Q : Value → Shared → Prop} {p g : Addr} (F : Fr h₀ L s.heap m) (X₀ : K.In h₀) (I : InstAt s.heap x ox C (some od))
    (hga : findIn K (.ref C) "__getattribute__" = some (some (.builtin "tuple.__getattribute__"))) (hgt : findIn K (.ref C) "__getattr__" = some none)
    (hsub : mroIn K C (.type "tuple") = some true) (hc : isClsIn K C = true)
    (ha : findIn K (.ref C) name = some (some (.ref p))) (hn : specialIn K (.ref p) "__get__" = some (some (.ref g))) (ht : takesIn K (.ref p) = some true)
    (h : wpAny (model prog w) A.in1 (call (.ref g) [.ref p, .ref x, .ref C]) (fun v s' => wpAny (model prog w) A (handedOut v) Q E s') (fun _ _ => False) { s with toks := s.toks + 1 }) :
    wpAny (model prog w) A (getAttr (.ref x) name expr) Q E s := by
  have X := X₀.keeps F.keep
  have hT := I.type (M := model prog w)
  refine wpAny_bind (wpAny_mkText (wpAny_holding (wpAny_bind (hT _ _ _ _ (fun _ _ e => e) (wpAny_bind (looks_findIn X hga _ _ _ _ (fun _ _ e => e) ?_))))))
  dsimp only
  rw [show (onTheHeap (.ref C) && Value.builtin "tuple.__getattribute__" == Value.builtin "object.__getattribute__") = false from by rw [show (Value.builtin "tuple.__getattribute__" == Value.builtin "object.__getattribute__") = false from by decide +kernel, Bool.and_false], if_neg (by decide)]
  refine wpAny_bind ((looks_hook (mc := .ref C) X (r := none) (by rw [if_pos (show onTheHeap (.ref C) = true from rfl)]; exact hgt)) _ _ _ _ (fun _ _ e => e) (wpAny_bind (wpAny_attempt (wpAny_holding ?_))))
  unfold callGetattribute
  rw [show (expr && onTheHeap (Value.builtin "tuple.__getattribute__")) = false from Bool.and_false _, if_neg (by decide)]
  unfold boundAndCalled
  rw [PySem.F.slot_tuple_getattribute.bind]
  refine wpAny_bind (wpAny_pure ?_)
  show wpAny _ _ (call (.builtin "tuple.__getattribute__") [.ref x, .str name s.toks]) _ _ _
  refine wpAny_call ?_
  refine codeAny_call_builtin PySem.F.slot_tuple_getattribute.plain PySem.F.entry_tuple_ga ?_
  refine @check_slot (model prog w) _ _ { s with toks := s.toks + 1 } "tuple.__getattribute__" "tuple" "__getattribute__" (.ref x) [.str name s.toks] [] _ kind_tga split_tga (hT.andThen (looks_mroIn X hsub)) (PySem.F.args_tuple_getattribute_2 (.ref x) (.str name s.toks)) ?_
  obtain ⟨hh, gg, d, t, os⟩ := s
  have L1 := looks_find (M := model prog w) X I (findObj_data hc ha hn ht)
  dsimp only at hT L1 ⊢
  refine wpAny_bind (wpAny_pure ?_)
  refine wpAny_bind (wpAny_pure ?_)
  refine wpAny_bind (hT.at (wpAny_bind (L1.at ?_)))
  show wpAny _ _ (holding [Value.ref p] (call (.ref g) [.ref p, .ref x, .ref C]) >>= ret) _ _ _
  exact wpAny_bind (wpAny_holding (wpAny_mono h (fun v s' z => wpAny_pure z) fun _ _ z => z.elim))
/-- a point stands in the ledger -/
abbrev ptObj (d : Addr) (x y : Int) (t u : Tok) : Obj := { cls := .ref 174, dict := some d, data := .seq #[.int x t, .int y u] }
theorem inst_pt {h : Heap} {p d : Addr} {x y : Int} {t u : Tok} (N : News h₀ L h news) (h1 : (p, ptObj d x y t u) ∈ news) (h2 : (d, dictOf [] 0) ∈ news) :
    InstAt h p (ptObj d x y t u) 174 (some (dictOf [] 0)) := ⟨(N _ h1).1, rfl, rfl, (N _ h2).1⟩
end
end Mine
end TP1
section TP2
open PySem PySem.Calls PySem.W PyProof.Rows
namespace Mine
section
variable {prog : Program} {w : World} {A : Around} {E : Value → Shared → Prop} {s : Shared} {K : Frag} {x C L : Addr} {ox od : Obj} {name : Str} {h₀ : Heap} {m : Str → Option Value} {news : List (Addr × Obj)}
theorem cls_obj {h : Heap} (X : K.In h) (hc : isClsIn K C = true) : ∃ oc od cd sl, h.get? C = some ⟨oc, od, .cls cd, sl⟩ := by
  obtain ⟨cd, hcd⟩ := Option.isSome_iff_exists.mp hc
  unfold clsIn at hcd
  split at hcd
  · rename_i oc od' cd' sl ho; exact ⟨_, _, _, _, X _ _ ho⟩
  · cases hcd
theorem typeOf_tuple : typeOf (.type "tuple") = pure (.type "type") := by kernel_rfl
theorem issub_K {b : Bool} {Q : Value → Shared → Prop} (X : K.In s.heap) (hc : isClsIn K C = true) (hm : mroIn K C (.type "tuple") = some b) (h : Q (.bool b) s) :
    wpAny (model prog w) A (call (.builtin "issubclass") [.ref C, .type "tuple"]) Q E s := by
  refine call_issubclass (S := fun _ R s₁ => K.In s₁.heap ∧ R (.ok (.ret (.bool b))) s₁) (fun prog w A R s hs => ?_) ⟨X, h⟩
  obtain ⟨X, hs⟩ := hs
  refine issubclass_outer ?_
  obtain ⟨hh, gg, d, t, os⟩ := s
  have L1 := looks_mroIn (M := model prog w) X hm
  obtain ⟨oc, od', cd, sl, hC⟩ := cls_obj X hc
  have e0 := typeOf_tuple
  dsimp only at L1 hC
  repeat lk
  exact hs
theorem kind_tgi : builtinKind "tuple.__getitem__" = some .slot := by decide +kernel
theorem split_tgi : splitId "tuple.__getitem__" = some ("tuple", "__getitem__") := by decide +kernel
theorem getitem_tupK {p C : Addr} {dd : Option Addr} {items : Array Value} {n : Nat} {sl : Array (Option Value)} {k : Int} {u : Tok} {j : Nat} {v : Value} {Q : Value → Shared → Prop} (X : K.In s.heap) (hp : s.heap.get? p = some ⟨.ref C, dd, .seq items n, sl⟩)
    (hm : mroIn K C (.type "tuple") = some true) (hlo : -2 ^ 63 ≤ k) (hhi : k < 2 ^ 63) (hk : seqIndex? k items.size = some j) (hv : items[j]? = some v) (h : Q v s) :
    wpAny (model prog w) A (call (.builtin "tuple.__getitem__") [.ref p, .int k u]) Q E s := by
  refine wpAny_call (codeAny_call_builtin PySem.F.slot_tuple_getitem.plain PySem.F.entry_tuple_getitem ?_)
  have hT : Looks (model prog w) s.heap (typeOf (.ref p)) (.ref C) := (Looks.ld hp).andThen .now
  refine @check_slot (model prog w) _ _ s "tuple.__getitem__" "tuple" "__getitem__" (.ref p) [.int k u] [] _ kind_tgi split_tgi (hT.andThen (looks_mroIn X hm)) (PySem.F.args_tuple_getitem_2 (.ref p) (.int k u)) ?_
  obtain ⟨hh, gg, d, t, os⟩ := s
  have f1 := AutoSeq1.idx_int
  have hf : ¬ (decide (k < -2 ^ 63) || decide (k ≥ 2 ^ 63)) = true := by simp; omega
  dsimp only at hp
  wp_walk using wpAny_loadPart' hp
  simp only [hk, hv, Option.bind_some]
  refine wpAny_ite_false (by simp; omega) ?_
  wp_walk
  exact h
end
end Mine
end TP2
section TP3
open PySem PySem.Calls PySem.W PyProof.Rows
namespace Mine
theorem fill : PySem.Challenge.rw_ja0006_01 = PySem.Challenge.rw_ja0006_01 ∧ Mine.hd.heap_39 = Mine.hd.heap_39 := by k_fill; exact ⟨rfl, rfl⟩
abbrev TopF (mean : ExcName → Option Value) (mg mb : Str → Option Value) (h : Heap) : Prop := Top Mine.hd.view_39 (looseW Mine.hd.view_39 [Str.ofString "_tuplegetter", Str.ofString "Point"]) mean mg mb h
local macro_rules | `(tactic| k_mem) => `(tactic| with_reducible assumption)
local macro_rules | `(tactic| k_inst) => `(tactic| (refine' inst_pt ?N ?h1 ?h2; (case N => k_asm); (case h1 => k_mem); (case h2 => k_mem)))
local macro_rules | `(tactic| cell_enter) => `(tactic| (refine' code_def ?k1 ?k2 ?k3 ?k4 ?k5 ?kA ?kF ?kK ?k6 ?k7 ?k8 ?k9 ?kB ?_ ?c2 ?c3 ?c4 ?c5; (case kA => exact rfl); (case kF => exact rfl); (case kK => assumption); (case k1 => k_asm); (case k2 => k_asm); (case k3 => k_asm); (case k4 => k_asm); (case k5 => k_asm); (case k6 => k_is); (case k7 => k_is); (case k8 => ktr_room); (case k9 => first | exact BindsTo.of_eq rfl | exact binds_K (by k_in) rfl (by k_is) rfl rfl rfl); (case c5 => decide); (case kB => exact locs rfl); (case c2 => exact rfl); (case c3 => exact rfl); (case c4 => exact rfl); k_whole; intro g' L' h' FG' F' N' B' X' T'; (try dsimp only); (try k_lift B'); (try k_fold)))
local macro_rules | `(tactic| walk_at "getAttr ref") => `(tactic| (k_here; k_dflt (
  (refine' get_desc ?k1 ?k2 ?k3 ?k4 ?k5 ?k6 ?k7 ?k8 ?k9 ?k10 ?_; (case k1 => k_asm); (case k2 => k_asm); (case k3 => k_inst); (case k4 => k_is); (case k5 => k_is); (case k6 => k_is); (case k7 => k_is); (case k8 => k_is); (case k9 => k_is); (case k10 => k_is); k_whole))))
local macro_rules | `(tactic| walk_at "call builtin:issubclass") => `(tactic| (k_here; k_dflt (refine' issub_K ?k1 ?k2 ?k3 ?_; (case k1 => k_in); (case k2 => k_is); (case k3 => k_is); k_whole)))
local macro_rules | `(tactic| walk_at "call builtin:tuple.__getitem__") => `(tactic| (k_here; k_dflt (refine' getitem_tupK ?k1 ?k2 ?k3 ?k4 ?k5 ?k6 ?k7 ?_; (case k1 => k_in); (case k2 => exact News.get (by k_asm) (by k_mem)); (case k3 => k_is); (case k4 => decide); (case k5 => decide); (case k6 => rfl); (case k7 => rfl); k_whole)))
local macro_rules | `(tactic| walk_at "getMethod type:tuple") => `(tactic| (k_here; refine' method_type ?F ?X ?m (by decide +kernel) ?e ?h ?_; (case F => k_asm); (case X => k_asm); (case m => exact typeOf_tuple); (case e => k_dflt k_is); (case h => k_handed)))
local macro_rules | `(tactic| k_room) => `(tactic| ktr_room)
theorem even_bit (k : Int) : (!(Builtin.bitAnd k 1 != 0)) = decide (k % 2 = 0) := by
  rw [bitAnd_m1]
  by_cases h : k % 2 = 0 <;> simp [h]
section
variable {prog : Program} {w : World} {mean : ExcName → Option Value} {mg mb : Str → Option Value}
  {dp un : Nat} {gd : Option (List Code)} {cn : Str} {cs : Scope} {a : Addr} {ccd : Value} {cl : List (Str × Addr)} {outer : List Env} {A₀ : Around} {base h₀ : Heap} {L : Addr} {m : Str → Option Value} {s : Shared} {Q E : Value → Shared → Prop} {news : List (Addr × Obj)}
  (B : Below A₀ base outer h₀) (F : Fr h₀ L s.heap m) (X : (Mine.hd.heap_39 w.params).In h₀) (N : News h₀ L s.heap news) (T : TopF mean mg mb h₀) (hk : cs.kind = .function)
include B F X N T hk
set_option maxHeartbeats 4000000 in
theorem get_x (hd : dp + 5 < recursionLimit) {p d : Addr} {x y : Int} {t u : Tok} {expr : Bool} (hp : (p, ptObj d x y t u) ∈ news) (hpd : (d, dictOf [] 0) ∈ news)
    (hret : ∀ (h' : Heap) (tk' : Nat), Fr h₀ L h' m → News h₀ L h' news → Q (.int x t) { s with heap := h', toks := tk' }) :
    wpAny (model prog w) (ktrTop dp un gd cn cs L a ccd cl outer) (getAttr (.ref p) (Str.ofString "x") expr) Q E s := by
  walk1
  refine wpAny_call ?_
  k_dflt cell_enter
  repeat' (first | (k_unfold; (try dsimp only)) | walk1 | (dsimp only; walk1))
  exact hret _ _ (by assumption) (by assumption)
set_option maxHeartbeats 4000000 in
theorem get_y (hd : dp + 5 < recursionLimit) {p d : Addr} {x y : Int} {t u : Tok} {expr : Bool} (hp : (p, ptObj d x y t u) ∈ news) (hpd : (d, dictOf [] 0) ∈ news)
    (hret : ∀ (h' : Heap) (tk' : Nat), Fr h₀ L h' m → News h₀ L h' news → Q (.int y u) { s with heap := h', toks := tk' }) :
    wpAny (model prog w) (ktrTop dp un gd cn cs L a ccd cl outer) (getAttr (.ref p) (Str.ofString "y") expr) Q E s := by
  walk1
  refine wpAny_call ?_
  k_dflt cell_enter
  repeat' (first | (k_unfold; (try dsimp only)) | walk1 | (dsimp only; walk1))
  exact hret _ _ (by assumption) (by assumption)
set_option maxHeartbeats 4000000 in
theorem is_left (hd : dp + 5 < recursionLimit) {k : Int} {t : Tok}
    (hret : ∀ (h' : Heap) (tk' : Nat), Fr h₀ L h' m → News h₀ L h' news → Q (.bool (decide (k % 2 = 0))) { s with heap := h', toks := tk' }) :
    wpAny (model prog w) (ktrTop dp un gd cn cs L a ccd cl outer) (call (.ref 35) [.int k t]) Q E s := by
  refine wpAny_call ?_
  k_dflt cell_enter
  repeat' (first | (k_unfold; (try dsimp only)) | walk1 | (dsimp only; walk1))
  rw [even_bit]
  exact hret _ _ (by assumption) (by assumption)
end
end Mine
end TP3
section TP4
open PySem PySem.Calls PySem.W PyProof.Rows
namespace Mine
section
variable {prog : Program} {w : World} {A : Around} {E : Value → Shared → Prop} {s : Shared} {K : Frag} {x C L : Addr} {ox od : Obj} {name : Str} {h₀ : Heap} {m : Str → Option Value} {news : List (Addr × Obj)}
theorem kind_tlt : builtinKind "tuple.__lt__" = some .slot := by decide +kernel
theorem split_tlt : splitId "tuple.__lt__" = some ("tuple", "__lt__") := by decide +kernel

/-- a comparison that a built-in slot answers, both sides of one type -/
theorem rc_slot {op : CmpOp} {a : Addr} {b tt : Value} {id : String} {Q : Value → Shared → Prop} (hu : A.units < cLine) (ha : Looks (model prog w) s.heap (typeOf (.ref a)) tt) (hb : Looks (model prog w) s.heap (typeOf b) tt)
    (hl : Looks (model prog w) s.heap (typeLookup tt (cmpInfo op).2.1) (some (.builtin id))) (hbind : bindSpecial (.builtin id) (.ref a) = pure (.builtin id, [.ref a]))
    (hc : wpAny (model prog w) A (call (.builtin id) [.ref a, b]) (W.CmpBack Q) E s) : wpAny (model prog w) A (richCompare op (.ref a) b) Q E s := by
  have sp : ∀ R : Option Value → Shared → Prop, (∀ v s', W.CmpBack Q v s' → R (some v) s') → wpAny (model prog w) A (callSpecialIfBound? (.ref a) (cmpInfo op).2.1 [b]) R E s := by
    intro R hR
    simp only [callSpecialIfBound?, bindSpecialIfBound?]
    have fin : wpAny (model prog w) A (call (.builtin id) ([.ref a] ++ [b]) >>= fun v => pure (some v)) R E s :=
      wpAny_bind (wpAny_mono hc (fun v s' hv => wpAny_pure (hR v s' hv)) fun _ _ h' => h')
    refine wpAny_holding (wpAny_bind (wpAny_bind (wpAny_bind (ha.here (hl.here ?_)))))
    refine wpAny_bind (wpAny_askSetting (wpAny_ite ?_))
    split
    · rw [hbind]; exact wpAny_bind (wpAny_pure (wpAny_pure fin))
    · rw [hbind]; exact wpAny_tryCatch (wpAny_bind (wpAny_pure (wpAny_pure fin)))
  have one : wpAny (model prog w) A (tryCompare (.ref a) (cmpInfo op).2.1 b) (fun r s' => ∃ v, r = some v ∧ Q v s') E s := by
    unfold tryCompare
    refine wpAny_bind (sp _ fun v s' hv => ?_)
    cases v <;> first | exact hv.elim | exact wpAny_pure ⟨_, rfl, hv⟩
  unfold richCompare
  simp only [oneThing_ref]
  refine wpAny_holding (wpAny_bind (wpAny_cRoomFor hu ?_))
  refine wpAny_bind (ha.here (wpAny_bind (hb.here ?_)))
  split
  · rename_i q; simp at q
  · refine wpAny_bind (wpAny_pure ?_)
    simp only [Bool.false_eq_true, if_false]
    refine wpAny_bind (wpAny_mono one (fun r s' z => ?_) fun _ _ e => e)
    obtain ⟨v, rfl, hq⟩ := z
    exact wpAny_pure hq

theorem rc_lt_int {x y : Int} {t u : Tok} {Q : Value → Shared → Prop} (h : Q (.bool (decide (x < y))) s) : wpAny (model prog w) A (richCompare .Lt (.int x t) (.int y u)) Q E s :=
  (PyProof.Rows.lt_int h : wpAny (model prog w) A (compareOp .Lt (.int x t) (.int y u)) Q E s)

theorem tlt_pair {a b : Addr} {ca cb : Value} {da db : Option Addr} {na nb : Nat} {sla slb : Array (Option Value)} {x1 y1 x2 y2 : Int} {t1 u1 t2 u2 : Tok} {Q : Value → Shared → Prop}
    (ha : s.heap.get? a = some ⟨ca, da, .seq #[.int x1 t1, .int y1 u1] na, sla⟩) (hb : s.heap.get? b = some ⟨cb, db, .seq #[.int x2 t2, .int y2 u2] nb, slb⟩)
    (hi : Looks (model prog w) s.heap (isInstance (.ref b) (.type "tuple")) true)
    (h : Q (.bool (decide (x1 < x2 ∨ (x1 = x2 ∧ y1 < y2)))) s) :
    wpAny (model prog w) A.in1 (Builtin.«tuple.__lt__» ⟨[.ref a, .ref b], []⟩) (fun fin s' => ∃ v, fin = .done (.ret v) ∧ Q v s') E s := by
  obtain ⟨hh, gg, d, t, os⟩ := s
  dsimp only at ha hb hi
  repeat (first | with_reducible refine wpAny_eqBool_int ?_ | lk)
  by_cases e1 : x1 = x2
  · subst e1
    rw [if_neg (by simp)]
    repeat (first | with_reducible refine wpAny_eqBool_int ?_ | lk)
    by_cases e2 : y1 = y2
    · subst e2
      rw [if_neg (by simp)]
      repeat (first | with_reducible refine wpAny_eqBool_int ?_ | lk)
      refine ⟨_, rfl, ?_⟩
      simpa [Builtin.Tuple.tupleCompareSizes] using h
    · rw [if_pos (by simpa using e2)]
      repeat (first | with_reducible refine wpAny_eqBool_int ?_ | with_reducible refine rc_lt_int ?_ | lk)
      refine ⟨_, rfl, ?_⟩
      simpa using h
  · rw [if_pos (by simpa using e1)]
    repeat (first | with_reducible refine wpAny_eqBool_int ?_ | with_reducible refine rc_lt_int ?_ | lk)
    refine ⟨_, rfl, ?_⟩
    simpa [e1] using h
theorem kind_teq : builtinKind "tuple.__eq__" = some .slot := by decide +kernel
theorem split_teq : splitId "tuple.__eq__" = some ("tuple", "__eq__") := by decide +kernel
theorem tlt_call {a b : Addr} {tt : Value} {Q : Value → Shared → Prop} (ha : Looks (model prog w) s.heap (typeOf (.ref a)) tt) (hm : Looks (model prog w) s.heap (isSubtype tt (.type "tuple")) true)
    (h : wpAny (model prog w) A.in1 (Builtin.«tuple.__lt__» ⟨[.ref a, .ref b], []⟩) (fun fin s' => ∃ v, fin = .done (.ret v) ∧ Q v s') E s) :
    wpAny (model prog w) A (call (.builtin "tuple.__lt__") [.ref a, .ref b]) Q E s := by
  refine wpAny_call (codeAny_call_builtin PySem.F.slot_tuple_lt.plain PySem.F.entry_tuple_lt ?_)
  refine @check_slot (model prog w) _ _ s "tuple.__lt__" "tuple" "__lt__" (.ref a) [.ref b] [] _ kind_tlt split_tlt (ha.andThen hm) (PySem.F.args_tuple_lt_2 (.ref a) (.ref b)) ?_
  refine wpAny_mono h (fun fin s' z => ?_) fun _ _ z => z
  obtain ⟨v, rfl, hv⟩ := z
  exact hv
theorem teq_call {a b : Addr} {tt : Value} {Q : Value → Shared → Prop} (ha : Looks (model prog w) s.heap (typeOf (.ref a)) tt) (hm : Looks (model prog w) s.heap (isSubtype tt (.type "tuple")) true)
    (h : wpAny (model prog w) A.in1 (Builtin.«tuple.__eq__» ⟨[.ref a, .ref b], []⟩) (fun fin s' => ∃ v, fin = .done (.ret v) ∧ Q v s') E s) :
    wpAny (model prog w) A (call (.builtin "tuple.__eq__") [.ref a, .ref b]) Q E s := by
  refine wpAny_call (codeAny_call_builtin PySem.F.slot_tuple_eq.plain PySem.F.entry_tuple_eq ?_)
  refine @check_slot (model prog w) _ _ s "tuple.__eq__" "tuple" "__eq__" (.ref a) [.ref b] [] _ kind_teq split_teq (ha.andThen hm) (PySem.F.args_tuple_eq_2 (.ref a) (.ref b)) ?_
  refine wpAny_mono h (fun fin s' z => ?_) fun _ _ z => z
  obtain ⟨v, rfl, hv⟩ := z
  exact hv
/-- two points, by x then y -/
theorem pt_lt {a b d d' : Addr} {x1 y1 x2 y2 : Int} {t1 u1 t2 u2 : Tok} {Q : Value → Shared → Prop} (X : K.In s.heap)
    (ha : s.heap.get? a = some (ptObj d x1 y1 t1 u1)) (hb : s.heap.get? b = some (ptObj d' x2 y2 t2 u2)) (hf : findIn K (.ref 174) "__lt__" = some (some (.builtin "tuple.__lt__"))) (hm : mroIn K 174 (.type "tuple") = some true) (hu : A.units < cLine)
    (h : Q (.bool (decide (x1 < x2 ∨ (x1 = x2 ∧ y1 < y2)))) s) : wpAny (model prog w) A (compareOp .Lt (.ref a) (.ref b)) Q E s := by
  have Ta : Looks (model prog w) s.heap (typeOf (.ref a)) (.ref 174) := (Looks.ld ha).andThen .now
  have Tb : Looks (model prog w) s.heap (typeOf (.ref b)) (.ref 174) := (Looks.ld hb).andThen .now
  refine W.cmp_ofLt (rc_slot hu Ta Tb (looks_findIn X hf) (PySem.F.slot_tuple_lt.bind _) ?_)
  exact tlt_call Ta (looks_mroIn X hm) (tlt_pair ha hb (Tb.andThen (looks_mroIn X hm)) h)
abbrev tupObj (x y : Int) (t u : Tok) : Obj := { cls := .type "tuple", data := .seq #[.int x t, .int y u] }
theorem looks_tup {a : Addr} {o : Obj} {h : Heap} (ha : h.get? a = some o) (hc : o.cls = .type "tuple") : Looks (model prog w) h (typeOf (.ref a)) (.type "tuple") := hc ▸ (Looks.ld ha).andThen .now
theorem sub_tup {h : Heap} : Looks (model prog w) h (isSubtype (.type "tuple") (.type "tuple")) true := Looks.of_pure (by rw [isSubtype_type]; kernel_rfl)
theorem teq_pair {a b : Addr} {x1 y1 x2 y2 : Int} {t1 u1 t2 u2 : Tok} {Q : Value → Shared → Prop}
    (ha : s.heap.get? a = some (tupObj x1 y1 t1 u1)) (hb : s.heap.get? b = some (tupObj x2 y2 t2 u2))
    (h : Q (.bool (decide (x1 = x2 ∧ y1 = y2))) s) :
    wpAny (model prog w) A.in1 (Builtin.«tuple.__eq__» ⟨[.ref a, .ref b], []⟩) (fun fin s' => ∃ v, fin = .done (.ret v) ∧ Q v s') E s := by
  have hi : Looks (model prog w) s.heap (isInstance (.ref b) (.type "tuple")) true := (looks_tup hb rfl).andThen sub_tup
  obtain ⟨hh, gg, d, t, os⟩ := s
  dsimp only at ha hb hi
  repeat (first | with_reducible refine wpAny_eqBool_int ?_ | lk)
  by_cases e1 : x1 = x2
  · subst e1
    rw [if_neg (by simp)]
    repeat (first | with_reducible refine wpAny_eqBool_int ?_ | lk)
    by_cases e2 : y1 = y2
    · subst e2
      rw [if_neg (by simp)]
      repeat (first | with_reducible refine wpAny_eqBool_int ?_ | lk)
      refine ⟨_, rfl, ?_⟩
      simpa [Builtin.Tuple.tupleCompareSizes] using h
    · rw [if_pos (by simpa using e2)]
      repeat (first | with_reducible refine wpAny_eqBool_int ?_ | lk)
      refine ⟨_, rfl, ?_⟩
      simpa [e2] using h
  · rw [if_pos (by simpa using e1)]
    repeat (first | with_reducible refine wpAny_eqBool_int ?_ | lk)
    refine ⟨_, rfl, ?_⟩
    simpa [e1] using h
theorem tup_eqBool {a b : Addr} {x1 y1 x2 y2 : Int} {t1 u1 t2 u2 : Tok} {Q : Bool → Shared → Prop} (hu : A.units < cLine)
    (ha : s.heap.get? a = some (tupObj x1 y1 t1 u1)) (hb : s.heap.get? b = some (tupObj x2 y2 t2 u2))
    (h : Q (decide (x1 = x2 ∧ y1 = y2)) s) : wpAny (model prog w) A (eqBool (.ref a) (.ref b)) Q E s := by
  unfold eqBool
  refine wpAny_holding ?_
  show wpAny _ _ (if (Value.ref a == Value.ref b) = true then _ else _) Q E s
  by_cases hab : (Value.ref a == Value.ref b) = true
  · rw [if_pos hab]
    have e : a = b := by have := eq_of_beq hab; injection this
    subst e
    rw [ha] at hb
    cases hb
    exact wpAny_bind (wpAny_rule (wpAny_pure (by simpa using h)))
  · rw [if_neg hab]
    refine wpAny_bind (rc_slot hu (looks_tup ha rfl) (looks_tup hb rfl) (Looks.of_pure PySem.F.slot_tuple_eq.lookup) (PySem.F.slot_tuple_eq.bind _) (teq_call (looks_tup ha rfl) sub_tup (teq_pair ha hb ?_)))
    exact wpAny_truthy_bool h
theorem tup_lt {a b : Addr} {x1 y1 x2 y2 : Int} {t1 u1 t2 u2 : Tok} {Q : Value → Shared → Prop} (hu : A.units < cLine)
    (ha : s.heap.get? a = some (tupObj x1 y1 t1 u1)) (hb : s.heap.get? b = some (tupObj x2 y2 t2 u2))
    (h : Q (.bool (decide (x1 < x2 ∨ (x1 = x2 ∧ y1 < y2)))) s) : wpAny (model prog w) A (richCompare .Lt (.ref a) (.ref b)) Q E s :=
  rc_slot hu (looks_tup ha rfl) (looks_tup hb rfl) (Looks.of_pure PySem.F.slot_tuple_lt.lookup) (PySem.F.slot_tuple_lt.bind _) (tlt_call (looks_tup ha rfl) sub_tup (tlt_pair ha hb ((looks_tup hb rfl).andThen sub_tup) h))
abbrev plcObj (p q : Addr) (k : Int) (t : Tok) : Obj := { cls := .type "tuple", data := .seq #[.ref p, .int k t, .ref q] }
/-- two places: by the first pair, then the number, then the second pair -/
theorem plc_lt {a b p1 q1 p2 q2 : Addr} {k1 k2 x1 y1 z1 w1 x2 y2 z2 w2 : Int} {t1 t2 ta tb tc td te tf tg th : Tok} {Q : Value → Shared → Prop} (hu : A.units + 2 < cLine)
    (ha : s.heap.get? a = some (plcObj p1 q1 k1 t1)) (hb : s.heap.get? b = some (plcObj p2 q2 k2 t2))
    (hp1 : s.heap.get? p1 = some (tupObj x1 y1 ta tb)) (hp2 : s.heap.get? p2 = some (tupObj x2 y2 tc td))
    (hq1 : s.heap.get? q1 = some (tupObj z1 w1 te tf)) (hq2 : s.heap.get? q2 = some (tupObj z2 w2 tg th))
    (h : Q (.bool (if x1 = x2 ∧ y1 = y2 then (if k1 = k2 then decide (z1 < z2 ∨ (z1 = z2 ∧ w1 < w2)) else decide (k1 < k2)) else decide (x1 < x2 ∨ (x1 = x2 ∧ y1 < y2)))) s) :
    wpAny (model prog w) A (compareOp .Lt (.ref a) (.ref b)) Q E s := by
  refine W.cmp_ofLt (rc_slot (by omega) (looks_tup ha rfl) (looks_tup hb rfl) (Looks.of_pure PySem.F.slot_tuple_lt.lookup) (PySem.F.slot_tuple_lt.bind _) (tlt_call (looks_tup ha rfl) sub_tup ?_))
  have hi : Looks (model prog w) s.heap (isInstance (.ref b) (.type "tuple")) true := (looks_tup hb rfl).andThen sub_tup
  have hu' : A.in1.units < cLine := by simp; omega
  obtain ⟨hh, gg, d, t, os⟩ := s
  dsimp only at ha hb hi hp1 hp2 hq1 hq2
  repeat (first | with_reducible refine tup_eqBool hu' hp1 hp2 ?_ | lk)
  by_cases e1 : x1 = x2 ∧ y1 = y2
  · rw [if_pos e1] at h
    rw [if_neg (by simp [e1])]
    repeat (first | with_reducible refine wpAny_eqBool_int ?_ | lk)
    by_cases e2 : k1 = k2
    · rw [if_pos e2] at h
      rw [if_neg (by simp [e2])]
      repeat (first | with_reducible refine tup_eqBool hu' hq1 hq2 ?_ | lk)
      by_cases e3 : z1 = z2 ∧ w1 = w2
      · rw [if_neg (by simp [e3])]
        repeat (first | with_reducible refine wpAny_eqBool_int ?_ | lk)
        refine ⟨_, rfl, ?_⟩
        show Q _ _
        simpa [Builtin.Tuple.tupleCompareSizes, e3] using h
      · rw [if_pos (by rw [Bool.not_eq_true', decide_eq_false_iff_not]; exact e3)]
        repeat (first | with_reducible refine tup_lt hu' hq1 hq2 ?_ | lk)
        exact ⟨_, rfl, h⟩
    · rw [if_neg e2] at h
      rw [if_pos (by simpa using e2)]
      repeat (first | with_reducible refine rc_lt_int ?_ | lk)
      exact ⟨_, rfl, h⟩
  · rw [if_neg e1] at h
    rw [if_pos (by rw [Bool.not_eq_true', decide_eq_false_iff_not]; exact e1)]
    repeat (first | with_reducible refine tup_lt hu' hp1 hp2 ?_ | lk)
    exact ⟨_, rfl, h⟩
end
end Mine
end TP4
section TP5
open PySem PySem.Calls PySem.W PyProof.Rows
namespace Mine
theorem fill2 : PySem.Challenge.rw_ja0006_01 = PySem.Challenge.rw_ja0006_01 ∧ Mine.hd.heap_39 = Mine.hd.heap_39 := by k_fill; exact ⟨rfl, rfl⟩
local macro_rules | `(tactic| k_room) => `(tactic| ktr_room)
theorem mem_of {α : Type} {a : α} {l : List α} (h : a ∈ l) : List.Mem a l := h
local macro_rules | `(tactic| k_mem) => `(tactic| first | with_reducible assumption | (refine mem_of ?_; with_reducible assumption))
section
variable {prog : Program} {w : World} {A : Around} {E : Value → Shared → Prop} {s : Shared} {L : Addr} {h₀ : Heap} {m : Str → Option Value} {news : List (Addr × Obj)}
/-- an item of a list of the ledger's, at a place that is not written -/
theorem item_N {value slice : PySem.Expr} {l : Addr} {vs : List Value} {n : Nat} {k : Int} {u : Tok} {v : Value} {Q : Value → Shared → Prop} (N : News h₀ L s.heap news) (hl : (l, listOf vs.toArray n) ∈ news)
    (h0 : 0 ≤ k) (hhi : k < 2 ^ 63) (hx : vs[k.toNat]? = some v) (h : Q v s)
    (hs : subscripted slice false (.ref l) (.int k u) = operate [.ref l, .int k u] (getItem (.ref l) (.int k u)) := by with_unfolding_all rfl) :
    wpAny (model prog w) A (subscriptTail value slice (.ref l) (.int k u)) Q E s :=
  have hL : s.heap.IsList l vs.toArray := ⟨_, (N _ hl).1, rfl, n, rfl⟩
  tail_any hL.typeIs slot_list_getitem.lookup (wpAny_getItem_list hL h0 hhi (by simpa using hx) h) hs
theorem pt_ltN {K : Frag} {a b d d' : Addr} {x1 y1 x2 y2 : Int} {t1 u1 t2 u2 : Tok} {Q : Value → Shared → Prop} (F : Fr h₀ L s.heap m) (X₀ : K.In h₀) (N : News h₀ L s.heap news)
    (ha : (a, ptObj d x1 y1 t1 u1) ∈ news) (hb : (b, ptObj d' x2 y2 t2 u2) ∈ news) (hf : findIn K (.ref 174) "__lt__" = some (some (.builtin "tuple.__lt__"))) (hm : mroIn K 174 (.type "tuple") = some true) (hu : A.units < cLine)
    (h : Q (.bool (decide (x1 < x2 ∨ (x1 = x2 ∧ y1 < y2)))) s) : wpAny (model prog w) A (compareOp .Lt (.ref a) (.ref b)) Q E s :=
  pt_lt (X₀.keeps F.keep) (N _ ha).1 (N _ hb).1 hf hm hu h
end
local macro_rules | `(tactic| walk_at "subscriptTail") => `(tactic| (k_here; (with_reducible show wpAny _ _ (subscriptTail _ _ (Value.ref _) (Value.int _ _)) _ _ _); (with_unfolding_all refine' item_N ?k1 ?k2 ?k3 ?k4 ?k5 ?_ ?k6; (case k1 => k_asm); (case k2 => k_mem); (case k3 => assumption); (case k4 => assumption); (case k5 => assumption); (case k6 => with_unfolding_all rfl); k_whole)))
local macro_rules | `(tactic| walk_at "getAttr ref") => `(tactic| (k_here; (with_reducible show wpAny _ _ (getAttr (Value.ref _) (PySem.Str.ofString "x") _) _ _ _); k_dflt (refine' get_x ?k1 ?k2 ?k3 ?k4 ?k5 ?k6 ?k7 ?k8 ?k9 ?_; (case k1 => k_asm); (case k2 => k_asm); (case k3 => k_asm); (case k4 => k_asm); (case k5 => k_asm); (case k6 => first | rfl | assumption); (case k7 => ktr_room); (case k8 => k_mem); (case k9 => k_mem); k_whole); intro h' tk' F' N'; (try k_fold)))
local macro_rules | `(tactic| walk_at "getAttr ref") => `(tactic| (k_here; (with_reducible show wpAny _ _ (getAttr (Value.ref _) (PySem.Str.ofString "y") _) _ _ _); k_dflt (refine' get_y ?k1 ?k2 ?k3 ?k4 ?k5 ?k6 ?k7 ?k8 ?k9 ?_; (case k1 => k_asm); (case k2 => k_asm); (case k3 => k_asm); (case k4 => k_asm); (case k5 => k_asm); (case k6 => first | rfl | assumption); (case k7 => ktr_room); (case k8 => k_mem); (case k9 => k_mem); k_whole); intro h' tk' F' N'; (try k_fold)))
local macro_rules | `(tactic| walk_at "call ref") => `(tactic| (k_here; (with_reducible show wpAny _ _ (call (Value.ref 35) _) _ _ _); k_dflt (refine' is_left ?k1 ?k2 ?k3 ?k4 ?k5 ?k6 ?k7 ?_; (case k1 => k_asm); (case k2 => k_asm); (case k3 => k_asm); (case k4 => k_asm); (case k5 => k_asm); (case k6 => first | rfl | assumption); (case k7 => ktr_room); k_whole); intro h' tk' F' N'; (try k_fold)))
local macro_rules | `(tactic| walk_at "compareOp Lt ref ref") => `(tactic| (k_here; k_dflt (refine' pt_ltN ?k1 ?k2 ?k3 ?k4 ?k5 ?k6 ?k7 ?k8 ?_; (case k1 => k_asm); (case k2 => k_asm); (case k3 => k_asm); (case k4 => k_mem); (case k5 => k_mem); (case k6 => k_is); (case k7 => k_is); (case k8 => ktr_units); k_whole)))
section
variable {prog : Program} {w : World} {mean : ExcName → Option Value} {mg mb : Str → Option Value}
  {dp un : Nat} {gd : Option (List Code)} {cn : Str} {cs : Scope} {a : Addr} {ccd : Value} {cl : List (Str × Addr)} {outer : List Env} {A₀ : Around} {base h₀ : Heap} {L : Addr} {m : Str → Option Value} {s : Shared} {Q E : Value → Shared → Prop} {news : List (Addr × Obj)}
omit s in
theorem end_bool {s : Shared} {c v : Bool} {h' : Heap} {tk' : Nat} (hret : ∀ (h' : Heap) (tk' : Nat), Fr h₀ L h' m → News h₀ L h' news → Q (.bool c) { s with heap := h', toks := tk' }) (e : v = c) (F : Fr h₀ L h' m) (N : News h₀ L h' news) : Q (.bool v) { s with heap := h', toks := tk' } := e ▸ hret h' tk' F N
theorem key_e1 {x y : Int} {b c : Bool} (h : x ≠ y) : c = if x = y then b else c := by rw [if_neg h]
theorem key_e2 {x y x' y' : Int} {b c d : Bool} (h : x = y) (h' : x' ≠ y') : c = if x = y then (if x' = y' then b else c) else d := by rw [if_pos h, if_neg h']
theorem key_e3 {x y x' y' : Int} {b c d e p q : Bool} (h : x = y) (h' : x' = y') (h2 : (p != q) = true) : c = if x = y then (if x' = y' then (if p = q then b else c) else d) else e := by rw [if_pos h, if_pos h', if_neg (by simpa using h2)]
theorem key_e4 {x y x' y' : Int} {b c d e p q : Bool} (h : x = y) (h' : x' = y') (h2 : (p != q) = false) : b = if x = y then (if x' = y' then (if p = q then b else c) else d) else e := by rw [if_pos h, if_pos h', if_pos (by simpa using h2)]
abbrev keyDict (w : World) (ends opp : Addr) (i : Int) (s1 s2 s3 t : Tok) : Obj :=
  dictOf [⟨PyData.keyHash w.params (Str.ofString "endpoints"), .str (Str.ofString "endpoints") s1, .ref ends⟩, ⟨PyData.keyHash w.params (Str.ofString "event"), .str (Str.ofString "event") s2, .int i t⟩, ⟨PyData.keyHash w.params (Str.ofString "opposites"), .str (Str.ofString "opposites") s3, .ref opp⟩] 3
  
set_option maxHeartbeats 4000000 in
theorem lt_key (B : Below A₀ base outer h₀) (F : Fr h₀ L s.heap m) (X : (Mine.hd.heap_39 w.params).In h₀) (N : News h₀ L s.heap news) (T : TopF mean mg mb h₀) (hk : cs.kind = .function) (hd : dp + 10 < recursionLimit) (hu : un + 40 < cLine)
    {ka kb da db ends opp : Addr} {i j oi oj : Int} {s1 s2 s3 s4 s5 s6 ti tj toi toj : Tok} {evs ovs : List Value} {n1 n2 : Nat}
    (hka : (ka, instObj 59 da) ∈ news) (hda : (da, keyDict w ends opp i s1 s2 s3 ti) ∈ news)
    (hkb : (kb, instObj 59 db) ∈ news) (hdb : (db, keyDict w ends opp j s4 s5 s6 tj) ∈ news)
    (hends : (ends, listOf evs.toArray n1) ∈ news) (hopp : (opp, listOf ovs.toArray n2) ∈ news)
    (i0 : 0 ≤ i) (i1 : i < 2 ^ 63) (j0 : 0 ≤ j) (j1 : j < 2 ^ 63) (oi0 : 0 ≤ oi) (oi1 : oi < 2 ^ 63) (oj0 : 0 ≤ oj) (oj1 : oj < 2 ^ 63)
    (hoi : ovs[i.toNat]? = some (.int oi toi)) (hoj : ovs[j.toNat]? = some (.int oj toj))
    {pi pj qi qj di dj ei ej : Addr} {xi yi xj yj zi wi zj wj : Int} {t1 t2 t3 t4 t5 t6 t7 t8 : Tok}
    (hpi : evs[i.toNat]? = some (.ref pi)) (hpj : evs[j.toNat]? = some (.ref pj)) (hqi : evs[oi.toNat]? = some (.ref qi)) (hqj : evs[oj.toNat]? = some (.ref qj))
    (hP1 : (pi, ptObj di xi yi t1 t2) ∈ news) (hD1 : (di, dictOf [] 0) ∈ news)
    (hP2 : (pj, ptObj dj xj yj t3 t4) ∈ news) (hD2 : (dj, dictOf [] 0) ∈ news)
    (hP3 : (qi, ptObj ei zi wi t5 t6) ∈ news) (hD3 : (ei, dictOf [] 0) ∈ news)
    (hP4 : (qj, ptObj ej zj wj t7 t8) ∈ news) (hD4 : (ej, dictOf [] 0) ∈ news)
    (hret : ∀ (h' : Heap) (tk' : Nat), Fr h₀ L h' m → News h₀ L h' news → Q (.bool (if xi = xj then (if yi = yj then (if decide (i % 2 = 0) = decide (j % 2 = 0) then decide (zi < zj ∨ (zi = zj ∧ wi < wj)) else !decide (i % 2 = 0)) else decide (yi < yj)) else decide (xi < xj))) { s with heap := h', toks := tk' }) :
    wpAny (model prog w) (ktrTop dp un gd cn cs L a ccd cl outer) (compareOp .Lt (.ref ka) (.ref kb)) Q E s := by
  refine W.cmp_ofLt ?_
  refine' W.cmp_K ?k1 ?k2 ?k3 ?k4 ?k5 ?k6 ?k7 ?k8 ?_
  case k1 => ktr_units
  case k2 => k_asm
  case k3 => k_asm
  case k4 => k_inst
  case k5 => k_typeOf
  case k6 => k_is
  case k7 => k_is
  case k8 => k_is
  refine wpAny_call ?_
  k_dflt cell_enter
  repeat' (first | (k_unfold; (try dsimp only)) | walk1 | (dsimp only; walk1))
  all_goals refine end_bool hret ?_ (by assumption) (by first | assumption | (refine' cb_drop ?cbN ?cbS; (case cbN => assumption); (case cbS => intro p hp; repeat (first | exact hp | refine List.mem_cons_of_mem _ ?_))))
  all_goals first | exact key_e1 (by assumption) | exact key_e2 (by assumption) (by assumption) | exact key_e3 (by assumption) (by assumption) (by assumption) | exact key_e4 (by assumption) (by assumption) (by assumption)
end
end Mine
end TP5
section TP6
open PySem PySem.Calls PySem.W PyProof.Rows
namespace Mine
theorem fill3 : PySem.Challenge.rw_ja0006_01 = PySem.Challenge.rw_ja0006_01 ∧ Mine.hd.heap_39 = Mine.hd.heap_39 := by k_fill; exact ⟨rfl, rfl⟩
local macro_rules | `(tactic| k_room) => `(tactic| ktr_room)
local macro_rules | `(tactic| k_units) => `(tactic| ktr_units)
local macro_rules | `(tactic| walk_at "call builtin:sorted") => `(tactic| (k_here; (with_reducible show wpAny _ _ (call (Value.builtin _) [Value.ref _]) _ _ _); (with_unfolding_all refine' kat_sorted ?k1 ?k2 ?k3 ?k4 ?k5 ?_; (case k1 => k_asm); (case k2 => k_asm); (case k3 => kso_list); (case k4 => exact Nat.le_of_ble_eq_true rfl); (case k5 => exact Nat.le_of_ble_eq_true rfl); k_whole); intro D' e' h' F' N' l1; (try k_sweep)))
theorem ne_of_all_lt {d : Addr} {r : List (Addr × Obj)} (h : ∀ q ∈ r, @LT.lt Nat _ q.1 d) : ∀ p ∈ r, p.1 ≠ d := fun p hp => Nat.ne_of_lt (h p hp)
local macro_rules | `(tactic| walk_at "KasFin") => `(tactic| (kas_out; (k_dflt (refine' KasFin.intro ?F ?N ?U ?_; (case F => k_asm); (case N => k_asm); (case U => exact UpdF.head (ne_of_all_lt (by assumption))); k_whole)); intro h' c' F' N'; (try dsimp only at N'); (try k_sweep)))
section
variable {prog : Program} {w : World} {mean : ExcName → Option Value} {mg mb : Str → Option Value}
  {dp un : Nat} {gd : Option (List Code)} {cn : Str} {cs : Scope} {a : Addr} {ccd : Value} {cl : List (Str × Addr)} {outer : List Env} {A₀ : Around} {base h₀ : Heap} {L : Addr} {m : Str → Option Value} {s : Shared} {Q E : Value → Shared → Prop} {news : List (Addr × Obj)}
set_option maxHeartbeats 4000000 in
theorem drawn (B : Below A₀ base outer h₀) (F : Fr h₀ L s.heap m) (X : (Mine.hd.heap_39 w.params).In h₀) (N : News h₀ L s.heap news) (T : TopF mean mg mb h₀) (hk : cs.kind = .function) (hd : dp + 10 < recursionLimit) (hu : un + 40 < cLine)
    {n : Int} {t : Tok}
    (hret : ∀ (r p1 p2 : Addr) (x1 y1 x2 y2 : Int) (t1 u1 t2 u2 : Tok) (k : Nat) (h' : Heap) (tk' : Nat) (news' : List (Addr × Obj)), Fr h₀ L h' m → News h₀ L h' news' → (∀ q ∈ news, q ∈ news') →
      (r, listOf #[.ref p1, .ref p2] k) ∈ news' → (p1, tupObj x1 y1 t1 u1) ∈ news' → (p2, tupObj x2 y2 t2 u2) ∈ news' → Q (.ref r) { s with heap := h', toks := tk' }) :
    wpAny (model prog w) (ktrTop dp un gd cn cs L a ccd cl outer) (call (.ref 184) [.int n t]) Q E s := by
  refine wpAny_call ?_
  k_dflt cell_enter
  repeat' (first | (k_unfold; (try dsimp only)) | walk1 | (dsimp only; walk1))
  all_goals (refine' hret _ _ _ _ _ _ _ _ _ _ _ _ _ _ _ ?F ?N ?s ?m1 ?m2 ?m3; (case F => assumption); (case N => assumption); (case s => intro q hq; repeat (first | exact hq | refine List.mem_cons_of_mem _ ?_)); (case m1 => k_mem); (case m2 => k_mem); (case m3 => k_mem))
end
end Mine
end TP6
section TP7
open PySem PySem.Calls PySem.W PyProof.Rows
namespace Mine
section
variable {prog : Program} {w : World} {A : Around} {E : Value → Shared → Prop} {s : Shared} {L : Addr} {h₀ : Heap} {m : Str → Option Value} {news : List (Addr × Obj)}
theorem made_none {h : Heap} (X : (Mine.hd.heap_39 w.params).In h) : Looks (model prog w) h (Bind.madeBy (.ref 174)) none := Looks.of_peek X (by kernel_rfl)
theorem static_tup {h : Heap} (X : (Mine.hd.heap_39 w.params).In h) : Looks (model prog w) h (Bind.staticBase (.ref 174)) (.type "tuple") := Looks.of_peek X (by kernel_rfl)
theorem isType_pt {h : Heap} (X : (Mine.hd.heap_39 w.params).In h) : Looks (model prog w) h (isType (.ref 174)) true := Looks.of_peek X (by kernel_rfl)
theorem sub_pt {h : Heap} (X : (Mine.hd.heap_39 w.params).In h) : Looks (model prog w) h (isSubtype (.ref 174) (.type "tuple")) true := Looks.of_peek X (by kernel_rfl)
theorem init_pt {h : Heap} (X : (Mine.hd.heap_39 w.params).In h) : Looks (model prog w) h (typeLookup (.ref 174) "__init__") (some (.builtin "object.__init__")) := looks_findIn X (by kernel_rfl)
theorem del_pt {h : Heap} (X : (Mine.hd.heap_39 w.params).In h) : Looks (model prog w) h (classHasDel 174) false := Looks.of_peek X (by kernel_rfl)
theorem kind_tnew : builtinKind "tuple.__new__" = some .builtinFn := by decide +kernel
theorem split_tnew : splitId "tuple.__new__" = some ("tuple", "__new__") := by decide +kernel
set_option maxHeartbeats 4000000 in
theorem new_ptK {p : Addr} {x y : Int} {t u : Tok} {Q : Value → Shared → Prop} (X : (Mine.hd.heap_39 w.params).In s.heap) (hp : s.heap.get? p = some (tupObj x y t u))
    (h : ∀ h' : Heap, (∀ b o', s.heap.get? b = some o' → h'.get? b = some o') → Q (.ref (h'.objs.size + 1)) { s with heap := (h'.push { cls := .type "dict", data := .dict #[] }).push (ptObj h'.objs.size x y t u) }) :
    wpAny (model prog w) A (call (.builtin "tuple.__new__") [.ref 174, .ref p]) Q E s := by
  obtain ⟨hh, g, d, tk, os⟩ := s
  dsimp only at X hp h
  have m0 := made_none (prog := prog) X
  have m1 := static_tup (prog := prog) X
  have m2 := isType_pt (prog := prog) X
  have m3 := sub_pt (prog := prog) X
  have m4 := init_pt (prog := prog) X
  have m5 : Looks (model prog w) hh (Bind.madeBy (.type "tuple")) (some "tuple.__new__") := Looks.of_pure PySem.F.called_tuple.made
  refine wpAny_call (codeAny_of_tree ?_)
  show wpAny _ A.in1 (do checkBuiltinCall "tuple.__new__" ⟨[.ref 174, .ref p], []⟩; again (.builtin "tuple.__new__" ⟨[.ref 174, .ref p], []⟩)) _ _ _
  simp only [checkBuiltinCall, kind_tnew, split_tnew]
  repeat lk
  refine ⟨plainId_quiet PySem.F.plain_tuple_new _, codeAny_builtin PySem.F.entry_tuple_new ?_⟩
  rw [Around.under_plainId PySem.F.plain_tuple_new _]
  have hz : (#[Value.int x t, Value.int y u]).size ≤ sizeLine := by rw [sizeLine_eq]; exact Nat.le_of_ble_eq_true rfl
  repeat (first | with_reducible refine wpAny_collect_seq p (.inr rfl) hp rfl rfl ?_ hz | lk)
  intro h' hk
  refine wpAny_bind (wpAny_pure (wpAny_bind (wpAny_alloc (wpAny_bind ?_))))
  have X' : (Mine.hd.heap_39 w.params).In ((h'.push { cls := .type "dict", data := .dict #[] }).push (ptObj h'.objs.size x y t u)) := X.keeps fun b o e => Heap.get?_push_of_some _ (Heap.get?_push_of_some _ (hk b o e))
  have m6 := del_pt (prog := prog) X'
  unfold newObj
  have hz' : ¬ (#[Value.int x t, Value.int y u].toList.toArray.size > sizeLine) := Nat.not_lt.mpr hz
  dsimp only
  rw [if_neg hz']
  unfold newObjAsIs
  refine wpAny_bind (wpAny_alloc ?_)
  dsimp only
  refine wpAny_bind (m6.at ?_)
  rw [if_neg (by decide)]
  refine wpAny_pure (wpAny_pure ?_)
  have e := h h' hk
  rw [← Heap.size_push h' { cls := .type "dict", data := .dict #[] }] at e
  exact e
theorem new_ptN {p : Addr} {x y : Int} {t u : Tok} {Q : Value → Shared → Prop} (F : Fr h₀ L s.heap m) (X₀ : (Mine.hd.heap_39 w.params).In h₀) (N : News h₀ L s.heap news) (hp : (p, tupObj x y t u) ∈ news)
    (h : ∀ d q h', Fr h₀ L h' m → News h₀ L h' ((q, ptObj d x y t u) :: (d, dictOf [] 0) :: news) → (∀ r ∈ news, @LT.lt Nat _ r.1 d) → @LT.lt Nat _ d q → Q (.ref q) { s with heap := h' }) :
    wpAny (model prog w) A (call (.builtin "tuple.__new__") [.ref 174, .ref p]) Q E s := by
  refine new_ptK (X₀.keeps F.keep) (N _ hp).1 fun h' hk => ?_
  have F' := F.keeps hk
  have N' := N.grown hk
  have N2 := (N'.push F' (dictOf [] 0)).push (F'.push _) (ptObj h'.objs.size x y t u)
  rw [Heap.size_push] at N2
  exact h _ _ _ ((F'.push _).push _) N2 (fun r hr => Heap.lt_size (N' r hr).1) (Nat.lt_succ_self _)
end
local macro_rules | `(tactic| k_room) => `(tactic| ktr_room)
theorem fill4 : PySem.Challenge.rw_ja0006_01 = PySem.Challenge.rw_ja0006_01 ∧ Mine.hd.heap_39 = Mine.hd.heap_39 := by k_fill; exact ⟨rfl, rfl⟩
local macro_rules | `(tactic| walk_at "getMethod type:tuple") => `(tactic| (k_here; refine' method_type ?F ?X ?m (by decide +kernel) ?e ?h ?_; (case F => k_asm); (case X => k_asm); (case m => exact typeOf_tuple); (case e => k_dflt k_is); (case h => k_handed)))
local macro_rules | `(tactic| walk_at "call builtin:tuple.__new__") => `(tactic| (k_here; k_dflt (refine' new_ptN ?k1 ?k2 ?k3 ?k4 ?_; (case k1 => k_asm); (case k2 => k_asm); (case k3 => k_asm); (case k4 => k_mem); k_whole); intro d' q' h' F' N' l1' l2'))
section
variable {prog : Program} {w : World} {mean : ExcName → Option Value} {mg mb : Str → Option Value}
  {dp un : Nat} {gd : Option (List Code)} {cn : Str} {cs : Scope} {a : Addr} {ccd : Value} {cl : List (Str × Addr)} {outer : List Env} {A₀ : Around} {base h₀ : Heap} {L : Addr} {m : Str → Option Value} {s : Shared} {Q E : Value → Shared → Prop} {news : List (Addr × Obj)}
set_option maxHeartbeats 4000000 in
theorem pt_new (B : Below A₀ base outer h₀) (F : Fr h₀ L s.heap m) (X : (Mine.hd.heap_39 w.params).In h₀) (N : News h₀ L s.heap news) (T : TopF mean mg mb h₀) (hk : cs.kind = .function) (hd : dp + 10 < recursionLimit)
    {x y : Int} {t u : Tok}
    (hret : ∀ (d q : Addr) (h' : Heap) (tk' : Nat) (news' : List (Addr × Obj)), Fr h₀ L h' m → News h₀ L h' news' → (∀ q ∈ news, q ∈ news') → (q, ptObj d x y t u) ∈ news' → (d, dictOf [] 0) ∈ news' → Q (.ref q) { s with heap := h', toks := tk' }) :
    wpAny (model prog w) (ktrTop dp un gd cn cs L a ccd cl outer) (call (.ref 124) [.ref 174, .int x t, .int y u]) Q E s := by
  refine wpAny_call ?_
  k_dflt cell_enter
  repeat' (first | (k_unfold; (try dsimp only)) | walk1 | (dsimp only; walk1))
  refine hret _ _ _ _ _ (by assumption) (by assumption) ?_ (by k_mem) (by k_mem)
  intro q hq
  repeat (first | exact hq | refine List.mem_cons_of_mem _ ?_)
end
section
variable {prog : Program} {w : World} {mean : ExcName → Option Value} {mg mb : Str → Option Value}
  {dp un : Nat} {gd : Option (List Code)} {cn : Str} {cs : Scope} {a : Addr} {ccd : Value} {cl : List (Str × Addr)} {outer : List Env} {A₀ : Around} {base h₀ : Heap} {L : Addr} {m : Str → Option Value} {s : Shared} {Q E : Value → Shared → Prop} {news : List (Addr × Obj)}
theorem pt_call {h : Heap} (X : (Mine.hd.heap_39 w.params).In h) : Looks (model prog w) h (specialOf (.ref 174) "__call__") (some (.builtin "type.__call__")) := Looks.of_peek X (by kernel_rfl)
theorem pt_typ {h : Heap} (X : (Mine.hd.heap_39 w.params).In h) : Looks (model prog w) h (isInstance (.ref 174) (.type "type")) true := Looks.of_peek X (by kernel_rfl)
theorem pt_obj {h : Heap} (X : (Mine.hd.heap_39 w.params).In h) : ∃ oc od cd sl, h.get? 174 = some ⟨oc, od, .cls cd, sl⟩ := cls_obj X (by kernel_rfl)
theorem pt_mro {h : Heap} (X : (Mine.hd.heap_39 w.params).In h) : Looks (model prog w) h (mroOf (.ref 174)) [.ref 174, .type "tuple", .type "object"] := Looks.of_peek X (by kernel_rfl)
theorem oi_args2 (a b c : Value) : argsOk "object.__init__" ⟨[a, b, c], []⟩ := by unfold argsOk; kernel_rfl
theorem inst_new {h : Heap} {q d : Addr} {x y : Int} {t u : Tok} (X : (Mine.hd.heap_39 w.params).In h) (hq : h.get? q = some (ptObj d x y t u)) : Looks (model prog w) h (isInstance (.ref q) (.ref 174)) true :=
  Looks.andThen (a := .ref 174) ((Looks.ld hq).andThen .now) (looks_mroIn X (by kernel_rfl))
theorem init_new {A : Around} {E' : Value → Shared → Prop} {h : Heap} {q d : Addr} {x y : Int} {t u : Tok} {g : Array GenState} {dd : Drawn} {tk : Nat} {os : OsState} {R : Option Value → Shared → Prop} (X : (Mine.hd.heap_39 w.params).In h) (hq : h.get? q = some (ptObj d x y t u))
    (hR : R (some .none) ⟨h, g, dd, tk, os⟩) : wpAny (model prog w) A (callSpecial? (.ref q) "__init__" [.int x t, .int y u] []) R E' ⟨h, g, dd, tk, os⟩ := by
  have ty : Looks (model prog w) h (typeOf (.ref q)) (.ref 174) := (Looks.ld hq).andThen .now
  have li := init_pt (prog := prog) X
  have m0 := made_none (prog := prog) X
  have io : Looks (model prog w) h (isInstance (.ref q) (.type "object")) true := ty.andThen (looks_mroIn X (by kernel_rfl))
  have call : ∀ (Q' : Value → Shared → Prop), Q' .none ⟨h, g, dd, tk, os⟩ → wpAny (model prog w) A (call (.builtin "object.__init__") ([.ref q] ++ [.int x t, .int y u])) Q' E' ⟨h, g, dd, tk, os⟩ := by
    intro Q' hQ'
    refine wpAny_call (codeAny_call_builtin oi_plain entry_oi (@check_slot (model prog w) _ _ _ "object.__init__" "object" "__init__" (.ref q) [.int x t, .int y u] [] _ oi_kind oi_split io (oi_args2 _ _ _) ?_))
    unfold Builtin.«object.__init__»
    repeat lk
    exact hQ'
  unfold callSpecial? specialOf
  repeat (first | with_reducible refine call _ ?_ | (rw [oi_bind]) | lk)
  exact hR
set_option maxHeartbeats 4000000 in
theorem point_new (B : Below A₀ base outer h₀) (F : Fr h₀ L s.heap m) (X₀ : (Mine.hd.heap_39 w.params).In h₀) (N : News h₀ L s.heap news) (T : TopF mean mg mb h₀) (hk : cs.kind = .function) (hd : dp + 20 < recursionLimit)
    {x y : Int} {t u : Tok}
    (hret : ∀ (d q : Addr) (h' : Heap) (tk' : Nat) (news' : List (Addr × Obj)), Fr h₀ L h' m → News h₀ L h' news' → (∀ q ∈ news, q ∈ news') → (q, ptObj d x y t u) ∈ news' → (d, dictOf [] 0) ∈ news' → Q (.ref q) { s with heap := h', toks := tk' }) :
    wpAny (model prog w) (ktrTop dp un gd cn cs L a ccd cl outer) (call (.ref 174) [.int x t, .int y u]) Q E s := by
  have X := X₀.keeps F.keep
  obtain ⟨hh, g, d, tk, os⟩ := s
  dsimp only at X
  obtain ⟨oc, od, cd, sl, hC⟩ := pt_obj X
  have m0 := made_none (prog := prog) X
  have m1 := pt_call (prog := prog) X
  have m2 := pt_typ (prog := prog) X
  have m3 := pt_mro (prog := prog) X
  refine wpAny_call (codeAny_of_tree ?_)
  show wpAny _ _ (callAny (.ref 174) _) _ _ _
  refine nd_load hC ?_
  show wpAny _ _ (callAny.viaDunder (.ref 174) _) _ _ _
  unfold callAny.viaDunder
  refine wpAny_bind (m1.at ?_)
  dsimp only
  rw [tc_bind]
  refine wpAny_bind (wpAny_pure (wpAny_bind (wpAny_pure ?_)))
  refine wpAny_pure (a := Fin.again (.call (.builtin "type.__call__") ⟨.ref 174 :: [.int x t, .int y u], []⟩)) (And.intro rfl ?_)
  refine codeAny_call_builtin_at (Code.quiet_builtin _ (by decide +kernel)) entry_typeCall (check_slot tc_kind tc_split m2 (tc_args _ _ _) ?_)
  unfold Builtin.«type.__call__»
  have ga : ∀ (A : Around) (Q' : Value → Shared → Prop) (E' : Value → Shared → Prop), Q' (.ref 124) ⟨hh, g, d, tk + 1, os⟩ → wpAny (model prog w) A (getAttr (.ref 174) "__new__") Q' E' ⟨hh, g, d, tk, os⟩ := fun A Q' E' hq =>
    cls_sm (mc := .type "type") (p := 175) (f := .ref 124) (rest := []) F X₀ (by kernel_rfl) (by kernel_rfl) (by kernel_rfl) (by kernel_rfl) rfl hq
  obtain ⟨u', hu'⟩ : ∃ u', (ktrTop dp un gd cn cs L a ccd cl outer).under (Code.builtin "type.__call__" ⟨.ref 174 :: [.int x t, .int y u], []⟩) = ktrTop (dp + 1) u' gd cn cs L a ccd cl outer := ⟨_, rfl⟩
  rw [hu']
  repeat (first | with_reducible refine ga _ _ _ ?_ | with_reducible refine pt_new (s := ⟨hh, g, d, tk + 1, os⟩) B F X₀ N T hk (by omega) ?_ | lk)
  intro d' q h' tk' news' F' N' hs h1 h2
  have X' := X₀.keeps F'.keep
  have n1 := inst_new (prog := prog) X' (N' _ h1).1
  have n2 : ∀ (A : Around) (R : Option Value → Shared → Prop) (E' : Value → Shared → Prop), R (some .none) ⟨h', g, d, tk', os⟩ → wpAny (model prog w) A (callSpecial? (.ref q) "__init__" [.int x t, .int y u] []) R E' ⟨h', g, d, tk', os⟩ := fun A R E' hR =>
    init_new X' (N' _ h1).1 hR
  repeat (first | with_reducible refine n2 _ _ _ ?_ | lk)
  exact hret _ _ _ _ _ F' N' hs h1 h2
end
end Mine
end TP7
section TP8
open PySem PySem.Calls PySem.W PyProof.Rows
namespace Mine
theorem fill5 : PySem.Challenge.rw_ja0006_01 = PySem.Challenge.rw_ja0006_01 ∧ Mine.hd.heap_39 = Mine.hd.heap_39 := by k_fill; exact ⟨rfl, rfl⟩
local macro_rules | `(tactic| k_room) => `(tactic| ktr_room)
theorem ne_of_all_lt' {d : Addr} {r : List (Addr × Obj)} (h : ∀ q ∈ r, @LT.lt Nat _ q.1 d) : ∀ p ∈ r, p.1 ≠ d := fun p hp => Nat.ne_of_lt (h p hp)
local macro_rules | `(tactic| k_upd) => `(tactic| first | exact Upd.head (ne_of_all_lt' (by assumption)) | (refine' Upd.tail ?a ?b; (case a => k_ne); (case b => k_upd)))
section
variable {prog : Program} {w : World} {mean : ExcName → Option Value} {mg mb : Str → Option Value}
  {dp un : Nat} {gd : Option (List Code)} {cn : Str} {cs : Scope} {a : Addr} {ccd : Value} {cl : List (Str × Addr)} {outer : List Env} {A₀ : Around} {base h₀ : Heap} {L : Addr} {m : Str → Option Value} {s : Shared} {Q E : Value → Shared → Prop} {news : List (Addr × Obj)}
set_option maxHeartbeats 4000000 in
theorem key_new (B : Below A₀ base outer h₀) (F : Fr h₀ L s.heap m) (X : (Mine.hd.heap_39 w.params).In h₀) (N : News h₀ L s.heap news) (T : TopF mean mg mb h₀) (hk : cs.kind = .function) (hd : dp + 10 < recursionLimit)
    {ends opp : Addr} {i : Int} {t : Tok}
    (hret : ∀ (q d : Addr) (s1 s2 s3 : Tok) (h' : Heap) (tk' : Nat) (news' : List (Addr × Obj)), Fr h₀ L h' m → News h₀ L h' news' → (∀ q ∈ news, q ∈ news') → (q, instObj 59 d) ∈ news' → (d, keyDict w ends opp i s1 s2 s3 t) ∈ news' → (∀ r ∈ news, r.1 ≠ d ∧ r.1 ≠ q) → Q (.ref q) { s with heap := h', toks := tk' }) :
    wpAny (model prog w) (ktrTop dp un gd cn cs L a ccd cl outer) (call (.ref 59) [.ref ends, .ref opp, .int i t]) Q E s := by
  k_dflt (refine' call_cls ?k1 ?k2 ?k3 ?k4 ?k5 ?k6 ?_)
  case k1 => k_asm
  case k2 => k_asm
  case k3 => k_asm
  case k4 => k_is
  case k5 => k_is
  case k6 => k_is
  intro x' d' h' F' N' l1 l2
  k_lt2 l2
  k_sweep
  k_dflt cell_enter
  repeat' (first | (k_unfold; (try dsimp only)) | walk1 | (dsimp only; walk1))
  refine hret _ _ _ _ _ _ _ _ (by assumption) (by assumption) ?_ (by k_mem) (by k_mem) (fun r hr => ⟨Nat.ne_of_lt (l1 r hr), Nat.ne_of_lt (Nat.lt_trans (l1 r hr) l2)⟩)
  intro q hq
  repeat (first | exact hq | refine List.mem_cons_of_mem _ ?_)
end
end Mine
end TP8
section TP9
open PySem PySem.Calls PySem.W PyProof.Rows
namespace Mine
/-- the law's def within the text -/
def fnOfProg (p : Program) : List Stmt × Scope := match p.main.body.getLast? with
  | some (.FunctionDef (body := b) (scope := sc) ..) => (b, sc)
  | _ => ([], default)
def lawP : { r : List Stmt × Scope // fnOfProg PySem.Challenge.pw_ja0006_01 = r } := by
  refine ⟨?r, ?h⟩
  case h =>
    conv => lhs; whnf
abbrev lawBody : List Stmt := lawP.1.1
abbrev lawScope : Scope := lawP.1.2
def inFor : Stmt → List Stmt
  | .For _ _ b _ _ => b
  | _ => []
noncomputable def nth (l : List Stmt) : Nat → Stmt :=
  List.rec (motive := fun _ => Nat → Stmt) (fun _ => default) (fun a _ ih n => Nat.casesOn (motive := fun _ => Stmt) n a ih) l
abbrev Led := List (Addr × Obj)
abbrev lawCl (L : Addr) : List (Str × Addr) := cellsFrom (L + 1) lawScope.names []
abbrev lawEnv (L fa : Addr) (cdv : Value) : Env := envX (Str.ofString "law") lawScope L fa cdv (lawCl L)
theorem cl_ends (L : Addr) : (lawCl L).lookup (Str.ofString "ends") = some (L + 1) := by rfl
theorem cl_opp (L : Addr) : (lawCl L).lookup (Str.ofString "opposites") = some (L + 1 + 1) := by rfl
def notCell (o : Obj) : Bool := match o.data with | .cell _ => false | _ => true
def Keep (D D' : Led) : Prop := ∀ p ∈ D, notCell p.2 = true → p ∈ D'
theorem Keep.trans {D D' D'' : Led} (h : Keep D D') (h' : Keep D' D'') : Keep D D'' := fun p hp hc => h' p (h p hp hc) hc
theorem Keep.refl (D : Led) : Keep D D := fun _ hp _ => hp
theorem keep_sub {D D' : Led} (h : ∀ p ∈ D, p ∈ D') : Keep D D' := fun p hp _ => h p hp
/-- the law's frame: its names, its two cells, what is known of the heap -/
structure LSt (h₀ : Heap) (L : Addr) (h : Heap) (m : Str → Option Value) (ve vo : Option Value) (D : Led) : Prop where
  fr : Fr h₀ L h m
  ne : News h₀ L h D
  e : ∃ o, (L + 1, o) ∈ D ∧ o.data = .cell ve
  o : ∃ o, (L + 1 + 1, o) ∈ D ∧ o.data = .cell vo
section
variable {M : Model} {A : Around} {E : Value → Shared → Prop} {s : Shared} {h₀ : Heap} {L fa : Addr} {cdv : Value} {m : Str → Option Value} {v : Value} {Q : Unit → Shared → Prop} {D : Led} {ve vo : Option Value}
theorem cell_filter {h : Heap} {c : Addr} {o : Obj} {x : Option Value} (N : News h₀ L h D) (hc : (c, o) ∈ D) (hd : o.data = .cell x) (o' : Obj) : Keep D ((c, o') :: D.filter fun p => decide (p.1 ≠ c)) := by
  intro p hp hn
  refine List.mem_cons_of_mem _ (List.mem_filter.mpr ⟨hp, decide_eq_true ?_⟩)
  intro e
  obtain ⟨a, b⟩ := p
  dsimp only at e hn
  subst e
  have h1 := (N _ hp).1
  have h2 := (N _ hc).1
  dsimp only at h1 h2
  rw [h1] at h2
  cases h2
  unfold notCell at hn
  rw [hd] at hn
  cases hn
theorem news_cell {h h' : Heap} {c : Addr} {o o' : Obj} (N : News h₀ L h D) (hc : (c, o) ∈ D) (hs : Heap.SameBut c h h') (ho' : h'.get? c = some o') : News h₀ L h' ((c, o') :: D.filter fun p => decide (p.1 ≠ c)) := by
  intro p hp
  rcases List.mem_cons.mp hp with rfl | hp
  · exact ⟨ho', (N _ hc).2.1, (N _ hc).2.2⟩
  · obtain ⟨hp, hne⟩ := List.mem_filter.mp hp
    exact ⟨(hs.2 p.1 (of_decide_eq_true hne)).trans (N p hp).1, (N p hp).2⟩
theorem store_ends (S : LSt h₀ L s.heap m ve vo D) (hret : ∀ h' D', LSt h₀ L h' m (some v) vo D' → Keep D D' → Q () { s with heap := h' }) :
    wpAny M A (storeName (lawEnv L fa cdv) (Str.ofString "ends") v) Q E s := by
  obtain ⟨F, N, ⟨oe, he, hde⟩, ⟨oo, ho, hdo⟩⟩ := S
  refine wpAny_storeName_cell (by rfl) (by rfl) (cl_ends L) ⟨oe, (N _ he).1, hde⟩ fun h' hv hs => ?_
  obtain ⟨o', ho', hd'⟩ := hv
  refine hret h' ((L + 1, o') :: D.filter fun p => decide (p.1 ≠ L + 1)) ⟨⟨F.ns.sameBut hs (Ne.symm (N _ he).2.1), fun b ob e => (hs.2 b fun q => ?_).trans (F.keep b ob e), F.above⟩, news_cell N he hs ho', ⟨o', .head _, hd'⟩, ⟨oo, ?_, hdo⟩⟩ (cell_filter N he hde o')
  · have := (N _ he).2.2; rw [q] at e; rw [this] at e; cases e
  · exact List.mem_cons_of_mem _ (List.mem_filter.mpr ⟨ho, decide_eq_true (Nat.ne_of_gt (Nat.lt_succ_self _))⟩)
theorem store_opp (S : LSt h₀ L s.heap m ve vo D) (hret : ∀ h' D', LSt h₀ L h' m ve (some v) D' → Keep D D' → Q () { s with heap := h' }) :
    wpAny M A (storeName (lawEnv L fa cdv) (Str.ofString "opposites") v) Q E s := by
  obtain ⟨F, N, ⟨oe, he, hde⟩, ⟨oo, ho, hdo⟩⟩ := S
  refine wpAny_storeName_cell (by rfl) (by rfl) (cl_opp L) ⟨oo, (N _ ho).1, hdo⟩ fun h' hv hs => ?_
  obtain ⟨o', ho', hd'⟩ := hv
  refine hret h' ((L + 1 + 1, o') :: D.filter fun p => decide (p.1 ≠ L + 1 + 1)) ⟨⟨F.ns.sameBut hs (Ne.symm (N _ ho).2.1), fun b ob e => (hs.2 b fun q => ?_).trans (F.keep b ob e), F.above⟩, news_cell N ho hs ho', ⟨oe, ?_, hde⟩, ⟨o', .head _, hd'⟩⟩ (cell_filter N ho hdo o')
  · have := (N _ ho).2.2; rw [q] at e; rw [this] at e; cases e
  · exact List.mem_cons_of_mem _ (List.mem_filter.mpr ⟨he, decide_eq_true (Nat.ne_of_lt (Nat.lt_succ_self _))⟩)
end
end Mine
end TP9
section TP10
open PySem PySem.Calls PySem.W PyProof.Rows
namespace Mine
theorem fill6 : PySem.Challenge.rw_ja0006_01 = PySem.Challenge.rw_ja0006_01 ∧ Mine.hd.heap_39 = Mine.hd.heap_39 := by k_fill; exact ⟨rfl, rfl⟩
theorem mem_of' {α : Type} {a : α} {l : List α} (h : a ∈ l) : List.Mem a l := h
theorem mem_sub {p : Addr × Obj} {D D' : Led} (hs : ∀ q ∈ D, q ∈ D') (h : p ∈ D) : p ∈ D' := hs p h
local macro_rules | `(tactic| k_room) => `(tactic| ktr_room)
local macro_rules | `(tactic| k_units) => `(tactic| ktr_units)
local macro_rules | `(tactic| k_mem) => `(tactic| first | with_reducible assumption | (refine mem_of' ?_; with_reducible assumption) | (refine mem_sub (by with_reducible assumption) ?_; k_mem))
theorem add_N {prog : Program} {w : World} {A : Around} {E : Value → Shared → Prop} {s : Shared} {h₀ : Heap} {L : Addr} {m : Str → Option Value} {D : Led} {l b : Addr} {vs ws : List Value} {n1 n2 : Nat} {Q : Value → Shared → Prop} (F : Fr h₀ L s.heap m) (N : News h₀ L s.heap D)
    (h1 : (l, listOf vs.toArray n1) ∈ D) (h2 : (b, listOf ws.toArray n2) ∈ D) (hsz : vs.length + ws.length ≤ sizeLine)
    (h : ∀ r h', Fr h₀ L h' m → News h₀ L h' ((r, listOf (vs ++ ws).toArray 0) :: D) → Q (.ref r) { s with heap := h' }) : wpAny (model prog w) A (binaryOp .Add (.ref l) (.ref b)) Q E s :=
  add_lists F N ⟨_, (N _ h1).1, rfl, n1, rfl⟩ ⟨_, (N _ h2).1, rfl, n2, rfl⟩ (fun h' F' N' => h _ h' F' N') hsz
local macro_rules | `(tactic| walk_at "binaryOp Add") => `(tactic| (k_here; (with_reducible show wpAny _ _ (binaryOp _ (Value.ref _) (Value.ref _)) _ _ _); k_dflt (refine' add_N ?k1 ?k2 ?k3 ?k4 ?k5 ?_; (case k1 => k_asm); (case k2 => k_asm); (case k3 => k_mem); (case k4 => k_mem); (case k5 => (rw [sizeLine_eq]; simp only [List.length_cons, List.length_nil]; omega)); k_whole); intro r' h' F' N'))
local macro_rules | `(tactic| walk_at "eval Name") => `(tactic| (k_here; k_dflt (refine' nameX_L ?F ?v ?_ ?a ?b ?c; (case a => rfl); (case b => rfl); (case c => decide); (case F => k_asm); (case v => assumption); k_whole)))
local macro_rules | `(tactic| walk_at "eval Name") => `(tactic| (k_here; k_dflt (refine' nameX_C ?N ?l ?m ?d ?_ ?a ?b ?c; (case a => rfl); (case b => rfl); (case c => decide); (case l => exact rfl); (case N => k_asm); (case m => k_mem); (case d => assumption); k_whole)))
local macro_rules | `(tactic| walk_at "call ref") => `(tactic| (k_here; (with_reducible show wpAny _ _ (call (Value.ref 174) _) _ _ _); k_dflt (refine' point_new ?k1 ?k2 ?k3 ?k4 ?k5 ?k6 ?k7 ?_; (case k1 => k_asm); (case k2 => k_asm); (case k3 => k_asm); (case k4 => k_asm); (case k5 => k_asm); (case k6 => first | rfl | assumption); (case k7 => ktr_room); k_whole); intro d' q' h' tk' news' F' N' hs' hq' hd'; (try k_fold)))
section
variable {prog : Program} {w : World} {mean : ExcName → Option Value} {mg mb : Str → Option Value}
  {dp un : Nat} {gd : Option (List Code)} {fa : Addr} {cdv : Value} {outer : List Env} {A₀ : Around} {base h₀ : Heap} {L : Addr} {m : Str → Option Value} {s : Shared} {E : Value → Shared → Prop} {D : Led}
abbrev lawA (dp un : Nat) (gd : Option (List Code)) (L fa : Addr) (cdv : Value) (outer : List Env) : Around := ktrTop dp un gd (Str.ofString "law") lawScope L fa cdv (lawCl L) outer
set_option maxHeartbeats 4000000 in
theorem st_ends {Q : Flow → Shared → Prop} {vo : Option Value} (B : Below A₀ base outer h₀) (X : (Mine.hd.heap_39 w.params).In h₀) (T : TopF mean mg mb h₀) (hd : dp + 30 < recursionLimit) (hu : un + 100 < cLine)
    {e lo hi : Addr} {es : List Value} {k : Nat} {x y z c aw : Int} {t u t' u' ta : Tok}
    (S : LSt h₀ L s.heap m (some (.ref e)) vo D) (he : (e, listOf es.toArray k) ∈ D) (hes : es.length ≤ 1000)
    (hlow : m (Str.ofString "low") = some (.ref lo)) (hlo : (lo, tupObj x y t u) ∈ D) (hhigh : m (Str.ofString "high") = some (.ref hi)) (hhi : (hi, tupObj z c t' u') ∈ D)
    (haw : m (Str.ofString "away") = some (.int aw ta))
    (hret : ∀ h' tk' D' e' k' p q d1 d2 t1 t2 t3 t4, LSt h₀ L h' m (some (.ref e')) vo D' → Keep D D' → (e', listOf (es ++ [Value.ref p, Value.ref q]).toArray k') ∈ D' →
      (p, ptObj d1 (x + aw) (y - aw) t1 t2) ∈ D' → (d1, dictOf [] 0) ∈ D' → (q, ptObj d2 (z + aw) (c - aw) t3 t4) ∈ D' → (d2, dictOf [] 0) ∈ D' → Q .next { s with heap := h', toks := tk' }) :
    wpAny (model prog w) (lawA dp un gd L fa cdv outer) (exec (nth (inFor (nth lawBody 6)) 1) (lawEnv L fa cdv)) Q E s := by
  obtain ⟨F, N, ⟨oe, hoe, hde⟩, ⟨oo, hoo, hdo⟩⟩ := S
  refine wpAny_Assign_Name ?_
  repeat' walk1
  refine store_ends (vo := vo) ⟨by assumption, by assumption, ⟨oe, by k_mem, hde⟩, ⟨oo, by k_mem, hdo⟩⟩ fun h9 D9 S9 K9 => hret h9 _ D9 _ _ _ _ _ _ _ _ _ _ S9 (Keep.trans (keep_sub ?s) K9) (K9 _ (by k_mem) rfl) (K9 _ (by k_mem) rfl) (K9 _ (by k_mem) rfl) (K9 _ (by k_mem) rfl) (K9 _ (by k_mem) rfl)
  intro p hp
  k_mem
end
end Mine
end TP10
section TP11
open PySem PySem.Calls PySem.W PyProof.Rows
namespace Mine
theorem fill7 : PySem.Challenge.rw_ja0006_01 = PySem.Challenge.rw_ja0006_01 ∧ Mine.hd.heap_39 = Mine.hd.heap_39 := by k_fill; exact ⟨rfl, rfl⟩
local macro_rules | `(tactic| k_room) => `(tactic| ktr_room)
local macro_rules | `(tactic| k_units) => `(tactic| ktr_units)
local macro_rules | `(tactic| k_mem) => `(tactic| first | with_reducible assumption | (refine mem_of' ?_; with_reducible assumption) | (refine mem_sub (by with_reducible assumption) ?_; k_mem))
local macro_rules | `(tactic| walk_at "binaryOp Add") => `(tactic| (k_here; (with_reducible show wpAny _ _ (binaryOp _ (Value.ref _) (Value.ref _)) _ _ _); k_dflt (refine' add_N ?k1 ?k2 ?k3 ?k4 ?k5 ?_; (case k1 => k_asm); (case k2 => k_asm); (case k3 => k_mem); (case k4 => k_mem); (case k5 => (rw [sizeLine_eq]; simp only [List.length_cons, List.length_nil]; omega)); k_whole); intro r' h' F' N'))
local macro_rules | `(tactic| walk_at "eval Name") => `(tactic| (k_here; k_dflt (refine' nameX_L ?F ?v ?_ ?a ?b ?c; (case a => rfl); (case b => rfl); (case c => decide); (case F => k_asm); (case v => assumption); k_whole)))
local macro_rules | `(tactic| walk_at "eval Name") => `(tactic| (k_here; k_dflt (refine' nameX_C ?N ?l ?m ?d ?_ ?a ?b ?c; (case a => rfl); (case b => rfl); (case c => decide); (case l => exact rfl); (case N => k_asm); (case m => k_mem); (case d => assumption); k_whole)))
local macro_rules | `(tactic| walk_at "call ref") => `(tactic| (k_here; (with_reducible show wpAny _ _ (call (Value.ref 174) _) _ _ _); k_dflt (refine' point_new ?k1 ?k2 ?k3 ?k4 ?k5 ?k6 ?k7 ?_; (case k1 => k_asm); (case k2 => k_asm); (case k3 => k_asm); (case k4 => k_asm); (case k5 => k_asm); (case k6 => first | rfl | assumption); (case k7 => ktr_room); k_whole); intro d' q' h' tk' news' F' N' hs' hq' hd'; (try k_fold)))
section
variable {prog : Program} {w : World} {mean : ExcName → Option Value} {mg mb : Str → Option Value}
  {dp un : Nat} {gd : Option (List Code)} {fa : Addr} {cdv : Value} {outer : List Env} {A₀ : Around} {base h₀ : Heap} {L : Addr} {m : Str → Option Value} {s : Shared} {E : Value → Shared → Prop} {D : Led}
theorem item_M {prog : Program} {w : World} {A : Around} {E : Value → Shared → Prop} {s : Shared} {h₀ : Heap} {L : Addr} {D : Led} {value slice : PySem.Expr} {l : Addr} {vs : List Value} {n : Nat} {k : Int} {u : Tok} {v : Value} {Q : Value → Shared → Prop} (N : News h₀ L s.heap D) (hl : (l, listOf vs.toArray n) ∈ D)
    (h0 : 0 ≤ k) (hhi : k < 2 ^ 63) (hx : vs[k.toNat]? = some v) (h : Q v s)
    (hs : subscripted slice false (.ref l) (.int k u) = operate [.ref l, .int k u] (getItem (.ref l) (.int k u)) := by with_unfolding_all rfl) :
    wpAny (model prog w) A (subscriptTail value slice (.ref l) (.int k u)) Q E s := item_N N hl h0 hhi hx h hs
local macro_rules | `(tactic| walk_at "subscriptTail") => `(tactic| (k_here; (with_reducible show wpAny _ _ (subscriptTail _ _ (Value.ref _) (Value.int _ _)) _ _ _); (with_unfolding_all refine' item_M ?k1 ?k2 ?k3 ?k4 ?k5 ?_ ?k6; (case k1 => k_asm); (case k2 => k_mem); (case k3 => assumption); (case k4 => assumption); (case k5 => assumption); (case k6 => with_unfolding_all rfl); k_whole)))
set_option maxHeartbeats 4000000 in
theorem st_opp {Q : Flow → Shared → Prop} {ve : Option Value} (B : Below A₀ base outer h₀) (X : (Mine.hd.heap_39 w.params).In h₀) (T : TopF mean mg mb h₀) (hd : dp + 30 < recursionLimit) (hu : un + 100 < cLine)
    {o : Addr} {os : List Value} {k : Nat} {i : Int} {t : Tok}
    (S : LSt h₀ L s.heap m ve (some (.ref o)) D) (ho : (o, listOf os.toArray k) ∈ D) (hos : os.length ≤ 1000) (hi : m (Str.ofString "k") = some (.int i t)) (hi0 : 0 ≤ i) (hi1 : i < 1000)
    (hret : ∀ h' tk' D' o' k' t1 t2, LSt h₀ L h' m ve (some (.ref o')) D' → Keep D D' → (o', listOf (os ++ [Value.int (2 * i + 1) t1, Value.int (2 * i) t2]).toArray k') ∈ D' → Q .next { s with heap := h', toks := tk' }) :
    wpAny (model prog w) (lawA dp un gd L fa cdv outer) (exec (nth (inFor (nth lawBody 6)) 2) (lawEnv L fa cdv)) Q E s := by
  obtain ⟨F, N, ⟨oe, hoe, hde⟩, ⟨oo, hoo, hdo⟩⟩ := S
  refine wpAny_Assign_Name ?_
  repeat' walk1
  refine store_opp (ve := ve) ⟨by assumption, by assumption, ⟨oe, by k_mem, hde⟩, ⟨oo, by k_mem, hdo⟩⟩ fun h9 D9 S9 K9 => hret h9 _ D9 _ _ _ _ S9 (Keep.trans (keep_sub ?s) K9) (K9 _ (by k_mem) rfl)
  intro p hp
  k_mem
set_option maxHeartbeats 4000000 in
theorem st_places {Q : Flow → Shared → Prop} {ve vo : Option Value} (B : Below A₀ base outer h₀) (X : (Mine.hd.heap_39 w.params).In h₀) (T : TopF mean mg mb h₀) (hd : dp + 30 < recursionLimit) (hu : un + 100 < cLine)
    {o lo hi : Addr} {os : List Value} {k : Nat}
    (S : LSt h₀ L s.heap m ve vo D) (hp : m (Str.ofString "places") = some (.ref o)) (ho : (o, listOf os.toArray k) ∈ D) (hos : os.length ≤ 1000) (hlow : m (Str.ofString "low") = some (.ref lo)) (hhigh : m (Str.ofString "high") = some (.ref hi))
    (hret : ∀ h' tk' D' o' k' p q t1 t2, LSt h₀ L h' (fun y => if y = Str.ofString "places" then some (.ref o') else m y) ve vo D' → Keep D D' → (o', listOf (os ++ [Value.ref p, Value.ref q]).toArray k') ∈ D' →
      (p, plcObj lo hi 1 t1) ∈ D' → (q, plcObj hi lo 0 t2) ∈ D' → Q .next { s with heap := h', toks := tk' }) :
    wpAny (model prog w) (lawA dp un gd L fa cdv outer) (exec (nth (inFor (nth lawBody 6)) 3) (lawEnv L fa cdv)) Q E s := by
  obtain ⟨F, N, ⟨oe, hoe, hde⟩, ⟨oo, hoo, hdo⟩⟩ := S
  refine wpAny_Assign_Name ?_
  repeat' walk1
  refine hret _ _ _ _ _ _ _ _ _ ⟨by assumption, by assumption, ⟨oe, by k_mem, hde⟩, ⟨oo, by k_mem, hdo⟩⟩ (keep_sub ?s) (by k_mem) (by k_mem) (by k_mem)
  intro p hp
  k_mem
set_option maxHeartbeats 4000000 in
theorem st_unpack {Q : Flow → Shared → Prop} {ve vo : Option Value} (B : Below A₀ base outer h₀) (X : (Mine.hd.heap_39 w.params).In h₀) (T : TopF mean mg mb h₀) (hd : dp + 30 < recursionLimit) (hu : un + 100 < cLine)
    {r row lo hi : Addr} {rs : List Value} {k k' : Nat} {i : Int} {t : Tok}
    (S : LSt h₀ L s.heap m ve vo D) (hr : m (Str.ofString "rows") = some (.ref r)) (hrs : (r, listOf rs.toArray k) ∈ D) (hi' : m (Str.ofString "k") = some (.int i t)) (hi0 : 0 ≤ i) (hi1 : i < 2 ^ 63) (hx : rs[i.toNat]? = some (.ref row))
    (hrow : (row, listOf #[.ref lo, .ref hi] k') ∈ D)
    (hret : ∀ h' tk' D', LSt h₀ L h' (fun y => if y = Str.ofString "high" then some (.ref hi) else if y = Str.ofString "low" then some (.ref lo) else m y) ve vo D' → Keep D D' → Q .next { s with heap := h', toks := tk' }) :
    wpAny (model prog w) (lawA dp un gd L fa cdv outer) (exec (nth (inFor (nth lawBody 6)) 0) (lawEnv L fa cdv)) Q E s := by
  obtain ⟨F, N, ⟨oe, hoe, hde⟩, ⟨oo, hoo, hdo⟩⟩ := S
  show wpAny _ _ (exec (Stmt.Assign _ _ _) _) _ _ _
  repeat' walk1
  refine hret _ _ _ ⟨by assumption, by assumption, ⟨oe, by k_mem, hde⟩, ⟨oo, by k_mem, hdo⟩⟩ (keep_sub ?s)
  intro p hp
  k_mem
end
end Mine
end TP11
section TP12
open PySem PySem.Calls PySem.W PyProof.Rows
namespace Mine
theorem fill8 : PySem.Challenge.rw_ja0006_01 = PySem.Challenge.rw_ja0006_01 ∧ Mine.hd.heap_39 = Mine.hd.heap_39 := by k_fill; exact ⟨rfl, rfl⟩
local macro_rules | `(tactic| k_room) => `(tactic| ktr_room)
local macro_rules | `(tactic| k_units) => `(tactic| ktr_units)
local macro_rules | `(tactic| k_mem) => `(tactic| first | with_reducible assumption | (refine mem_of' ?_; with_reducible assumption) | (refine mem_sub (by with_reducible assumption) ?_; k_mem))
local macro_rules | `(tactic| walk_at "binaryOp Add") => `(tactic| (k_here; (with_reducible show wpAny _ _ (binaryOp _ (Value.ref _) (Value.ref _)) _ _ _); k_dflt (refine' add_N ?k1 ?k2 ?k3 ?k4 ?k5 ?_; (case k1 => k_asm); (case k2 => k_asm); (case k3 => k_mem); (case k4 => k_mem); (case k5 => (rw [sizeLine_eq]; simp only [List.length_cons, List.length_nil]; omega)); k_whole); intro r' h' F' N'))
local macro_rules | `(tactic| walk_at "eval Name") => `(tactic| (k_here; k_dflt (refine' nameX_L ?F ?v ?_ ?a ?b ?c; (case a => rfl); (case b => rfl); (case c => decide); (case F => k_asm); (case v => assumption); k_whole)))
local macro_rules | `(tactic| walk_at "eval Name") => `(tactic| (k_here; k_dflt (refine' nameX_C ?N ?l ?m ?d ?_ ?a ?b ?c; (case a => rfl); (case b => rfl); (case c => decide); (case l => exact rfl); (case N => k_asm); (case m => k_mem); (case d => assumption); k_whole)))
local macro_rules | `(tactic| walk_at "call ref") => `(tactic| (k_here; (with_reducible show wpAny _ _ (call (Value.ref 174) _) _ _ _); k_dflt (refine' point_new ?k1 ?k2 ?k3 ?k4 ?k5 ?k6 ?k7 ?_; (case k1 => k_asm); (case k2 => k_asm); (case k3 => k_asm); (case k4 => k_asm); (case k5 => k_asm); (case k6 => first | rfl | assumption); (case k7 => ktr_room); k_whole); intro d' q' h' tk' news' F' N' hs' hq' hd'; (try k_fold)))
local macro_rules | `(tactic| walk_at "call ref") => `(tactic| (k_here; (with_reducible show wpAny _ _ (call (Value.ref 184) _) _ _ _); k_dflt (refine' drawn ?k1 ?k2 ?k3 ?k4 ?k5 ?k6 ?k7 ?k8 ?_; (case k1 => k_asm); (case k2 => k_asm); (case k3 => k_asm); (case k4 => k_asm); (case k5 => k_asm); (case k6 => first | rfl | assumption); (case k7 => ktr_room); (case k8 => ktr_units); k_whole); intro r' p1' p2' x1' y1' x2' y2' t1' u1' t2' u2' k' h' tk' news' F' N' hs' hr' hp1' hp2'; (try k_fold)))
section
variable {prog : Program} {w : World} {mean : ExcName → Option Value} {mg mb : Str → Option Value}
  {dp un : Nat} {gd : Option (List Code)} {fa : Addr} {cdv : Value} {outer : List Env} {A₀ : Around} {base h₀ : Heap} {L : Addr} {m : Str → Option Value} {s : Shared} {E : Value → Shared → Prop} {D : Led}
set_option maxHeartbeats 4000000 in
theorem st_rows {Q : Flow → Shared → Prop} {ve vo : Option Value} (B : Below A₀ base outer h₀) (X : (Mine.hd.heap_39 w.params).In h₀) (T : TopF mean mg mb h₀) (hd : dp + 30 < recursionLimit) (hu : un + 100 < cLine)
    {r : Addr} {rs : List Value} {k : Nat} {i : Int} {t : Tok}
    (S : LSt h₀ L s.heap m ve vo D) (hr : m (Str.ofString "rows") = some (.ref r)) (hrs : (r, listOf rs.toArray k) ∈ D) (hl : rs.length ≤ 1000) (hi : m (Str.ofString "number") = some (.int i t))
    (hret : ∀ h' tk' D' r' k' a b k1 k2 p1 p2 p3 p4 x1 y1 x2 y2 x3 y3 x4 y4 t1 u1 t2 u2 t3 u3 t4 u4, LSt h₀ L h' (fun y => if y = Str.ofString "rows" then some (.ref r') else m y) ve vo D' → Keep D D' →
      (r', listOf (rs ++ [Value.ref a, Value.ref b]).toArray k') ∈ D' → (a, listOf #[.ref p1, .ref p2] k1) ∈ D' → (p1, tupObj x1 y1 t1 u1) ∈ D' → (p2, tupObj x2 y2 t2 u2) ∈ D' →
      (b, listOf #[.ref p3, .ref p4] k2) ∈ D' → (p3, tupObj x3 y3 t3 u3) ∈ D' → (p4, tupObj x4 y4 t4 u4) ∈ D' → Q .next { s with heap := h', toks := tk' }) :
    wpAny (model prog w) (lawA dp un gd L fa cdv outer) (exec (nth (inFor (nth lawBody 2)) 0) (lawEnv L fa cdv)) Q E s := by
  obtain ⟨F, N, ⟨oe, hoe, hde⟩, ⟨oo, hoo, hdo⟩⟩ := S
  refine wpAny_Assign_Name ?_
  repeat' walk1
  refine hret _ _ _ _ _ _ _ _ _ _ _ _ _ _ _ _ _ _ _ _ _ _ _ _ _ _ _ _ _ ⟨by assumption, by assumption, ⟨oe, by k_mem, hde⟩, ⟨oo, by k_mem, hdo⟩⟩ (keep_sub ?s) (by k_mem) (by k_mem) (by k_mem) (by k_mem) (by k_mem) (by k_mem) (by k_mem)
  intro p hp
  k_mem
end
end Mine
end TP12
section TP13
open PySem PySem.Calls PySem.W PyProof.Rows
namespace Mine
theorem fill9 : PySem.Challenge.rw_ja0006_01 = PySem.Challenge.rw_ja0006_01 ∧ Mine.hd.heap_39 = Mine.hd.heap_39 := by k_fill; exact ⟨rfl, rfl⟩
local macro_rules | `(tactic| k_room) => `(tactic| ktr_room)
local macro_rules | `(tactic| k_units) => `(tactic| ktr_units)
local macro_rules | `(tactic| k_mem) => `(tactic| first | with_reducible assumption | (refine mem_of' ?_; with_reducible assumption) | (refine mem_sub (by with_reducible assumption) ?_; k_mem))
local macro_rules | `(tactic| walk_at "binaryOp Add") => `(tactic| (k_here; (with_reducible show wpAny _ _ (binaryOp _ (Value.ref _) (Value.ref _)) _ _ _); k_dflt (refine' add_N ?k1 ?k2 ?k3 ?k4 ?k5 ?_; (case k1 => k_asm); (case k2 => k_asm); (case k3 => k_mem); (case k4 => k_mem); (case k5 => (rw [sizeLine_eq]; simp only [List.length_cons, List.length_nil]; omega)); k_whole); intro r' h' F' N'))
local macro_rules | `(tactic| walk_at "eval Name") => `(tactic| (k_here; k_dflt (refine' nameX_L ?F ?v ?_ ?a ?b ?c; (case a => rfl); (case b => rfl); (case c => decide); (case F => k_asm); (case v => assumption); k_whole)))
local macro_rules | `(tactic| walk_at "eval Name") => `(tactic| (k_here; k_dflt (refine' nameX_C ?N ?l ?m ?d ?_ ?a ?b ?c; (case a => rfl); (case b => rfl); (case c => decide); (case l => exact rfl); (case N => k_asm); (case m => k_mem); (case d => assumption); k_whole)))
local macro_rules | `(tactic| walk_at "call ref") => `(tactic| (k_here; (with_reducible show wpAny _ _ (call (Value.ref 174) _) _ _ _); k_dflt (refine' point_new ?k1 ?k2 ?k3 ?k4 ?k5 ?k6 ?k7 ?_; (case k1 => k_asm); (case k2 => k_asm); (case k3 => k_asm); (case k4 => k_asm); (case k5 => k_asm); (case k6 => first | rfl | assumption); (case k7 => ktr_room); k_whole); intro d' q' h' tk' news' F' N' hs' hq' hd'; (try k_fold)))
theorem law_eq {xi yi zi wi xj yj zj wj aw i j ki kj : Int} (hi : ki = if i % 2 = 0 then 1 else 0) (hj : kj = if j % 2 = 0 then 1 else 0) :
    (if xi + aw = xj + aw then (if yi - aw = yj - aw then (if decide (i % 2 = 0) = decide (j % 2 = 0) then decide (zi + aw < zj + aw ∨ (zi + aw = zj + aw ∧ wi - aw < wj - aw)) else !decide (i % 2 = 0)) else decide (yi - aw < yj - aw)) else decide (xi + aw < xj + aw)) =
    (if xi = xj ∧ yi = yj then (if ki = kj then decide (zi < zj ∨ (zi = zj ∧ wi < wj)) else decide (ki < kj)) else decide (xi < xj ∨ (xi = xj ∧ yi < yj))) := by
  subst hi hj
  rw [Bool.eq_iff_iff]
  by_cases h1 : xi = xj
  · subst h1
    by_cases h2 : yi = yj
    · subst h2
      by_cases h3 : i % 2 = 0 <;> by_cases h4 : j % 2 = 0 <;> simp [h3, h4] <;> omega
    · have h2' : ¬ (yi - aw = yj - aw) := by omega
      simp [h2, h2']
  · have h1' : ¬ (xi + aw = xj + aw) := by omega
    simp [h1, h1']
theorem plc_ltN {prog : Program} {w : World} {A : Around} {E : Value → Shared → Prop} {s : Shared} {h₀ : Heap} {L : Addr} {D : Led} {a b p1 q1 p2 q2 : Addr} {k1 k2 x1 y1 z1 w1 x2 y2 z2 w2 : Int} {t1 t2 ta tb tc td te tf tg th : Tok} {Q : Value → Shared → Prop} (N : News h₀ L s.heap D) (hu : A.units + 2 < cLine)
    (ha : (a, plcObj p1 q1 k1 t1) ∈ D) (hb : (b, plcObj p2 q2 k2 t2) ∈ D) (hp1 : (p1, tupObj x1 y1 ta tb) ∈ D) (hp2 : (p2, tupObj x2 y2 tc td) ∈ D) (hq1 : (q1, tupObj z1 w1 te tf) ∈ D) (hq2 : (q2, tupObj z2 w2 tg th) ∈ D)
    (h : Q (.bool (if x1 = x2 ∧ y1 = y2 then (if k1 = k2 then decide (z1 < z2 ∨ (z1 = z2 ∧ w1 < w2)) else decide (k1 < k2)) else decide (x1 < x2 ∨ (x1 = x2 ∧ y1 < y2)))) s) :
    wpAny (model prog w) A (compareOp .Lt (.ref a) (.ref b)) Q E s :=
  plc_lt hu (N _ ha).1 (N _ hb).1 (N _ hp1).1 (N _ hp2).1 (N _ hq1).1 (N _ hq2).1 h
local macro_rules | `(tactic| walk_at "subscriptTail") => `(tactic| (k_here; (with_reducible show wpAny _ _ (subscriptTail _ _ (Value.ref _) (Value.int _ _)) _ _ _); (with_unfolding_all refine' item_M ?k1 ?k2 ?k3 ?k4 ?k5 ?_ ?k6; (case k1 => k_asm); (case k2 => k_mem); (case k3 => assumption); (case k4 => assumption); (case k5 => assumption); (case k6 => with_unfolding_all rfl); k_whole)))
local macro_rules | `(tactic| walk_at "compareOp Lt ref ref") => `(tactic| (k_here; k_dflt (refine' plc_ltN ?k1 ?k2 ?k3 ?k4 ?k5 ?k6 ?k7 ?k8 ?_; (case k1 => k_asm); (case k2 => ktr_units); (case k3 => k_mem); (case k4 => k_mem); (case k5 => k_mem); (case k6 => k_mem); (case k7 => k_mem); (case k8 => k_mem); k_whole)))
local macro_rules | `(tactic| walk_at "compareOp Lt ref ref") => `(tactic| (k_here; k_dflt (refine' lt_key ?k1 ?k2 ?k3 ?k4 ?k5 ?k6 ?k7 ?k8 ?a1 ?a2 ?a3 ?a4 ?a5 ?a6 ?b1 ?b2 ?b3 ?b4 ?b5 ?b6 ?b7 ?b8 ?c1 ?c2 ?c3 ?c4 ?c5 ?c6 ?d1 ?d2 ?d3 ?d4 ?d5 ?d6 ?d7 ?d8 ?_; (case k1 => k_asm); (case k2 => k_asm); (case k3 => k_asm); (case k4 => k_asm); (case k5 => k_asm); (case k6 => first | rfl | assumption); (case k7 => ktr_room); (case k8 => ktr_units); (case a1 => k_mem); (case a2 => k_mem); (case a3 => k_mem); (case a4 => k_mem); (case a5 => k_mem); (case a6 => k_mem); (case c1 => assumption); (case c2 => assumption); (case c3 => assumption); (case c4 => assumption); (case c5 => assumption); (case c6 => assumption); (case b1 => assumption); (case b2 => assumption); (case b3 => assumption); (case b4 => assumption); (case b5 => assumption); (case b6 => assumption); (case b7 => assumption); (case b8 => assumption); (case d1 => k_mem); (case d2 => k_mem); (case d3 => k_mem); (case d4 => k_mem); (case d5 => k_mem); (case d6 => k_mem); (case d7 => k_mem); (case d8 => k_mem); k_whole); intro h' tk' F' N'))
section
variable {prog : Program} {w : World} {mean : ExcName → Option Value} {mg mb : Str → Option Value}
  {dp un : Nat} {gd : Option (List Code)} {fa : Addr} {cdv : Value} {outer : List Env} {A₀ : Around} {base h₀ : Heap} {L : Addr} {m : Str → Option Value} {s : Shared} {E : Value → Shared → Prop} {D : Led}
set_option maxHeartbeats 4000000 in
theorem st_cmp {Q : Flow → Shared → Prop} {ve vo : Option Value} (B : Below A₀ base outer h₀) (X : (Mine.hd.heap_39 w.params).In h₀) (T : TopF mean mg mb h₀) (hd : dp + 30 < recursionLimit) (hu : un + 100 < cLine)
    {kl pl ka kb da db ends opp : Addr} {i j oi oj : Int} {ti' tj' s1 s2 s3 s4 s5 s6 ti tj toi toj : Tok} {ks ps evs ovs : List Value} {nk np n1 n2 : Nat}
    (S : LSt h₀ L s.heap m ve vo D) (hkeys : m (Str.ofString "keys") = some (.ref kl)) (hkl : (kl, listOf ks.toArray nk) ∈ D) (hplaces : m (Str.ofString "places") = some (.ref pl)) (hpl : (pl, listOf ps.toArray np) ∈ D)
    (hi : m (Str.ofString "i") = some (.int i ti')) (hj : m (Str.ofString "j") = some (.int j tj'))
    (hxi : ks[i.toNat]? = some (.ref ka)) (hxj : ks[j.toNat]? = some (.ref kb))
    (hka : (ka, instObj 59 da) ∈ D) (hda : (da, keyDict w ends opp i s1 s2 s3 ti) ∈ D)
    (hkb : (kb, instObj 59 db) ∈ D) (hdb : (db, keyDict w ends opp j s4 s5 s6 tj) ∈ D)
    (hends : (ends, listOf evs.toArray n1) ∈ D) (hopp : (opp, listOf ovs.toArray n2) ∈ D)
    (i0 : 0 ≤ i) (i1 : i < 2 ^ 63) (j0 : 0 ≤ j) (j1 : j < 2 ^ 63) (oi0 : 0 ≤ oi) (oi1 : oi < 2 ^ 63) (oj0 : 0 ≤ oj) (oj1 : oj < 2 ^ 63)
    (hoi : ovs[i.toNat]? = some (.int oi toi)) (hoj : ovs[j.toNat]? = some (.int oj toj))
    {pi pj qi qj di dj ei ej pa pb la ha lb hb : Addr} {xi yi xj yj zi wi zj wj aw ki kj : Int} {t1 t2 t3 t4 t5 t6 t7 t8 v1 v2 v3 v4 v5 v6 v7 v8 v9 v10 : Tok}
    (hpi : evs[i.toNat]? = some (.ref pi)) (hpj : evs[j.toNat]? = some (.ref pj)) (hqi : evs[oi.toNat]? = some (.ref qi)) (hqj : evs[oj.toNat]? = some (.ref qj))
    (hP1 : (pi, ptObj di (xi + aw) (yi - aw) t1 t2) ∈ D) (hD1 : (di, dictOf [] 0) ∈ D)
    (hP2 : (pj, ptObj dj (xj + aw) (yj - aw) t3 t4) ∈ D) (hD2 : (dj, dictOf [] 0) ∈ D)
    (hP3 : (qi, ptObj ei (zi + aw) (wi - aw) t5 t6) ∈ D) (hD3 : (ei, dictOf [] 0) ∈ D)
    (hP4 : (qj, ptObj ej (zj + aw) (wj - aw) t7 t8) ∈ D) (hD4 : (ej, dictOf [] 0) ∈ D)
    (hpsi : ps[i.toNat]? = some (.ref pa)) (hpsj : ps[j.toNat]? = some (.ref pb))
    (hpa : (pa, plcObj la ha ki v1) ∈ D) (hpb : (pb, plcObj lb hb kj v2) ∈ D)
    (hla : (la, tupObj xi yi v3 v4) ∈ D) (hlb : (lb, tupObj xj yj v5 v6) ∈ D) (hha : (ha, tupObj zi wi v7 v8) ∈ D) (hhb : (hb, tupObj zj wj v9 v10) ∈ D)
    (hki : ki = if i % 2 = 0 then 1 else 0) (hkj : kj = if j % 2 = 0 then 1 else 0)
    (hret : ∀ h' tk', LSt h₀ L h' m ve vo D → Q .next { s with heap := h', toks := tk' }) :
    wpAny (model prog w) (lawA dp un gd L fa cdv outer) (exec (nth (inFor (nth (inFor (nth lawBody 8)) 0)) 0) (lawEnv L fa cdv)) Q E s := by
  have heq := law_eq (xi := xi) (yi := yi) (zi := zi) (wi := wi) (xj := xj) (yj := yj) (zj := zj) (wj := wj) (aw := aw) hki hkj
  clear hki hkj
  obtain ⟨F, N, ⟨oe, hoe, hde⟩, ⟨oo, hoo, hdo⟩⟩ := S
  show wpAny _ _ (exec (Stmt.If _ _ _ _) _) _ _ _
  repeat' walk1
  · exfalso
    rename_i hne
    rw [heq] at hne
    simp at hne
  · exact hret _ _ ⟨by assumption, by assumption, ⟨oe, hoe, hde⟩, ⟨oo, hoo, hdo⟩⟩
end
end Mine
end TP13
section TP14
open PySem PySem.Calls PySem.W PyProof.Rows PySem.Spec
namespace Mine
def isIter (o : Obj) : Bool := match o.data with | .fields _ => true | _ => false
/-- how a turn ends, the ledger free to grow -/
def TurnEnd (h₀ : Heap) (L : Addr) (s : Shared) (D : Led) (J : (Str → Option Value) → Led → Prop) (f : Flow) (s' : Shared) : Prop :=
  f = .next ∧ ∃ h' tk' m' D', s' = { s with heap := h', toks := tk' } ∧ Fr h₀ L h' m' ∧ News h₀ L h' D' ∧ Keep D D' ∧ J m' D'
section
variable {prog : Program} {w : World} {A : Around} {s : Shared} {env : Env} {h₀ : Heap} {x : Str} {body : List Stmt} {Q : Flow → Shared → Prop} {m₀ : Str → Option Value} {D₀ : Led}
theorem loop_grow {I : Addr} {fp wr : List Addr} {n : Nat} {P : Nat → Value → Prop} {St : Nat → Heap → Prop} (J : Nat → (Str → Option Value) → Led → Prop)
    (W : Walks prog w A I fp wr n P St) (hLf : env.locals ∉ fp) (hwr : ∀ b ∈ wr, h₀.get? b = none) (hnw : ∀ p ∈ D₀, p.1 ∉ wr)
    (hit : ∀ i h, St i h → ∀ b ∈ wr, ∃ o, h.get? b = some o ∧ isIter o = true) (hnc : ∀ i h, St i h → ∀ b ∈ fp, ∀ o, h.get? b = some o → notCell o = true)
    (hst : St 0 s.heap) (F : Fr h₀ env.locals s.heap m₀) (N : News h₀ env.locals s.heap D₀) (hj : J 0 m₀ D₀)
    (mono : ∀ i m D D', J i m D → (∀ p ∈ D, isIter p.2 = false → p ∈ D') → J i m D')
    (turn : ∀ i v m₁ D h tk, i < n → P i v → J i m₁ D → Fr h₀ env.locals h (fun y => if y = x then some v else m₁ y) → News h₀ env.locals h D →
      wpAny (model prog w) A (execs body env) (TurnEnd h₀ env.locals { s with heap := h, toks := tk } D (J (i + 1))) (fun _ _ => False) { s with heap := h, toks := tk })
    (done : ∀ m₁ D h tk, J n m₁ D → Fr h₀ env.locals h m₁ → News h₀ env.locals h D → Q .next { s with heap := h, toks := tk }) :
    LoopAtV prog w A h₀ env x body Q (fun _ _ => False) (.ref I) s := by
  refine ⟨I, fp, wr, n, P, St, m₀, D₀, J, rfl, W, hLf, hwr, hnw, hst, F, N, hj, ?_, ?_⟩
  · rintro i v m₁ news₁ s₁ own ⟨hh, tk, rfl⟩ hi hP hJ hoff hown hownat hall hst' F₁ N₁
    have hJ' : J i m₁ (own ++ news₁) := mono i m₁ _ _ hJ fun p hp _ => List.mem_append_right _ hp
    refine wpAny_mono (turn i v m₁ (own ++ news₁) hh tk hi hP hJ' F₁ N₁) (fun f s₂ z => ?_) fun _ _ z => z
    obtain ⟨rfl, h', tk', m', D', rfl, F', N', hK, hJ2⟩ := z
    refine LoopStepV.next ⟨rfl, h', tk', m', D'.filter fun p => decide (p.1 ∉ wr), rfl, F', ?_, ?_, ?_⟩
    · intro p hp
      rcases List.mem_append.mp hp with hp | hp
      · exact N' p (hK p (List.mem_append_left _ hp) (hnc _ _ hst' p.1 (hown p hp) p.2 (hownat p hp)))
      · exact N' p (List.mem_filter.mp hp).1
    · intro p hp
      exact of_decide_eq_true (List.mem_filter.mp hp).2
    · refine mono _ _ D' _ hJ2 fun p hp hni => List.mem_filter.mpr ⟨hp, decide_eq_true fun hb => ?_⟩
      obtain ⟨o, ho, hio⟩ := hit _ _ hst' p.1 hb
      have hmem := hall p.1 (W.sub _ hb) (hwr _ hb) o ho
      have h1 := (N' _ (hK _ (List.mem_append_left _ hmem) (hnc _ _ hst' p.1 (W.sub _ hb) o ho))).1
      have h2 := (N' _ hp).1
      dsimp only at h1
      rw [h1] at h2
      cases h2
      rw [hio] at hni
      cases hni
  · intro h' tk m' news' F' N' _ hJ
    exact done m' news' h' tk hJ F' N'

theorem iter_range {r : Addr} {n : Nat} {b : Int} {t₀ u₀ v₀ : Tok} (J : Nat → (Str → Option Value) → Led → Prop)
    (hh : A.handled = none) (hr : IsRange s.heap r 0 b 1 t₀ u₀ v₀) (hsmall : Builtin.Range.small 0 b 1 = true) (hn : Builtin.Range.rangeSize 0 b 1 = (n : Int))
    (F : Fr h₀ env.locals s.heap m₀) (N : News h₀ env.locals s.heap D₀) (hj : J 0 m₀ D₀)
    (mono : ∀ i m D D', J i m D → (∀ p ∈ D, isIter p.2 = false → p ∈ D') → J i m D')
    (turn : ∀ i t m₁ D h tk, i < n → J i m₁ D → Fr h₀ env.locals h (fun y => if y = x then some (.int (i : Int) t) else m₁ y) → News h₀ env.locals h D →
      wpAny (model prog w) A (execs body env) (TurnEnd h₀ env.locals { s with heap := h, toks := tk } D (J (i + 1))) (fun _ _ => False) { s with heap := h, toks := tk })
    (done : ∀ m₁ D h tk, J n m₁ D → Fr h₀ env.locals h m₁ → News h₀ env.locals h D → Q .next { s with heap := h, toks := tk }) :
    wpAny (model prog w) A (pyIter (.ref r)) (fun it s₂ => LoopAtV prog w A h₀ env x body Q (fun _ _ => False) it s₂) (fun _ _ => False) s := by
  refine wpAny_pyIter_range hr hsmall ?_
  have W : Walks prog w A s.heap.objs.size [s.heap.objs.size] [s.heap.objs.size] n (fun i v => i < n ∧ ∃ t, v = .int (0 + i * 1) t)
      (fun i h => IsRangeIter h s.heap.objs.size (0 + (i : Nat) * 1) ((n : Int) - (i : Nat)) 1) := (Walks.range hh _ 0 1 n).bound
  refine loop_grow (D₀ := D₀) J W ?_ ?_ ?_ ?_ ?_ (by show IsRangeIter _ _ _ _ _; rw [hn]; simpa using Heap.get?_push_size _ rfl) (F.push _) (fun p hp => ⟨Heap.get?_push_of_some _ (N p hp).1, (N p hp).2⟩) hj mono ?_ ?_
  · intro hm
    exact absurd F.ns.lt ((List.mem_singleton.mp hm) ▸ Nat.lt_irrefl _)
  · intro b hb
    rw [List.mem_singleton.mp hb]
    exact next_is_new F
  · intro p hp hI
    exact absurd (Heap.lt_size (N p hp).1) ((List.mem_singleton.mp hI) ▸ Nat.lt_irrefl _)
  · intro i h hs b hb
    rw [List.mem_singleton.mp hb]
    exact ⟨_, hs, by rfl⟩
  · intro i h hs b hb o ho
    rw [List.mem_singleton.mp hb] at ho
    have hs' : h.get? _ = some _ := hs
    rw [hs'] at ho
    cases ho
    rfl
  · rintro i v m₁ D h tk hi ⟨_, t, rfl⟩ hJ F' N'
    have e : (0 + (i : Int) * 1) = (i : Int) := by omega
    rw [e] at F'
    exact turn i t m₁ D h tk hi hJ F' N'
  · exact done

theorem iter_list {l : Addr} {vs : List Value} {k : Nat} (J : Nat → (Str → Option Value) → Led → Prop)
    (hh : A.handled = none) (F : Fr h₀ env.locals s.heap m₀) (N : News h₀ env.locals s.heap D₀) (hl : (l, listOf vs.toArray k) ∈ D₀) (hj : J 0 m₀ D₀)
    (mono : ∀ i m D D', J i m D → (∀ p ∈ D, isIter p.2 = false → p ∈ D') → J i m D')
    (turn : ∀ i v m₁ D h tk, i < vs.length → vs[i]? = some v → J i m₁ D → Fr h₀ env.locals h (fun y => if y = x then some v else m₁ y) → News h₀ env.locals h D →
      wpAny (model prog w) A (execs body env) (TurnEnd h₀ env.locals { s with heap := h, toks := tk } D (J (i + 1))) (fun _ _ => False) { s with heap := h, toks := tk })
    (done : ∀ m₁ D h tk, J vs.length m₁ D → Fr h₀ env.locals h m₁ → News h₀ env.locals h D → Q .next { s with heap := h, toks := tk }) :
    wpAny (model prog w) A (pyIter (.ref l)) (fun it s₂ => LoopAtV prog w A h₀ env x body Q (fun _ _ => False) it s₂) (fun _ _ => False) s := by
  have hls : s.heap.IsList l vs.toArray := ⟨_, (N _ hl).1, rfl, k, rfl⟩
  have hlt : l < s.heap.objs.size := Heap.lt_size (N _ hl).1
  have hne : l ≠ s.heap.objs.size := Nat.ne_of_lt hlt
  refine wpAny_pyIter_list hls ?_
  have W := Walks.list (prog := prog) (w := w) hh s.heap.objs.size l hne vs.toArray
  have hlen : vs.toArray.size = vs.length := by simp
  rw [hlen] at W
  refine loop_grow (D₀ := D₀) J W ?_ ?_ ?_ ?_ ?_ ⟨⟨_, Heap.get?_push_size _ rfl, rfl, rfl⟩, hls.at fun o e => Heap.get?_push_of_some _ e⟩ (F.push _) (fun p hp => ⟨Heap.get?_push_of_some _ (N p hp).1, (N p hp).2⟩) hj mono ?_ ?_
  · intro hm
    rcases List.mem_cons.mp hm with e | hm
    · exact absurd F.ns.lt (e ▸ Nat.lt_irrefl _)
    · exact (N _ hl).2.1 (List.mem_singleton.mp hm).symm
  · intro b hb
    rw [List.mem_singleton.mp hb]
    exact next_is_new F
  · intro p hp hI
    exact absurd (Heap.lt_size (N p hp).1) ((List.mem_singleton.mp hI) ▸ Nat.lt_irrefl _)
  · rintro i h ⟨⟨o, ho, hc, hd⟩, _⟩ b hb
    rw [List.mem_singleton.mp hb]
    exact ⟨o, ho, by unfold isIter; rw [hd]⟩
  · rintro i h ⟨⟨o, ho, hc, hd⟩, o2, ho2, hc2, n2, hd2⟩ b hb o' ho'
    rcases List.mem_cons.mp hb with rfl | hb
    · rw [ho] at ho'; cases ho'
      unfold notCell; rw [hd]
    · rw [List.mem_singleton.mp hb, ho2] at ho'; cases ho'
      unfold notCell; rw [hd2]
  · intro i v m₁ D h tk hi hP hJ F' N'
    exact turn i v m₁ D h tk hi (by simpa using hP) hJ F' N'
  · exact done
end
end Mine
end TP14
section TP15
open PySem PySem.Calls PySem.W PyProof.Rows PySem.Spec
namespace Mine
theorem fill10 : PySem.Challenge.rw_ja0006_01 = PySem.Challenge.rw_ja0006_01 ∧ Mine.hd.heap_39 = Mine.hd.heap_39 := by k_fill; exact ⟨rfl, rfl⟩
local macro_rules | `(tactic| k_room) => `(tactic| ktr_room)
local macro_rules | `(tactic| k_units) => `(tactic| ktr_units)
local macro_rules | `(tactic| k_mem) => `(tactic| first | with_reducible assumption | (refine mem_of' ?_; with_reducible assumption) | (refine mem_sub (by with_reducible assumption) ?_; k_mem))
local macro_rules | `(tactic| walk_at "binaryOp Add") => `(tactic| (k_here; (with_reducible show wpAny _ _ (binaryOp _ (Value.ref _) (Value.ref _)) _ _ _); k_dflt (refine' add_N ?k1 ?k2 ?k3 ?k4 ?k5 ?_; (case k1 => k_asm); (case k2 => k_asm); (case k3 => k_mem); (case k4 => k_mem); (case k5 => (rw [sizeLine_eq]; simp only [List.length_cons, List.length_nil]; omega)); k_whole); intro r' h' F' N'))
local macro_rules | `(tactic| walk_at "eval Name") => `(tactic| (k_here; k_dflt (refine' nameX_L ?F ?v ?_ ?a ?b ?c; (case a => rfl); (case b => rfl); (case c => decide); (case F => k_asm); (case v => assumption); k_whole)))
local macro_rules | `(tactic| walk_at "eval Name") => `(tactic| (k_here; k_dflt (refine' nameX_C ?N ?l ?m ?d ?_ ?a ?b ?c; (case a => rfl); (case b => rfl); (case c => decide); (case l => exact rfl); (case N => k_asm); (case m => k_mem); (case d => assumption); k_whole)))
local macro_rules | `(tactic| walk_at "call ref") => `(tactic| (k_here; (with_reducible show wpAny _ _ (call (Value.ref 174) _) _ _ _); k_dflt (refine' point_new ?k1 ?k2 ?k3 ?k4 ?k5 ?k6 ?k7 ?_; (case k1 => k_asm); (case k2 => k_asm); (case k3 => k_asm); (case k4 => k_asm); (case k5 => k_asm); (case k6 => first | rfl | assumption); (case k7 => ktr_room); k_whole); intro d' q' h' tk' news' F' N' hs' hq' hd'; (try k_fold)))
/-- a row: a list of two pairs -/
def RowAt (D : Led) (v : Value) : Prop := ∃ (row lo hi : Addr) (n : Nat) (x y z c : Int) (t1 t2 t3 t4 : Tok), v = .ref row ∧ (row, listOf #[.ref lo, .ref hi] n) ∈ D ∧ (lo, tupObj x y t1 t2) ∈ D ∧ (hi, tupObj z c t3 t4) ∈ D
theorem RowAt.mono {D D' : Led} {v : Value} (h : RowAt D v) (k : ∀ p ∈ D, isIter p.2 = false → p ∈ D') : RowAt D' v := by
  obtain ⟨row, lo, hi, n, x, y, z, c, t1, t2, t3, t4, e, h1, h2, h3⟩ := h
  exact ⟨row, lo, hi, n, x, y, z, c, t1, t2, t3, t4, e, k _ h1 rfl, k _ h2 rfl, k _ h3 rfl⟩
theorem RowAt.keep {D D' : Led} {v : Value} (h : RowAt D v) (k : Keep D D') : RowAt D' v := by
  obtain ⟨row, lo, hi, n, x, y, z, c, t1, t2, t3, t4, e, h1, h2, h3⟩ := h
  exact ⟨row, lo, hi, n, x, y, z, c, t1, t2, t3, t4, e, k _ h1 rfl, k _ h2 rfl, k _ h3 rfl⟩
def CellAt (D : Led) (c : Addr) (v : Option Value) : Prop := ∃ o, (c, o) ∈ D ∧ o.data = .cell v
theorem CellAt.mono {D D' : Led} {c : Addr} {v : Option Value} (h : CellAt D c v) (k : ∀ p ∈ D, isIter p.2 = false → p ∈ D') : CellAt D' c v := by
  obtain ⟨o, h1, h2⟩ := h
  exact ⟨o, k _ h1 (by unfold isIter; rw [h2]), h2⟩
theorem cell_more {D D' : Led} {c : Addr} {v : Option Value} (h : CellAt D c v) (k : ∀ p ∈ D, p ∈ D') : CellAt D' c v := let ⟨o, h1, h2⟩ := h; ⟨o, k _ h1, h2⟩
section
variable {prog : Program} {w : World} {mean : ExcName → Option Value} {mg mb : Str → Option Value}
  {dp un : Nat} {gd : Option (List Code)} {fa : Addr} {cdv : Value} {outer : List Env} {A₀ : Around} {base h₀ : Heap} {L : Addr} {m : Str → Option Value} {s : Shared} {D : Led}
/-- what stands behind the first loop -/
def Rows (h₀ : Heap) (L : Addr) (m : Str → Option Value) (ve vo : Option Value) (s s' : Shared) : Prop :=
  ∃ (h' : Heap) (tk' : Nat) (m' : Str → Option Value) (D' : Led) (r : Addr) (rs : List Value) (k : Nat), s' = { s with heap := h', toks := tk' } ∧ LSt h₀ L h' m' ve vo D' ∧ m' (Str.ofString "rows") = some (.ref r) ∧ (r, listOf rs.toArray k) ∈ D' ∧ rs.length ≤ 6 ∧ (∀ v ∈ rs, RowAt D' v) ∧
    ∀ y, y ≠ Str.ofString "rows" → y ≠ Str.ofString "number" → m' y = m y
theorem ints_at {vs : List Value} {ns : List Int} (hI : IntsAre vs ns) {i : Nat} {v : Value} (h : vs[i]? = some v) : ∃ n t, v = .int n t := by
  induction hI generalizing i with
  | nil => cases h
  | cons n t r ih =>
    cases i with
    | zero => exact ⟨n, t, (Option.some.inj h).symm⟩
    | succ i => exact ih h
theorem loop1_iter {ve vo : Option Value} (B : Below A₀ base outer h₀) (X : (Mine.hd.heap_39 w.params).In h₀) (T : TopF mean mg mb h₀) (hd : dp + 30 < recursionLimit) (hu : un + 100 < cLine) {Q : Flow → Shared → Prop}
    {l r : Addr} {vs : List Value} {ns : List Int} {k kr : Nat}
    (S : LSt h₀ L s.heap m ve vo D) (hl : (l, listOf vs.toArray k) ∈ D) (hI : IntsAre vs ns) (h3 : ns.length ≤ 3) (hr : m (Str.ofString "rows") = some (.ref r)) (hrs : (r, listOf ([] : List Value).toArray kr) ∈ D)
    (hQ : ∀ s', Rows h₀ L m ve vo s s' → Q .next s') :
    wpAny (model prog w) (lawA dp un gd L fa cdv outer) (pyIter (.ref l)) (fun it s₂ => LoopAtV prog w (lawA dp un gd L fa cdv outer) h₀ (lawEnv L fa cdv) (Str.ofString "number") (inFor (nth lawBody 2)) Q (fun _ _ => False) it s₂) (fun _ _ => False) s := by
  obtain ⟨F, N, he, ho⟩ := S
  have hlv : vs.length = ns.length := hI.length
  refine iter_list (D₀ := D) (m₀ := m) (fun i m' D' => CellAt D' (L + 1) ve ∧ CellAt D' (L + 1 + 1) vo ∧ ∃ (r : Addr) (rs : List Value) (k : Nat), m' (Str.ofString "rows") = some (.ref r) ∧ (r, listOf rs.toArray k) ∈ D' ∧ rs.length = 2 * i ∧ (∀ v ∈ rs, RowAt D' v) ∧
    ∀ y, y ≠ Str.ofString "rows" → y ≠ Str.ofString "number" → m' y = m y) rfl F N hl ⟨he, ho, r, [], kr, hr, hrs, rfl, (fun _ h => nomatch h), fun _ _ _ => rfl⟩ ?_ ?_ ?_
  · rintro i m' D1 D2 ⟨c1, c2, r, rs, k, a1, a2, a3, a4, a5⟩ hk
    exact ⟨c1.mono hk, c2.mono hk, r, rs, k, a1, hk _ a2 rfl, a3, fun v hv => (a4 v hv).mono hk, a5⟩
  · rintro i v m₁ D1 h tk hi hv ⟨c1, c2, r1, rs, k1, a1, a2, a3, a4, a5⟩ F1 N1
    obtain ⟨n, t, rfl⟩ := ints_at hI hv
    show wpAny _ _ (execs (nth (inFor (nth lawBody 2)) 0 :: []) _) _ _ _
    refine wpAny_execs_cons ?_
    refine st_rows (s := { s with heap := h, toks := tk }) B X T hd hu ⟨F1, N1, c1, c2⟩ (by show (if _ = _ then _ else _) = _; rw [if_neg (by decide)]; exact a1) a2 (by omega) (by show (if _ = _ then _ else _) = _; rw [if_pos rfl]) ?_
    intro h' tk' D' r' k' a b k1 k2 p1 p2 p3 p4 x1 y1 x2 y2 x3 y3 x4 y4 t1 u1 t2 u2 t3 u3 t4 u4 S' hK b1 b2 b3 b4 b5 b6 b7
    refine wpAny_execs_nil ⟨rfl, h', tk', _, D', rfl, S'.fr, S'.ne, hK, S'.e, S'.o, r', rs ++ [Value.ref a, Value.ref b], k', ?_, b1, ?_, ?_, ?_⟩
    · show (if _ = _ then _ else _) = _; rw [if_pos rfl]
    · simp [a3]; omega
    · intro v hv
      rcases List.mem_append.mp hv with hv | hv
      · exact (a4 v hv).keep hK
      · rcases List.mem_cons.mp hv with rfl | hv
        · exact ⟨a, p1, p2, k1, x1, y1, x2, y2, t1, u1, t2, u2, rfl, b2, b3, b4⟩
        · rcases List.mem_cons.mp hv with rfl | hv
          · exact ⟨b, p3, p4, k2, x3, y3, x4, y4, t3, u3, t4, u4, rfl, b5, b6, b7⟩
          · cases hv
    · intro y h1 h2
      show (if _ = _ then _ else _) = _
      rw [if_neg h1]
      show (if _ = _ then _ else _) = _
      rw [if_neg h2]
      exact a5 y h1 h2
  · rintro m₁ D1 h tk ⟨c1, c2, r1, rs, k1, a1, a2, a3, a4, a5⟩ F1 N1
    exact hQ _ ⟨h, tk, m₁, D1, r1, rs, k1, rfl, ⟨F1, N1, c1, c2⟩, a1, a2, by omega, a4, a5⟩
set_option maxHeartbeats 4000000 in
theorem loop1 {ve vo : Option Value} (B : Below A₀ base outer h₀) (X : (Mine.hd.heap_39 w.params).In h₀) (T : TopF mean mg mb h₀) (hd : dp + 30 < recursionLimit) (hu : un + 100 < cLine)
    {sl r : Addr} {vs : List Value} {ns : List Int} {k : Nat}
    (S : LSt h₀ L s.heap m ve vo D) (hs : m (Str.ofString "script") = some (.ref sl)) (hsl : h₀.IsList sl vs.toArray) (hI : IntsAre vs ns) (hlen : ns.length ≤ 63) (hr : m (Str.ofString "rows") = some (.ref r)) (hrs : (r, listOf #[] k) ∈ D) :
    wpAny (model prog w) (lawA dp un gd L fa cdv outer) (exec (nth lawBody 2) (lawEnv L fa cdv)) (fun f s' => f = .next ∧ Rows h₀ L m ve vo s s') (fun _ _ => False) s := by
  obtain ⟨F, N, he, ho⟩ := S
  refine For_invV h₀ (by rfl) (by rfl) ?_
  repeat' walk1
  · refine loop1_iter B X T hd hu (m := m) ⟨by assumption, by assumption, cell_more he (by intro p hp; k_mem), cell_more ho (by intro p hp; k_mem)⟩ (by k_mem) (by assumption) (by omega) hr (by k_mem) ?_
    rintro s' ⟨h', tk', m', D', r, rs, k, rfl, z⟩
    exact ⟨rfl, h', tk', m', D', r, rs, k, rfl, z⟩
  · refine loop1_iter B X T hd hu (m := m) ⟨by assumption, by assumption, cell_more he (by intro p hp; k_mem), cell_more ho (by intro p hp; k_mem)⟩ (by k_mem) (IntsAre.cons _ _ IntsAre.nil) (by decide) hr (by k_mem) ?_
    rintro s' ⟨h', tk', m', D', r, rs, k, rfl, z⟩
    exact ⟨rfl, h', tk', m', D', r, rs, k, rfl, z⟩
end
end Mine
end TP15
section TP16
open PySem PySem.Calls PySem.W PyProof.Rows PySem.Spec
namespace Mine
theorem fill11 : PySem.Challenge.rw_ja0006_01 = PySem.Challenge.rw_ja0006_01 ∧ Mine.hd.heap_39 = Mine.hd.heap_39 := by k_fill; exact ⟨rfl, rfl⟩
local macro_rules | `(tactic| k_room) => `(tactic| ktr_room)
local macro_rules | `(tactic| k_units) => `(tactic| ktr_units)
local macro_rules | `(tactic| k_mem) => `(tactic| first | with_reducible assumption | (refine mem_of' ?_; with_reducible assumption) | (refine mem_sub (by with_reducible assumption) ?_; k_mem))
local macro_rules | `(tactic| walk_at "binaryOp Add") => `(tactic| (k_here; (with_reducible show wpAny _ _ (binaryOp _ (Value.ref _) (Value.ref _)) _ _ _); k_dflt (refine' add_N ?k1 ?k2 ?k3 ?k4 ?k5 ?_; (case k1 => k_asm); (case k2 => k_asm); (case k3 => k_mem); (case k4 => k_mem); (case k5 => (rw [sizeLine_eq]; simp only [List.length_cons, List.length_nil]; omega)); k_whole); intro r' h' F' N'))
local macro_rules | `(tactic| walk_at "eval Name") => `(tactic| (k_here; k_dflt (refine' nameX_L ?F ?v ?_ ?a ?b ?c; (case a => rfl); (case b => rfl); (case c => decide); (case F => k_asm); (case v => assumption); k_whole)))
local macro_rules | `(tactic| walk_at "eval Name") => `(tactic| (k_here; k_dflt (refine' nameX_C ?N ?l ?m ?d ?_ ?a ?b ?c; (case a => rfl); (case b => rfl); (case c => decide); (case l => exact rfl); (case N => k_asm); (case m => k_mem); (case d => assumption); k_whole)))
local macro_rules | `(tactic| walk_at "call ref") => `(tactic| (k_here; (with_reducible show wpAny _ _ (call (Value.ref 174) _) _ _ _); k_dflt (refine' point_new ?k1 ?k2 ?k3 ?k4 ?k5 ?k6 ?k7 ?_; (case k1 => k_asm); (case k2 => k_asm); (case k3 => k_asm); (case k4 => k_asm); (case k5 => k_asm); (case k6 => first | rfl | assumption); (case k7 => ktr_room); k_whole); intro d' q' h' tk' news' F' N' hs' hq' hd'; (try k_fold)))
theorem len_N {prog : Program} {w : World} {A : Around} {E : Value → Shared → Prop} {s : Shared} {h₀ : Heap} {L : Addr} {D : Led} {l : Addr} {vs : List Value} {n : Nat} {Q : Value → Shared → Prop} (N : News h₀ L s.heap D) (hl : (l, listOf vs.toArray n) ∈ D) (hz : vs.length ≤ 1000)
    (h : ∀ t tk, Q (.int (vs.length : Int) t) { s with toks := tk }) : wpAny (model prog w) A (call (.builtin "len") [.ref l]) Q E s :=
  PyProof.Rows.len_list ⟨_, (N _ hl).1, rfl, n, rfl⟩ (by simp; omega) (by simpa using h _ _)
local macro_rules | `(tactic| walk_at "call builtin:len") => `(tactic| (k_here; (with_reducible show wpAny _ _ (call (Value.builtin "len") [Value.ref _]) _ _ _); k_dflt (refine' len_N ?k1 ?k2 ?k3 ?_; (case k1 => k_asm); (case k2 => k_mem); (case k3 => omega); k_whole); intro t' tk'))
/-- the event at the segment's other end -/
def opp (i : Nat) : Nat := if i % 2 = 0 then i + 1 else i - 1
/-- what the three lists hold of the i-th event -/
def EvAt (D : Led) (aw : Int) (pts : Nat → Int × Int) (es os ps : List Value) (i : Nat) : Prop :=
  ∃ (p d pl la ha : Addr) (t t1 t2 t3 t4 t5 t6 t7 : Tok), es[i]? = some (.ref p) ∧ (p, ptObj d ((pts i).1 + aw) ((pts i).2 - aw) t1 t2) ∈ D ∧ (d, dictOf [] 0) ∈ D ∧ os[i]? = some (.int (opp i : Nat) t) ∧ ps[i]? = some (.ref pl) ∧
    (pl, plcObj la ha (if (i : Int) % 2 = 0 then 1 else 0) t3) ∈ D ∧ (la, tupObj (pts i).1 (pts i).2 t4 t5) ∈ D ∧ (ha, tupObj (pts (opp i)).1 (pts (opp i)).2 t6 t7) ∈ D
theorem EvAt.mono {D D' : Led} {aw : Int} {pts : Nat → Int × Int} {es os ps : List Value} {i : Nat} (h : EvAt D aw pts es os ps i) (k : ∀ p ∈ D, isIter p.2 = false → p ∈ D') : EvAt D' aw pts es os ps i := by
  obtain ⟨p, d, pl, la, ha, t, t1, t2, t3, t4, t5, t6, t7, a1, a2, a3, a4, a5, a6, a7, a8⟩ := h
  exact ⟨p, d, pl, la, ha, t, t1, t2, t3, t4, t5, t6, t7, a1, k _ a2 rfl, k _ a3 rfl, a4, a5, k _ a6 rfl, k _ a7 rfl, k _ a8 rfl⟩
theorem EvAt.keep {D D' : Led} {aw : Int} {pts : Nat → Int × Int} {es os ps : List Value} {i : Nat} (h : EvAt D aw pts es os ps i) (k : Keep D D') : EvAt D' aw pts es os ps i := by
  obtain ⟨p, d, pl, la, ha, t, t1, t2, t3, t4, t5, t6, t7, a1, a2, a3, a4, a5, a6, a7, a8⟩ := h
  exact ⟨p, d, pl, la, ha, t, t1, t2, t3, t4, t5, t6, t7, a1, k _ a2 rfl, k _ a3 rfl, a4, a5, k _ a6 rfl, k _ a7 rfl, k _ a8 rfl⟩
theorem EvAt.grow {D : Led} {aw : Int} {pts : Nat → Int × Int} {es os ps es' os' ps' : List Value} {i n : Nat} {a b : Int × Int} (h : EvAt D aw pts es os ps i) (hi : i < 2 * n) (he : es.length = 2 * n) (ho : os.length = 2 * n) (hp : ps.length = 2 * n) :
    EvAt D aw (fun q => if q = 2 * n then a else if q = 2 * n + 1 then b else pts q) (es ++ es') (os ++ os') (ps ++ ps') i := by
  obtain ⟨p, d, pl, la, ha, t, t1, t2, t3, t4, t5, t6, t7, a1, a2, a3, a4, a5, a6, a7, a8⟩ := h
  have e1 : (fun q => if q = 2 * n then a else if q = 2 * n + 1 then b else pts q) i = pts i := by
    show (if _ then _ else if _ then _ else _) = _; rw [if_neg (by omega), if_neg (by omega)]
  have e2 : (fun q => if q = 2 * n then a else if q = 2 * n + 1 then b else pts q) (opp i) = pts (opp i) := by
    have : opp i < 2 * n := by unfold opp; split <;> omega
    show (if _ then _ else if _ then _ else _) = _; rw [if_neg (by omega), if_neg (by omega)]
  refine ⟨p, d, pl, la, ha, t, t1, t2, t3, t4, t5, t6, t7, ?_, ?_, a3, ?_, ?_, a6, ?_, ?_⟩
  · rw [List.getElem?_append_left (by omega)]; exact a1
  · rw [e1]; exact a2
  · rw [List.getElem?_append_left (by omega)]; exact a4
  · rw [List.getElem?_append_left (by omega)]; exact a5
  · rw [e1]; exact a7
  · rw [e2]; exact a8
section
variable {prog : Program} {w : World} {mean : ExcName → Option Value} {mg mb : Str → Option Value}
  {dp un : Nat} {gd : Option (List Code)} {fa : Addr} {cdv : Value} {outer : List Env} {A₀ : Around} {base h₀ : Heap} {L : Addr} {m : Str → Option Value} {s : Shared} {D : Led}
/-- what stands behind the second loop -/
def Ends (h₀ : Heap) (L : Addr) (s s' : Shared) : Prop :=
  ∃ (h' : Heap) (tk' : Nat) (m' : Str → Option Value) (D' : Led) (e o p : Addr) (es os ps : List Value) (ke ko kp n : Nat) (aw : Int) (pts : Nat → Int × Int), s' = { s with heap := h', toks := tk' } ∧ LSt h₀ L h' m' (some (.ref e)) (some (.ref o)) D' ∧
    m' (Str.ofString "places") = some (.ref p) ∧ (e, listOf es.toArray ke) ∈ D' ∧ (o, listOf os.toArray ko) ∈ D' ∧ (p, listOf ps.toArray kp) ∈ D' ∧ es.length = 2 * n ∧ os.length = 2 * n ∧ ps.length = 2 * n ∧ n ≤ 6 ∧ ∀ i, i < 2 * n → EvAt D' aw pts es os ps i
theorem upd_ne {m : Str → Option Value} {x y : Str} {v : Option Value} {r : Option Value} (h : y ≠ x) (e : m y = r) : (fun z => if z = x then v else m z) y = r := by
  show (if _ = _ then _ else _) = _; rw [if_neg h]; exact e
theorem upd_eq {m : Str → Option Value} {x : Str} {v : Option Value} : (fun z => if z = x then v else m z) x = v := by
  show (if _ = _ then _ else _) = _; rw [if_pos rfl]
theorem range_small {n : Nat} (h : n ≤ 1000) : Builtin.Range.small 0 (n : Int) 1 = true ∧ Builtin.Range.rangeSize 0 (n : Int) 1 = (n : Int) := by
  refine ⟨PySem.small_one (by decide) (by decide) (by omega) (by omega), ?_⟩
  unfold Builtin.Range.rangeSize
  rw [if_pos (by decide)]
  by_cases h0 : (0 : Int) < (n : Int)
  · rw [if_pos h0]; omega
  · rw [if_neg h0]; omega
theorem loop2_iter (B : Below A₀ base outer h₀) (X : (Mine.hd.heap_39 w.params).In h₀) (T : TopF mean mg mb h₀) (hd : dp + 30 < recursionLimit) (hu : un + 100 < cLine) {Q : Flow → Shared → Prop}
    {rg e o p r : Addr} {rs : List Value} {ke ko kp kr : Nat} {aw : Int} {ta t1 t2 t3 : Tok}
    (hR : IsRange s.heap rg 0 (rs.length : Int) 1 t1 t2 t3)
    (S : LSt h₀ L s.heap m (some (.ref e)) (some (.ref o)) D) (hr : m (Str.ofString "rows") = some (.ref r)) (hrs : (r, listOf rs.toArray kr) ∈ D) (hlen : rs.length ≤ 6) (hrow : ∀ v ∈ rs, RowAt D v)
    (haw : m (Str.ofString "away") = some (.int aw ta)) (hp : m (Str.ofString "places") = some (.ref p))
    (he : (e, listOf ([] : List Value).toArray ke) ∈ D) (ho : (o, listOf ([] : List Value).toArray ko) ∈ D) (hps : (p, listOf ([] : List Value).toArray kp) ∈ D)
    (hQ : ∀ s', Ends h₀ L s s' → Q .next s') :
    wpAny (model prog w) (lawA dp un gd L fa cdv outer) (pyIter (.ref rg)) (fun it s₂ => LoopAtV prog w (lawA dp un gd L fa cdv outer) h₀ (lawEnv L fa cdv) (Str.ofString "k") (inFor (nth lawBody 6)) Q (fun _ _ => False) it s₂) (fun _ _ => False) s := by
  obtain ⟨F, N, ce, co⟩ := S
  refine iter_range (n := rs.length) (D₀ := D) (m₀ := m) (fun i m' D' => ∃ (e o p : Addr) (es os ps : List Value) (ke ko kp : Nat) (pts : Nat → Int × Int), CellAt D' (L + 1) (some (.ref e)) ∧ CellAt D' (L + 1 + 1) (some (.ref o)) ∧
      m' (Str.ofString "rows") = some (.ref r) ∧ m' (Str.ofString "away") = some (.int aw ta) ∧ m' (Str.ofString "places") = some (.ref p) ∧ (r, listOf rs.toArray kr) ∈ D' ∧ (∀ v ∈ rs, RowAt D' v) ∧
      (e, listOf es.toArray ke) ∈ D' ∧ (o, listOf os.toArray ko) ∈ D' ∧ (p, listOf ps.toArray kp) ∈ D' ∧ es.length = 2 * i ∧ os.length = 2 * i ∧ ps.length = 2 * i ∧ ∀ j, j < 2 * i → EvAt D' aw pts es os ps j)
    rfl hR (range_small (by omega)).1 (range_small (by omega)).2 F N ⟨e, o, p, [], [], [], ke, ko, kp, fun _ => (0, 0), ce, co, hr, haw, hp, hrs, hrow, he, ho, hps, rfl, rfl, rfl, fun j hj => absurd hj (by omega)⟩ ?_ ?_ ?_
  · rintro i m' D1 D2 ⟨e, o, p, es, os, ps, ke, ko, kp, pts, a1, a2, a3, a4, a5, a6, a7, a8, a9, a10, a11, a12, a13, a14⟩ hk
    exact ⟨e, o, p, es, os, ps, ke, ko, kp, pts, a1.mono hk, a2.mono hk, a3, a4, a5, hk _ a6 rfl, fun v hv => (a7 v hv).mono hk, hk _ a8 rfl, hk _ a9 rfl, hk _ a10 rfl, a11, a12, a13, fun j hj => (a14 j hj).mono hk⟩
  · rintro i t m₁ D1 h tk hi ⟨e, o, p, es, os, ps, ke, ko, kp, pts, a1, a2, a3, a4, a5, a6, a7, a8, a9, a10, a11, a12, a13, a14⟩ F1 N1
    obtain ⟨row, lo, hi', nr, x, y, z, c, u1, u2, u3, u4, hv, r1, r2, r3⟩ := a7 _ (List.getElem_mem hi)
    have hx : rs[(i : Int).toNat]? = some (.ref row) := by rw [Int.toNat_natCast, List.getElem?_eq_getElem hi, hv]
    show wpAny _ _ (execs (nth (inFor (nth lawBody 6)) 0 :: nth (inFor (nth lawBody 6)) 1 :: nth (inFor (nth lawBody 6)) 2 :: nth (inFor (nth lawBody 6)) 3 :: []) _) _ _ _
    refine wpAny_execs_cons (st_unpack (s := { s with heap := h, toks := tk }) B X T hd hu ⟨F1, N1, a1, a2⟩ a3 a6 rfl (by omega) (by omega) hx r1 fun h2 tk2 D2 S2 K2 => ?_)
    refine wpAny_execs_cons (st_ends (s := { s with heap := h2, toks := tk2 }) B X T hd hu S2 (K2 _ a8 rfl) (by omega) rfl (K2 _ r2 rfl) rfl (K2 _ r3 rfl) a4
      fun h3 tk3 D3 e3 k3 q1 q2 d1 d2 v1 v2 v3 v4 S3 K3 b1 b2 b3 b4 b5 => ?_)
    refine wpAny_execs_cons (st_opp (s := { s with heap := h3, toks := tk3 }) B X T hd hu S3 (K3 _ (K2 _ a9 rfl) rfl) (by omega) rfl (by omega) (by omega)
      fun h4 tk4 D4 o4 k4 v5 v6 S4 K4 c1 => ?_)
    refine wpAny_execs_cons (st_places (s := { s with heap := h4, toks := tk4 }) B X T hd hu S4 a5 (K4 _ (K3 _ (K2 _ a10 rfl) rfl) rfl) (by omega) rfl rfl
      fun h5 tk5 D5 p5 k5 w1 w2 v7 v8 S5 K5 d1' d2' d3' => ?_)
    have K : Keep D1 D5 := ((K2.trans K3).trans K4).trans K5
    refine wpAny_execs_nil ⟨rfl, h5, tk5, _, D5, rfl, S5.fr, S5.ne, K, e3, o4, p5, _, _, _, k3, k4, k5, fun q => if q = 2 * i then (x, y) else if q = 2 * i + 1 then (z, c) else pts q, S5.e, S5.o,
      a3, upd_ne (by decide) a4, rfl, K _ a6 rfl, fun v hv => (a7 v hv).keep K,
      K5 _ (K4 _ b1 rfl) rfl, K5 _ c1 rfl, d1', ?_, ?_, ?_, ?_⟩
    · simp [a11]; omega
    · simp [a12]; omega
    · simp [a13]; omega
    · intro j hj
      by_cases h1 : j < 2 * i
      · exact ((a14 j h1).keep K).grow h1 a11 a12 a13
      · have e1 : (fun q => if q = 2 * i then (x, y) else if q = 2 * i + 1 then (z, c) else pts q) (2 * i) = (x, y) := if_pos rfl
        have e2 : (fun q => if q = 2 * i then (x, y) else if q = 2 * i + 1 then (z, c) else pts q) (2 * i + 1) = (z, c) := by
          show (if _ then _ else if _ then _ else _) = _
          rw [if_neg (by omega), if_pos rfl]
        have K35 : Keep D3 D5 := K4.trans K5
        have K25 : Keep D2 D5 := K3.trans K35
        have K15 : Keep D1 D5 := K
        by_cases h2 : j = 2 * i
        · subst h2
          have o1 : opp (2 * i) = 2 * i + 1 := by unfold opp; rw [if_pos (by omega)]
          refine ⟨q1, d1, w1, lo, hi', v5, v1, v2, v7, u1, u2, u3, u4, ?_, ?_, K35 _ b3 rfl, ?_, ?_, ?_, ?_, ?_⟩
          · rw [List.getElem?_append_right (by omega), a11, Nat.sub_self]; rfl
          · rw [e1]; exact K35 _ b2 rfl
          · rw [List.getElem?_append_right (by omega), a12, Nat.sub_self, o1]; rfl
          · rw [List.getElem?_append_right (by omega), a13, Nat.sub_self]; rfl
          · rw [if_pos (by omega)]; exact d2'
          · rw [e1]; exact K15 _ r2 rfl
          · rw [o1, e2]; exact K15 _ r3 rfl
        · have h3 : j = 2 * i + 1 := by omega
          subst h3
          have o1 : opp (2 * i + 1) = 2 * i := by unfold opp; rw [if_neg (by omega)]; omega
          have s1 : 2 * i + 1 - 2 * i = 1 := by omega
          refine ⟨q2, d2, w2, hi', lo, v6, v3, v4, v8, u3, u4, u1, u2, ?_, ?_, K35 _ b5 rfl, ?_, ?_, ?_, ?_, ?_⟩
          · rw [List.getElem?_append_right (by omega), a11, s1]; rfl
          · rw [e2]; exact K35 _ b4 rfl
          · rw [List.getElem?_append_right (by omega), a12, s1, o1]; rfl
          · rw [List.getElem?_append_right (by omega), a13, s1]; rfl
          · rw [if_neg (by omega)]; exact d3'
          · rw [e2]; exact K15 _ r3 rfl
          · rw [o1, e1]; exact K15 _ r2 rfl
  · rintro m₁ D1 h tk ⟨e, o, p, es, os, ps, ke, ko, kp, pts, a1, a2, a3, a4, a5, a6, a7, a8, a9, a10, a11, a12, a13, a14⟩ F1 N1
    exact hQ _ ⟨h, tk, m₁, D1, e, o, p, es, os, ps, ke, ko, kp, rs.length, aw, pts, rfl, ⟨F1, N1, a1, a2⟩, a5, a8, a9, a10, a11, a12, a13, hlen, a14⟩
set_option maxHeartbeats 4000000 in
theorem loop2 (B : Below A₀ base outer h₀) (X : (Mine.hd.heap_39 w.params).In h₀) (T : TopF mean mg mb h₀) (hd : dp + 30 < recursionLimit) (hu : un + 100 < cLine)
    {e o p r : Addr} {rs : List Value} {ke ko kp kr : Nat} {aw : Int} {ta : Tok}
    (S : LSt h₀ L s.heap m (some (.ref e)) (some (.ref o)) D) (hr : m (Str.ofString "rows") = some (.ref r)) (hrs : (r, listOf rs.toArray kr) ∈ D) (hlen : rs.length ≤ 6) (hrow : ∀ v ∈ rs, RowAt D v)
    (haw : m (Str.ofString "away") = some (.int aw ta)) (hp : m (Str.ofString "places") = some (.ref p))
    (he : (e, listOf ([] : List Value).toArray ke) ∈ D) (ho : (o, listOf ([] : List Value).toArray ko) ∈ D) (hps : (p, listOf ([] : List Value).toArray kp) ∈ D) :
    wpAny (model prog w) (lawA dp un gd L fa cdv outer) (exec (nth lawBody 6) (lawEnv L fa cdv)) (fun f s' => f = .next ∧ Ends h₀ L s s') (fun _ _ => False) s := by
  obtain ⟨F, N, ce, co⟩ := S
  refine For_invV h₀ (by rfl) (by rfl) ?_
  repeat' ((fail_if_success (with_reducible show wpAny _ _ (pyIter _) _ _ _)); walk1)
  refine loop2_iter B X T hd hu (m := m) (by assumption) ⟨by assumption, by assumption, ce, co⟩ hr hrs hlen hrow haw hp he ho hps ?_
  rintro s' ⟨h', tk', m', D', e, o, p, es, os, ps, ke, ko, kp, n, aw, pts, rfl, z⟩
  exact ⟨rfl, h', tk', m', D', e, o, p, es, os, ps, ke, ko, kp, n, aw, pts, rfl, z⟩
end
end Mine
end TP16
section TP17
open PySem PySem.Calls PySem.W PyProof.Rows PySem.Spec
namespace Mine
theorem fill12 : PySem.Challenge.rw_ja0006_01 = PySem.Challenge.rw_ja0006_01 ∧ Mine.hd.heap_39 = Mine.hd.heap_39 := by k_fill; exact ⟨rfl, rfl⟩
local macro_rules | `(tactic| k_room) => `(tactic| ktr_room)
local macro_rules | `(tactic| k_units) => `(tactic| ktr_units)
local macro_rules | `(tactic| k_mem) => `(tactic| first | with_reducible assumption | (refine mem_of' ?_; with_reducible assumption) | (refine mem_sub (by with_reducible assumption) ?_; k_mem))
noncomputable def keyElt : PySem.Expr := match nth lawBody 7 with
  | .Assign _ (.ListComp elt _ _ _) _ => elt
  | _ => default
noncomputable def keyIter : PySem.Expr := match nth lawBody 7 with
  | .Assign _ (.ListComp _ (g :: _) _ _) _ => g.iter
  | _ => default
noncomputable def keyScope : Scope := match nth lawBody 7 with
  | .Assign _ (.ListComp _ _ sc _) _ => sc
  | _ => default
noncomputable abbrev keyCl (L : Addr) : List (Str × Addr) := [(Str.ofString "opposites", L + 1 + 1), (Str.ofString "ends", L + 1)]
noncomputable abbrev keyEnv (L fa : Addr) (cdv : Value) (C : Addr) : Env := compEnvC keyScope (keyCl L) C (lawEnv L fa cdv)
theorem clos_key (L fa : Addr) (cdv : Value) : closureFor keyScope (lawEnv L fa cdv) = pure (keyCl L) := by with_unfolding_all rfl
section
variable {M : Model} {A : Around} {E : Value → Shared → Prop} {s : Shared} {h₀ : Heap} {L : Addr} {D : Led} {env : Env} {x : Str} {pos : Pos} {v : Value} {Q : Value → Shared → Prop} {c : Addr} {o : Obj}
theorem name_in {mC : Str → Option Value} (hns : s.heap.Ns env.locals mC) (hv : mC x = some v) (h : Q v s) (hk : env.scope.kind = .function) (hx : env.kindOf x = some .local) (hd : (x == ("__debug__" : Str)) = false) :
    wpAny M A (eval (.Name x pos) env) Q E s := wpAny_Name (wpAny_loadName_local hk hx hns hv h) hd
theorem name_cell (N : News h₀ L s.heap D) (hc : env.cells.lookup x = some c) (hm : (c, o) ∈ D) (hd : o.data = .cell (some v)) (h : Q v s) (hk : env.scope.kind = .function) (hx : env.kindOf x = some .cell) (hb : (x == ("__debug__" : Str)) = false) :
    wpAny M A (eval (.Name x pos) env) Q E s := wpAny_Name (wpAny_loadName_cell hk hx hc ⟨o, N.get hm, hd⟩ h) hb
end
local macro_rules | `(tactic| walk_at "eval Name") => `(tactic| (k_here; (with_reducible rename Fr _ _ _ _ => kF); k_dflt (refine' nameG_K kF ?k1 ?k2 ?k3 ?_ ?k4 ?k5 ?k6 ?k7; (case k4 => rfl); (case k5 => rfl); (case k6 => rfl); (case k7 => decide); (case k1 => k_asm); (case k2 => k_asm); (case k3 => k_is); k_whole)))
local macro_rules | `(tactic| walk_at "eval Name") => `(tactic| (k_here; k_dflt (refine' name_in ?n ?v ?_ ?a ?b ?c; (case b => rfl); (case a => rfl); (case c => decide); (case n => assumption); (case v => assumption); k_whole)))
local macro_rules | `(tactic| walk_at "eval Name") => `(tactic| (k_here; k_dflt (refine' name_cell ?N ?l ?m ?d ?_ ?a ?b ?c; (case b => rfl); (case a => rfl); (case c => decide); (case l => exact rfl); (case N => k_asm); (case m => k_mem); (case d => assumption); k_whole)))
local macro_rules | `(tactic| walk_at "call ref") => `(tactic| (k_here; (with_reducible show wpAny _ _ (call (Value.ref 59) _) _ _ _); (try simp only [List.nil_append]); k_dflt (refine' key_new ?k1 ?k2 ?k3 ?k4 ?k5 ?k6 ?k7 ?_; (case k1 => k_asm); (case k2 => k_asm); (case k3 => k_asm); (case k4 => k_asm); (case k5 => k_asm); (case k6 => first | rfl | assumption); (case k7 => ktr_room); k_whole)))
section
variable {prog : Program} {w : World} {mean : ExcName → Option Value} {mg mb : Str → Option Value}
  {dp un : Nat} {gd : Option (List Code)} {fa : Addr} {cdv : Value} {outer : List Env} {A₀ : Around} {base h₀ : Heap} {L : Addr} {m : Str → Option Value} {s : Shared} {E : Value → Shared → Prop} {D : Led}
set_option maxHeartbeats 4000000 in
theorem elt_key {Q : Value → Shared → Prop} (B : Below A₀ base outer h₀) (F : Fr h₀ L s.heap m) (X : (Mine.hd.heap_39 w.params).In h₀) (N : News h₀ L s.heap D) (T : TopF mean mg mb h₀) (hd : dp + 30 < recursionLimit)
    {C e o : Addr} {mC : Str → Option Value} {i : Int} {t : Tok} (hns : s.heap.Ns (keyEnv L fa cdv C).locals mC) (hev : mC (Str.ofString "event") = some (.int i t)) (ce : CellAt D (L + 1) (some (.ref e))) (co : CellAt D (L + 1 + 1) (some (.ref o)))
    (hret : ∀ (q d : Addr) (s1 s2 s3 : Tok) (h' : Heap) (tk' : Nat) (news' : List (Addr × Obj)), Fr h₀ L h' m → News h₀ L h' news' → (∀ q ∈ D, q ∈ news') → (q, instObj 59 d) ∈ news' → (d, keyDict w e o i s1 s2 s3 t) ∈ news' → (∀ r ∈ D, r.1 ≠ d ∧ r.1 ≠ q) → Q (.ref q) { s with heap := h', toks := tk' }) :
    wpAny (model prog w) (lawA dp un gd L fa cdv outer) (eval keyElt (keyEnv L fa cdv C)) Q E s := by
  obtain ⟨oe, he, hde⟩ := ce
  obtain ⟨oo, ho, hdo⟩ := co
  show wpAny _ _ (eval (PySem.Expr.Call _ _ _ _) _) _ _ _
  repeat' walk1
  apply hret <;> assumption
end
end Mine
end TP17
section TP18
open PySem PySem.Calls PySem.W PyProof.Rows PySem.Spec
namespace Mine
theorem assign_comp {prog : Program} {w : World} {A : Around} {E : Value → Shared → Prop} {env : Env} {s : Shared} {elt iter : PySem.Expr} {x y : Str} {px py : Pos} {scope : Scope} {cl : List (Str × Addr)} {pos spos : Pos} {Q : Flow → Shared → Prop}
    (hsw : swapsWith (.ListComp elt [⟨.Name x px, iter, [], 0⟩] scope pos) (some (.Name y py)) spos.line env = pure true)
    (hclos : closureFor scope env = pure cl) (hkind : scope.kind = .function) (hnames : ∀ z ∈ scope.names, z.2 = .local → scope.names.lookup z.1 = some .local)
    (hs : ∀ x, foldedSetIterable iter env x = pure x)
    (h : wpAny (model prog w) A (eval iter env) (fun xv s₁ => wpAny (model prog w) A (pyIter xv) (fun it s₂ => wpAny (model prog w) A (newList []) (fun acc s₃ =>
      wpAny (model prog w) A (newFunctionEnv scope env.globals cl [] env.qual none .none (some env)) (fun cenv s₄ =>
        codeAny (model prog w) A (.compStart (.ListComp elt [⟨.Name x px, iter, [], 0⟩] scope pos) 0 it acc { cenv with scope := relabel scope env }) (compPost (model prog w) A E (some (assign (.Name y py) env)) (fun _ s' => Q .next s') acc cenv.locals) s₄) E s₃) E s₂) E s₁) E s) :
    wpAny (model prog w) A (exec (.Assign [.Name y py] (.ListComp elt [⟨.Name x px, iter, [], 0⟩] scope pos) spos) env) Q E s := by
  rw [exec_Assign_Name_used _ _ _ _ hsw]
  refine wpAny_bind (wpAny_standAt (wpAny_bind ?_))
  show wpAny _ A (do let _ ← comprehension (.ListComp elt [⟨.Name x px, iter, [], 0⟩] scope pos) scope env _ (newList []) false (eval iter env) (some (assign (.Name y py) env))) _ _ s
  exact wpAny_bind (wpAny_mono (wpAny_comprehension_free (use := some (assign (.Name y py) env)) (Q := fun _ s' => Q .next s') rfl hs hclos hkind hnames h) (fun _ s' hq => wpAny_pure (wpAny_pure hq)) fun _ _ e => e)
def KeyAt (w : World) (D : Led) (e o : Addr) (v : Value) (i : Nat) : Prop := ∃ (q d : Addr) (s1 s2 s3 t : Tok), v = .ref q ∧ (q, instObj 59 d) ∈ D ∧ (d, keyDict w e o (i : Int) s1 s2 s3 t) ∈ D
theorem KeyAt.sub {w : World} {D D' : Led} {e o : Addr} {v : Value} {i : Nat} (h : KeyAt w D e o v i) (k : ∀ p ∈ D, p ∈ D') : KeyAt w D' e o v i := by
  obtain ⟨q, d, s1, s2, s3, t, e1, h1, h2⟩ := h
  exact ⟨q, d, s1, s2, s3, t, e1, k _ h1, k _ h2⟩
theorem ref_none {h₀ h : Heap} {L : Addr} {m : Str → Option Value} (F : Fr h₀ L h m) {a : Addr} (ha : h.objs.size ≤ a) : h₀.get? a = none := by
  cases e : h₀.get? a with
  | none => rfl
  | some o =>
    have h1 : a < h.objs.size := Heap.lt_size (F.keep _ _ e)
    exact absurd (Nat.lt_of_lt_of_le h1 ha) (Nat.lt_irrefl _)
section
variable {prog : Program} {w : World} {mean : ExcName → Option Value} {mg mb : Str → Option Value}
  {dp un : Nat} {gd : Option (List Code)} {fa : Addr} {cdv : Value} {outer : List Env} {A₀ : Around} {base h₀ : Heap} {L : Addr} {m : Str → Option Value} {s : Shared} {D : Led}
/-- what stands behind the comprehension -/
def KeysOk (w : World) (h₀ : Heap) (L : Addr) (m : Str → Option Value) (e o : Addr) (D : Led) (n : Nat) (s s' : Shared) : Prop :=
  ∃ (h' : Heap) (tk' : Nat) (D' : Led) (kl : Addr) (ks : List Value) (k : Nat), s' = { s with heap := h', toks := tk' } ∧ Fr h₀ L h' (fun y => if y = Str.ofString "keys" then some (.ref kl) else m y) ∧ News h₀ L h' D' ∧
    (∀ p ∈ D, p ∈ D') ∧ (kl, listOf ks.toArray k) ∈ D' ∧ ks.length = n ∧ ∀ i v, ks[i]? = some v → KeyAt w D' e o v i
theorem comp_core {Q : Flow → Shared → Prop} (B : Below A₀ base outer h₀) (X : (Mine.hd.heap_39 w.params).In h₀) (T : TopF mean mg mb h₀) (hd : dp + 30 < recursionLimit)
    {rg e o : Addr} {n : Nat} {t1 t2 t3 : Tok} {px py pos : Pos} {iter : PySem.Expr} (F : Fr h₀ L s.heap m) (N : News h₀ L s.heap D) (hR : IsRange s.heap rg 0 (n : Int) 1 t1 t2 t3) (hn : n ≤ 100)
    (ce : CellAt D (L + 1) (some (.ref e))) (co : CellAt D (L + 1 + 1) (some (.ref o))) (hQ : ∀ s', KeysOk w h₀ L m e o D n s s' → Q .next s') :
    wpAny (model prog w) (lawA dp un gd L fa cdv outer) (pyIter (.ref rg)) (fun it s₂ => wpAny (model prog w) (lawA dp un gd L fa cdv outer) (newList []) (fun acc s₃ =>
      wpAny (model prog w) (lawA dp un gd L fa cdv outer) (newFunctionEnv keyScope (lawEnv L fa cdv).globals (keyCl L) [] (lawEnv L fa cdv).qual none .none (some (lawEnv L fa cdv))) (fun cenv s₄ =>
        codeAny (model prog w) (lawA dp un gd L fa cdv outer) (.compStart (.ListComp keyElt [⟨.Name (Str.ofString "event") px, iter, [], 0⟩] keyScope pos) 0 it acc { cenv with scope := relabel keyScope (lawEnv L fa cdv) })
          (compPost (model prog w) (lawA dp un gd L fa cdv outer) (fun _ _ => False) (some (assign (.Name (Str.ofString "keys") py) (lawEnv L fa cdv))) (fun _ s' => Q .next s') acc cenv.locals) s₄) (fun _ _ => False) s₃) (fun _ _ => False) s₂) (fun _ _ => False) s := by
  refine wpAny_pyIter_range hR (range_small (by omega)).1 ?_
  rw [(range_small (by omega)).2]
  have W : Walks prog w (lawA dp un gd L fa cdv outer) s.heap.objs.size [s.heap.objs.size] [s.heap.objs.size] n (fun i v => i < n ∧ ∃ t, v = .int (0 + i * 1) t)
      (fun i h => IsRangeIter h s.heap.objs.size (0 + (i : Nat) * 1) ((n : Int) - (i : Nat)) 1) := (Walks.range rfl _ 0 1 n).bound
  generalize hI : s.heap.objs.size = I at W ⊢
  refine wpAny_newObj_type ?_
  dsimp only
  generalize hH1 : s.heap.push { cls := .type "range_iterator", data := .fields #[rawInt 0, rawInt (n : Int), rawInt 1] } = H1
  have s1 : H1.objs.size = I + 1 := by rw [← hH1, Heap.size_push, hI]
  refine wpAny_newFunctionEnv (by decide) (by intro y hy; cases hy) (fun h₁ hns₁ hsb₁ => ?_) rfl
  dsimp only at hns₁ hsb₁ ⊢
  generalize hH2 : H1.push { cls := .type "list", dict := none, data := .seq ([] : List Value).toArray } = H2 at hns₁ hsb₁ ⊢
  have s2 : H2.objs.size = I + 1 + 1 := by rw [← hH2, Heap.size_push, s1]
  rw [s1]
  generalize hC : H2.objs.size = C at hns₁ hsb₁ s2 ⊢
  have hIC : I ≠ C := by rw [s2]; exact Nat.ne_of_lt (Nat.lt_succ_of_lt (Nat.lt_succ_self _))
  have hDC : I + 1 ≠ C := by rw [s2]; exact Nat.ne_of_lt (Nat.lt_succ_self _)
  have hID : I ≠ I + 1 := Nat.ne_of_lt (Nat.lt_succ_self _)
  have hLI : L < I := by rw [← hI]; exact F.ns.lt
  have hLneI : L ≠ I := Nat.ne_of_lt hLI
  have hLneD : L ≠ I + 1 := Nat.ne_of_lt (Nat.lt_succ_of_lt hLI)
  have hLneC : L ≠ C := by rw [s2]; exact Nat.ne_of_lt (Nat.lt_succ_of_lt (Nat.lt_succ_of_lt hLI))
  have nI : h₀.get? I = none := ref_none F (by rw [hI]; exact Nat.le_refl _)
  have nD : h₀.get? (I + 1) = none := ref_none F (by rw [hI]; exact Nat.le_succ _)
  have nC : h₀.get? C = none := ref_none F (by rw [hI, s2]; exact Nat.le_succ_of_le (Nat.le_succ _))
  have up : ∀ b ob, s.heap.get? b = some ob → h₁.get? b = some ob := fun b ob q => by
    have hb : b ≠ C := by
      have := Heap.lt_size q
      rw [hI] at this
      rw [s2]
      exact Nat.ne_of_lt (Nat.lt_succ_of_lt (Nat.lt_succ_of_lt this))
    have h2 : H2.get? b = some ob := by rw [← hH2, ← hH1]; exact Heap.get?_push_of_some _ (Heap.get?_push_of_some _ q)
    exact hsb₁.extBut b ob hb (Heap.get?_push_of_some _ h2)
  have offD : ∀ p ∈ D, p.1 ≠ I ∧ p.1 ≠ I + 1 ∧ p.1 ≠ C := fun p hp => by
    have := Heap.lt_size (N p hp).1
    rw [hI] at this
    exact ⟨Nat.ne_of_lt this, Nat.ne_of_lt (Nat.lt_succ_of_lt this), by rw [s2]; exact Nat.ne_of_lt (Nat.lt_succ_of_lt (Nat.lt_succ_of_lt this))⟩
  have itI : IsRangeIter h₁ I (0 + ((0 : Nat) : Int) * 1) ((n : Int) - ((0 : Nat) : Int)) 1 := by
    have h1 : H1.get? I = some { cls := .type "range_iterator", data := .fields #[rawInt 0, rawInt (n : Int), rawInt 1] } := by rw [← hH1, ← hI]; exact Heap.get?_push_size _ rfl
    have h2 : H2.get? I = some { cls := .type "range_iterator", data := .fields #[rawInt 0, rawInt (n : Int), rawInt 1] } := by rw [← hH2]; exact Heap.get?_push_of_some _ h1
    have h3 := hsb₁.extBut I _ hIC (Heap.get?_push_of_some _ h2)
    show h₁.get? I = _
    rw [h3]
    simp
  have acc₁ : h₁.PlainList (I + 1) #[] := by
    have h2 : H2.get? (I + 1) = some { cls := .type "list", dict := none, data := .seq ([] : List Value).toArray } := by rw [← hH2, ← s1]; exact Heap.get?_push_size _ rfl
    exact ⟨_, hsb₁.extBut (I + 1) _ hDC (Heap.get?_push_of_some _ h2)⟩
  have F₁ : Fr h₀ L h₁ m := ⟨F.ns.keeps up, fun b ob q => up b ob (F.keep b ob q), F.above⟩
  have N₁ : News h₀ L h₁ D := fun p hp => ⟨up _ _ (N p hp).1, (N p hp).2⟩
  have loop : ∀ s₃ : Shared, s₃ = { s with heap := h₁, toks := s.toks + ([] : List (Str × Value)).length } →
      codeAny (model prog w) (lawA dp un gd L fa cdv outer) (.compLoop (.ListComp keyElt [⟨.Name (Str.ofString "event") px, iter, [], 0⟩] keyScope pos) 0 (.ref I) (.ref (I + 1)) (keyEnv L fa cdv C))
        (compPost (model prog w) (lawA dp un gd L fa cdv outer) (fun _ _ => False) (some (assign (.Name (Str.ofString "keys") py) (lawEnv L fa cdv))) (fun _ s' => Q .next s') (.ref (I + 1)) C) s₃ := by
    rintro s₃ rfl
    refine codeAny_compLoop_tests
      (fun k s' => ∃ (h' : Heap) (tk : Nat) (mC : Str → Option Value) (ys : List Value) (Dl : Led), s' = { s with heap := h', toks := tk } ∧ IsRangeIter h' I (0 + (ys.length : Int) * 1) ((n : Int) - (ys.length : Int)) 1 ∧ h'.PlainList (I + 1) ys.toArray ∧ h'.Ns C mC ∧
        Fr h₀ L h' m ∧ News h₀ L h' Dl ∧ (∀ p ∈ D, p ∈ Dl) ∧ (∀ p ∈ Dl, p.1 ≠ I ∧ p.1 ≠ I + 1 ∧ p.1 ≠ C) ∧ (∀ i v, ys[i]? = some v → KeyAt w Dl e o v i) ∧ ys.length ≤ n ∧ k = n + 1 - ys.length) ?_ (n + 1)
      ⟨h₁, _, _, [], D, rfl, itI, acc₁, hns₁, F₁, N₁, fun _ hp => hp, offD, fun i v q => (by cases q), Nat.zero_le _, rfl⟩
    rintro k s' ⟨h', tk, mC, ys, Dl, rfl, hit, hacc, hnC, F', N', hsub, hoff, hkeys, hle, rfl⟩
    by_cases hlt : ys.length < n
    · refine W.item ys.length { s with heap := h', toks := tk } _ _ hlt hit fun v h₂ tk₂ hP hit₂ hk₂ => ?_
      obtain ⟨_, t, rfl⟩ := hP
      have e0 : (0 + (ys.length : Int) * 1) = (ys.length : Int) := by omega
      rw [e0]
      have hk₂' : ∀ b ob, b ≠ I → h'.get? b = some ob → h₂.get? b = some ob := fun b ob hb q => hk₂ b ob (fun hm => hb (List.mem_singleton.mp hm)) q
      refine wpAny_assign_Name (wpAny_storeName_local (m := mC) (by rfl) (hnC.at' fun ob q => hk₂' C ob (Ne.symm hIC) q) (fun h₃ hn₃ hs₃ => ?_) (by rfl))
      have hs₃' : Heap.SameBut C h₂ h₃ := hs₃
      have hn₃' : h₃.Ns C (fun x => if x = Str.ofString "event" then some (Value.int (ys.length : Int) t) else mC x) := hn₃
      have up₃ : ∀ b ob, b ≠ I → b ≠ C → h'.get? b = some ob → h₃.get? b = some ob := fun b ob b1 b2 q => hs₃'.extBut b ob b2 (hk₂' b ob b1 q)
      refine wpAny_tests_nil ?_
      rw [if_pos rfl]
      obtain ⟨oC, esC, epC, hoC, hoC'⟩ := id hn₃'
      obtain ⟨nl, hacc'⟩ := hacc
      obtain ⟨oI, hoI, eI⟩ : ∃ oI : Obj, h₃.get? I = some oI ∧ oI = { cls := .type "range_iterator", dict := none, data := .fields #[rawInt (0 + ((ys.length + 1 : Nat) : Int) * 1), rawInt ((n : Int) - ((ys.length + 1 : Nat) : Int)), rawInt 1], slots := #[] } := ⟨_, hs₃'.extBut I _ hIC hit₂, rfl⟩
      obtain ⟨oD, hoD, eD⟩ : ∃ oD : Obj, h₃.get? (I + 1) = some oD ∧ oD = { cls := .type "list", data := .seq ys.toArray nl } := ⟨_, up₃ (I + 1) _ (Ne.symm hID) hDC hacc', rfl⟩
      have F₃ : Fr h₀ L h₃ m := ⟨F'.ns.at' fun ob q => up₃ L ob hLneI hLneC q, fun b ob q => up₃ b ob (fun z => by rw [z, nI] at q; cases q) (fun z => by rw [z, nC] at q; cases q) (F'.keep b ob q), F'.above⟩
      have N₃ : News h₀ L h₃ ((I, oI) :: (I + 1, oD) :: (C, oC) :: Dl) := by
        intro p hp
        rcases List.mem_cons.mp hp with rfl | hp
        · exact ⟨hoI, Ne.symm hLneI, nI⟩
        · rcases List.mem_cons.mp hp with rfl | hp
          · exact ⟨hoD, Ne.symm hLneD, nD⟩
          · rcases List.mem_cons.mp hp with rfl | hp
            · exact ⟨hoC, Ne.symm hLneC, nC⟩
            · exact ⟨up₃ p.1 p.2 (hoff p hp).1 (hoff p hp).2.2 (N' p hp).1, (N' p hp).2⟩
      have inD : ∀ p ∈ D, p ∈ ((I, oI) :: (I + 1, oD) :: (C, oC) :: Dl : Led) := fun p hp => List.mem_cons_of_mem _ (List.mem_cons_of_mem _ (List.mem_cons_of_mem _ (hsub p hp)))
      refine elt_key (s := { s with heap := h₃, toks := tk₂ + 1 }) B F₃ X N₃ T hd hn₃' (by rfl) (cell_more ce inD) (cell_more co inD) ?_
      intro q d w1 w2 w3 h₄ tk₄ D₄ F₄ N₄ sub₄ hq hd' hfr
      have g : ∀ p ∈ ((I, oI) :: (I + 1, oD) :: (C, oC) :: Dl : Led), h₄.get? p.1 = some p.2 := fun p hp => (N₄ p (sub₄ p hp)).1
      have gI := g _ (.head _)
      have gD := g _ (.tail _ (.head _))
      have gC := g _ (.tail _ (.tail _ (.head _)))
      have f1 := hfr _ (.head _)
      have f2 := hfr _ (.tail _ (.head _))
      have f3 := hfr _ (.tail _ (.tail _ (.head _)))
      dsimp only at gI gD gC f1 f2 f3
      refine wpAny_list_append_plain (hsz := by rw [sizeLine_eq]; simp; omega) ⟨nl, eD ▸ gD⟩ fun h₅ hl₅ hs₅ => ?_
      refine ⟨n + 1 - (ys.length + 1), by omega, h₅, tk₄, _, ys ++ [.ref q], (q, instObj 59 d) :: (d, keyDict w e o (ys.length : Int) w1 w2 w3 t) :: Dl, rfl, ?_, ?_, ⟨oC, esC, epC, (hs₅.2 C (Ne.symm hDC)).trans gC, hoC'⟩, ?_, ?_, ?_, ?_, ?_, ?_, ?_⟩
      · show h₅.get? I = _
        rw [hs₅.2 I hID, gI, eI]
        simp
      · simpa using hl₅
      · exact ⟨F₄.ns.sameBut hs₅ hLneD, fun b ob z => (hs₅.2 b (fun y => by rw [y, nD] at z; cases z)).trans (F₄.keep b ob z), F₄.above⟩
      · intro p hp
        rcases List.mem_cons.mp hp with rfl | hp
        · exact ⟨(hs₅.2 q (Ne.symm f2.2)).trans (N₄ _ hq).1, (N₄ _ hq).2⟩
        · rcases List.mem_cons.mp hp with rfl | hp
          · exact ⟨(hs₅.2 d (Ne.symm f2.1)).trans (N₄ _ hd').1, (N₄ _ hd').2⟩
          · have := N₄ p (sub₄ p (.tail _ (.tail _ (.tail _ hp))))
            exact ⟨(hs₅.2 p.1 (hoff p hp).2.1).trans this.1, this.2⟩
      · exact fun p hp => List.mem_cons_of_mem _ (List.mem_cons_of_mem _ (hsub p hp))
      · intro p hp
        rcases List.mem_cons.mp hp with rfl | hp
        · exact ⟨Ne.symm f1.2, Ne.symm f2.2, Ne.symm f3.2⟩
        · rcases List.mem_cons.mp hp with rfl | hp
          · exact ⟨Ne.symm f1.1, Ne.symm f2.1, Ne.symm f3.1⟩
          · exact hoff p hp
      · intro i v hv
        by_cases hi : i < ys.length
        · rw [List.getElem?_append_left hi] at hv
          exact (hkeys i v hv).sub fun p hp => List.mem_cons_of_mem _ (List.mem_cons_of_mem _ hp)
        · by_cases hi2 : i = ys.length
          · subst hi2
            rw [List.getElem?_append_right (Nat.le_refl _), Nat.sub_self] at hv
            cases hv
            exact ⟨q, d, w1, w2, w3, t, rfl, .head _, .tail _ (.head _)⟩
          · rw [List.getElem?_eq_none (by simp; omega)] at hv
            cases hv
      · simp; omega
      · simp
    · have hin : ys.length = n := by omega
      refine W.done { s with heap := h', toks := tk } _ _ (by rw [hin] at hit; exact hit) fun h₂ tk₂ hk₂ => ?_
      have hk₂' : ∀ b ob, b ≠ I → h'.get? b = some ob → h₂.get? b = some ob := fun b ob hb q => hk₂ b ob (fun hm => hb (List.mem_singleton.mp hm)) q
      show wpAny _ _ (assign (.Name (Str.ofString "keys") py) (lawEnv L fa cdv) (.ref (I + 1))) _ _ _
      obtain ⟨nl, hacc'⟩ := hacc
      refine wpAny_assign_Name (wpAny_storeName_local (m := m) (by rfl) (F'.ns.at' fun ob q => hk₂' L ob hLneI q) (fun h₃ hn₃ hs₃ => ?_) (by rfl))
      have hs₃' : Heap.SameBut L h₂ h₃ := hs₃
      refine ⟨mC, (hnC.at' fun ob q => hk₂' C ob (Ne.symm hIC) q).sameBut hs₃' (Ne.symm hLneC), fun h₄ hs₄ => ?_⟩
      have up₄ : ∀ b ob, b ≠ I → b ≠ L → b ≠ C → h'.get? b = some ob → h₄.get? b = some ob := fun b ob b1 b2 b3 q => hs₄.extBut b ob b3 (hs₃'.extBut b ob b2 (hk₂' b ob b1 q))
      refine hQ _ ⟨h₄, _, (I + 1, listOf ys.toArray nl) :: Dl, I + 1, ys, nl, rfl, ⟨hn₃.sameBut hs₄ hLneC, fun b ob z => ?_, F'.above⟩, ?_, fun p hp => List.mem_cons_of_mem _ (hsub p hp), .head _, hin, fun i v hv => (hkeys i v hv).sub fun p hp => List.mem_cons_of_mem _ hp⟩
      · refine up₄ b ob (fun y => by rw [y, nI] at z; cases z) (fun y => ?_) (fun y => by rw [y, nC] at z; cases z) (F'.keep b ob z)
        have := Heap.lt_size z
        rw [y] at this
        exact Nat.lt_irrefl _ (Nat.lt_of_lt_of_le this F'.above)
      · intro p hp
        rcases List.mem_cons.mp hp with rfl | hp
        · exact ⟨up₄ _ _ (Ne.symm hID) (Ne.symm hLneD) hDC hacc', Ne.symm hLneD, nD⟩
        · exact ⟨up₄ p.1 p.2 (hoff p hp).1 (N' p hp).2.1 (hoff p hp).2.2 (N' p hp).1, (N' p hp).2⟩
  exact codeAny_compStart_list (loop _ rfl) (W.self 0 _ _ _ itI (loop _ rfl))
end
end Mine
end TP18
section TP19
open PySem PySem.Calls PySem.W PyProof.Rows PySem.Spec
namespace Mine
theorem fill13 : PySem.Challenge.rw_ja0006_01 = PySem.Challenge.rw_ja0006_01 ∧ Mine.hd.heap_39 = Mine.hd.heap_39 := by k_fill; exact ⟨rfl, rfl⟩
local macro_rules | `(tactic| k_room) => `(tactic| ktr_room)
local macro_rules | `(tactic| k_units) => `(tactic| ktr_units)
local macro_rules | `(tactic| k_mem) => `(tactic| first | with_reducible assumption | (refine mem_of' ?_; with_reducible assumption) | (refine mem_sub (by with_reducible assumption) ?_; k_mem))
local macro_rules | `(tactic| walk_at "binaryOp Add") => `(tactic| (k_here; (with_reducible show wpAny _ _ (binaryOp _ (Value.ref _) (Value.ref _)) _ _ _); k_dflt (refine' add_N ?k1 ?k2 ?k3 ?k4 ?k5 ?_; (case k1 => k_asm); (case k2 => k_asm); (case k3 => k_mem); (case k4 => k_mem); (case k5 => (rw [sizeLine_eq]; simp only [List.length_cons, List.length_nil]; omega)); k_whole); intro r' h' F' N'))
local macro_rules | `(tactic| walk_at "eval Name") => `(tactic| (k_here; k_dflt (refine' nameX_L ?F ?v ?_ ?a ?b ?c; (case a => rfl); (case b => rfl); (case c => decide); (case F => k_asm); (case v => assumption); k_whole)))
local macro_rules | `(tactic| walk_at "eval Name") => `(tactic| (k_here; k_dflt (refine' nameX_C ?N ?l ?m ?d ?_ ?a ?b ?c; (case a => rfl); (case b => rfl); (case c => decide); (case l => exact rfl); (case N => k_asm); (case m => k_mem); (case d => assumption); k_whole)))
local macro_rules | `(tactic| walk_at "call ref") => `(tactic| (k_here; (with_reducible show wpAny _ _ (call (Value.ref 174) _) _ _ _); k_dflt (refine' point_new ?k1 ?k2 ?k3 ?k4 ?k5 ?k6 ?k7 ?_; (case k1 => k_asm); (case k2 => k_asm); (case k3 => k_asm); (case k4 => k_asm); (case k5 => k_asm); (case k6 => first | rfl | assumption); (case k7 => ktr_room); k_whole); intro d' q' h' tk' news' F' N' hs' hq' hd'; (try k_fold)))
local macro_rules | `(tactic| walk_at "call builtin:len") => `(tactic| (k_here; (with_reducible show wpAny _ _ (call (Value.builtin "len") [Value.ref _]) _ _ _); k_dflt (refine' len_N ?k1 ?k2 ?k3 ?_; (case k1 => k_asm); (case k2 => k_mem); (case k3 => omega); k_whole); intro t' tk'))
section
variable {prog : Program} {w : World} {mean : ExcName → Option Value} {mg mb : Str → Option Value}
  {dp un : Nat} {gd : Option (List Code)} {fa : Addr} {cdv : Value} {outer : List Env} {A₀ : Around} {base h₀ : Heap} {L : Addr} {m : Str → Option Value} {s : Shared} {D : Led}
set_option maxHeartbeats 4000000 in
theorem key_iter (B : Below A₀ base outer h₀) (X : (Mine.hd.heap_39 w.params).In h₀) (T : TopF mean mg mb h₀) (hd : dp + 30 < recursionLimit) (hu : un + 100 < cLine)
    {e : Addr} {vo : Option Value} {es : List Value} {ke : Nat} (S : LSt h₀ L s.heap m (some (.ref e)) vo D) (he : (e, listOf es.toArray ke) ∈ D) (hlen : es.length ≤ 100) :
    wpAny (model prog w) (lawA dp un gd L fa cdv outer) (eval keyIter (lawEnv L fa cdv)) (fun xv s₁ => ∃ (rg : Addr) (h' : Heap) (tk' : Nat) (t1 t2 t3 : Tok), xv = .ref rg ∧ s₁ = { s with heap := h', toks := tk' } ∧ Fr h₀ L h' m ∧ News h₀ L h' D ∧ IsRange h' rg 0 (es.length : Int) 1 t1 t2 t3) (fun _ _ => False) s := by
  obtain ⟨F, N, ⟨oe, hoe, hde⟩, _⟩ := S
  show wpAny _ _ (eval (PySem.Expr.Call _ _ _ _) _) _ _ _
  iterate 13 walk1
  exact ⟨_, _, _, _, _, _, rfl, rfl, by assumption, by assumption, by assumption⟩
theorem st_keys (B : Below A₀ base outer h₀) (X : (Mine.hd.heap_39 w.params).In h₀) (T : TopF mean mg mb h₀) (hd : dp + 30 < recursionLimit) (hu : un + 100 < cLine)
    {e o : Addr} {es : List Value} {ke : Nat} (S : LSt h₀ L s.heap m (some (.ref e)) (some (.ref o)) D) (he : (e, listOf es.toArray ke) ∈ D) (hlen : es.length ≤ 100) :
    wpAny (model prog w) (lawA dp un gd L fa cdv outer) (exec (nth lawBody 7) (lawEnv L fa cdv)) (fun f s' => f = .next ∧ KeysOk w h₀ L m e o D es.length s s') (fun _ _ => False) s := by
  refine assign_comp (cl := keyCl L) (by with_unfolding_all rfl) (clos_key L fa cdv) (by with_unfolding_all rfl) (by decide) (by intro _; with_unfolding_all rfl) (wpAny_mono (key_iter B X T hd hu S he hlen) (fun xv s₁ hx => ?_) fun _ _ e => e)
  obtain ⟨rg, h', tk', t1, t2, t3, rfl, rfl, F', N', hR⟩ := hx
  refine comp_core (s := { s with heap := h', toks := tk' }) (m := m) (D := D) (Q := fun f s' => f = Flow.next ∧ KeysOk w h₀ L m e o D es.length s s') B X T hd F' N' hR hlen S.e S.o ?_
  rintro s' ⟨h', tk', D', kl, ks, k, rfl, z⟩
  exact ⟨rfl, h', tk', D', kl, ks, k, rfl, z⟩
end
end Mine
end TP19
section TP20
open PySem PySem.Calls PySem.W PyProof.Rows PySem.Spec
namespace Mine
theorem fill14 : PySem.Challenge.rw_ja0006_01 = PySem.Challenge.rw_ja0006_01 ∧ Mine.hd.heap_39 = Mine.hd.heap_39 := by k_fill; exact ⟨rfl, rfl⟩
local macro_rules | `(tactic| k_room) => `(tactic| ktr_room)
local macro_rules | `(tactic| k_units) => `(tactic| ktr_units)
local macro_rules | `(tactic| k_mem) => `(tactic| first | with_reducible assumption | (refine mem_of' ?_; with_reducible assumption) | (refine mem_sub (by with_reducible assumption) ?_; k_mem))
local macro_rules | `(tactic| walk_at "binaryOp Add") => `(tactic| (k_here; (with_reducible show wpAny _ _ (binaryOp _ (Value.ref _) (Value.ref _)) _ _ _); k_dflt (refine' add_N ?k1 ?k2 ?k3 ?k4 ?k5 ?_; (case k1 => k_asm); (case k2 => k_asm); (case k3 => k_mem); (case k4 => k_mem); (case k5 => (rw [sizeLine_eq]; simp only [List.length_cons, List.length_nil]; omega)); k_whole); intro r' h' F' N'))
local macro_rules | `(tactic| walk_at "eval Name") => `(tactic| (k_here; k_dflt (refine' nameX_L ?F ?v ?_ ?a ?b ?c; (case a => rfl); (case b => rfl); (case c => decide); (case F => k_asm); (case v => assumption); k_whole)))
local macro_rules | `(tactic| walk_at "eval Name") => `(tactic| (k_here; k_dflt (refine' nameX_C ?N ?l ?m ?d ?_ ?a ?b ?c; (case a => rfl); (case b => rfl); (case c => decide); (case l => exact rfl); (case N => k_asm); (case m => k_mem); (case d => assumption); k_whole)))
local macro_rules | `(tactic| walk_at "call ref") => `(tactic| (k_here; (with_reducible show wpAny _ _ (call (Value.ref 174) _) _ _ _); k_dflt (refine' point_new ?k1 ?k2 ?k3 ?k4 ?k5 ?k6 ?k7 ?_; (case k1 => k_asm); (case k2 => k_asm); (case k3 => k_asm); (case k4 => k_asm); (case k5 => k_asm); (case k6 => first | rfl | assumption); (case k7 => ktr_room); k_whole); intro d' q' h' tk' news' F' N' hs' hq' hd'; (try k_fold)))
local macro_rules | `(tactic| walk_at "call builtin:len") => `(tactic| (k_here; (with_reducible show wpAny _ _ (call (Value.builtin "len") [Value.ref _]) _ _ _); k_dflt (refine' len_N ?k1 ?k2 ?k3 ?_; (case k1 => k_asm); (case k2 => k_mem); (case k3 => omega); k_whole); intro t' tk'))
/-- all that the last loops read -/
def Ready (w : World) (D : Led) (m : Str → Option Value) (n : Nat) : Prop :=
  ∃ (e o p kl : Addr) (es os ps ks : List Value) (ke ko kp kk : Nat) (aw : Int) (pts : Nat → Int × Int), m (Str.ofString "keys") = some (.ref kl) ∧ m (Str.ofString "places") = some (.ref p) ∧
    (kl, listOf ks.toArray kk) ∈ D ∧ (e, listOf es.toArray ke) ∈ D ∧ (o, listOf os.toArray ko) ∈ D ∧ (p, listOf ps.toArray kp) ∈ D ∧ ks.length = 2 * n ∧ n ≤ 6 ∧ (∀ i v, ks[i]? = some v → KeyAt w D e o v i) ∧ ∀ i, i < 2 * n → EvAt D aw pts es os ps i
theorem KeyAt.mono {w : World} {D D' : Led} {e o : Addr} {v : Value} {i : Nat} (h : KeyAt w D e o v i) (k : ∀ p ∈ D, isIter p.2 = false → p ∈ D') : KeyAt w D' e o v i := by
  obtain ⟨q, d, s1, s2, s3, t, e1, h1, h2⟩ := h
  exact ⟨q, d, s1, s2, s3, t, e1, k _ h1 rfl, k _ h2 rfl⟩
theorem Ready.mono {w : World} {D D' : Led} {m : Str → Option Value} {n : Nat} (h : Ready w D m n) (k : ∀ p ∈ D, isIter p.2 = false → p ∈ D') : Ready w D' m n := by
  obtain ⟨e, o, p, kl, es, os, ps, ks, ke, ko, kp, kk, aw, pts, a1, a2, a3, a4, a5, a6, a7, a8, a9, a10⟩ := h
  exact ⟨e, o, p, kl, es, os, ps, ks, ke, ko, kp, kk, aw, pts, a1, a2, k _ a3 rfl, k _ a4 rfl, k _ a5 rfl, k _ a6 rfl, a7, a8, fun i v hv => (a9 i v hv).mono k, fun i hi => (a10 i hi).mono k⟩
theorem Ready.names {w : World} {D : Led} {m m' : Str → Option Value} {n : Nat} (h : Ready w D m n) (h1 : m' (Str.ofString "keys") = m (Str.ofString "keys")) (h2 : m' (Str.ofString "places") = m (Str.ofString "places")) : Ready w D m' n := by
  obtain ⟨e, o, p, kl, es, os, ps, ks, ke, ko, kp, kk, aw, pts, a1, a2, r⟩ := h
  exact ⟨e, o, p, kl, es, os, ps, ks, ke, ko, kp, kk, aw, pts, h1.trans a1, h2.trans a2, r⟩
theorem opp_lt {i n : Nat} (h : i < 2 * n) : opp i < 2 * n := by unfold opp; split <;> omega
section
variable {prog : Program} {w : World} {mean : ExcName → Option Value} {mg mb : Str → Option Value}
  {dp un : Nat} {gd : Option (List Code)} {fa : Addr} {cdv : Value} {outer : List Env} {A₀ : Around} {base h₀ : Heap} {L : Addr} {m : Str → Option Value} {s : Shared} {D : Led}
theorem cmp_turn {Q : Flow → Shared → Prop} {ve vo : Option Value} {n i j : Nat} {ti tj : Tok} (B : Below A₀ base outer h₀) (X : (Mine.hd.heap_39 w.params).In h₀) (T : TopF mean mg mb h₀) (hd : dp + 30 < recursionLimit) (hu : un + 100 < cLine)
    (S : LSt h₀ L s.heap m ve vo D) (R : Ready w D m n) (hi : i < 2 * n) (hj : j < 2 * n) (mi : m (Str.ofString "i") = some (.int (i : Int) ti)) (mj : m (Str.ofString "j") = some (.int (j : Int) tj))
    (hret : ∀ h' tk', LSt h₀ L h' m ve vo D → Q .next { s with heap := h', toks := tk' }) :
    wpAny (model prog w) (lawA dp un gd L fa cdv outer) (exec (nth (inFor (nth (inFor (nth lawBody 8)) 0)) 0) (lawEnv L fa cdv)) Q (fun _ _ => False) s := by
  obtain ⟨e, o, p, kl, es, os, ps, ks, ke, ko, kp, kk, aw, pts, a1, a2, a3, a4, a5, a6, a7, a8, a9, a10⟩ := R
  have hki : i < ks.length := by omega
  have hkj : j < ks.length := by omega
  obtain ⟨ka, da, s1, s2, s3, t1, k1, k2, k3⟩ := a9 i _ (List.getElem?_eq_getElem hki)
  obtain ⟨kb, db, s4, s5, s6, t2, l1, l2, l3⟩ := a9 j _ (List.getElem?_eq_getElem hkj)
  obtain ⟨pi, di, pli, lai, hai, u0, u1, u2, u3, u4, u5, u6, u7, b1, b2, b3, b4, b5, b6, b7, b8⟩ := a10 i hi
  obtain ⟨pj, dj, plj, laj, haj, v0, v1, v2, v3, v4, v5, v6, v7, c1, c2, c3, c4, c5, c6, c7, c8⟩ := a10 j hj
  obtain ⟨qi, ei, _, _, _, _, x1, x2, _, _, _, _, _, d1, d2, d3, _⟩ := a10 (opp i) (opp_lt hi)
  obtain ⟨qj, ej, _, _, _, _, y1, y2, _, _, _, _, _, e1, e2, e3, _⟩ := a10 (opp j) (opp_lt hj)
  have z1 : (i : Int).toNat = i := Int.toNat_natCast i
  have z2 : (j : Int).toNat = j := Int.toNat_natCast j
  have z3 : ((opp i : Nat) : Int).toNat = opp i := Int.toNat_natCast _
  have z4 : ((opp j : Nat) : Int).toNat = opp j := Int.toNat_natCast _
  have w1 := opp_lt hi
  have w2 := opp_lt hj
  exact st_cmp (i := (i : Int)) (j := (j : Int)) (oi := (opp i : Nat)) (oj := (opp j : Nat)) (ki := if (i : Int) % 2 = 0 then 1 else 0) (kj := if (j : Int) % 2 = 0 then 1 else 0) B X T hd hu S a1 a3 a2 a6 mi mj
    (by rw [z1, List.getElem?_eq_getElem hki, k1]) (by rw [z2, List.getElem?_eq_getElem hkj, l1]) k2 k3 l2 l3 a4 a5 (by omega) (by omega) (by omega) (by omega) (by omega) (by omega) (by omega) (by omega)
    (by rw [z1]; exact b4) (by rw [z2]; exact c4) (by rw [z1]; exact b1) (by rw [z2]; exact c1) (by rw [z3]; exact d1) (by rw [z4]; exact e1) b2 b3 c2 c3 d2 d3 e2 e3
    (by rw [z1]; exact b5) (by rw [z2]; exact c5) b6 c6 b7 c7 b8 c8 rfl rfl hret
end
end Mine
end TP20
section TP21
open PySem PySem.Calls PySem.W PyProof.Rows PySem.Spec
namespace Mine
theorem fill15 : PySem.Challenge.rw_ja0006_01 = PySem.Challenge.rw_ja0006_01 ∧ Mine.hd.heap_39 = Mine.hd.heap_39 := by k_fill; exact ⟨rfl, rfl⟩
local macro_rules | `(tactic| k_room) => `(tactic| ktr_room)
local macro_rules | `(tactic| k_units) => `(tactic| ktr_units)
local macro_rules | `(tactic| k_mem) => `(tactic| first | with_reducible assumption | (refine mem_of' ?_; with_reducible assumption) | (refine mem_sub (by with_reducible assumption) ?_; k_mem))
local macro_rules | `(tactic| walk_at "binaryOp Add") => `(tactic| (k_here; (with_reducible show wpAny _ _ (binaryOp _ (Value.ref _) (Value.ref _)) _ _ _); k_dflt (refine' add_N ?k1 ?k2 ?k3 ?k4 ?k5 ?_; (case k1 => k_asm); (case k2 => k_asm); (case k3 => k_mem); (case k4 => k_mem); (case k5 => (rw [sizeLine_eq]; simp only [List.length_cons, List.length_nil]; omega)); k_whole); intro r' h' F' N'))
local macro_rules | `(tactic| walk_at "eval Name") => `(tactic| (k_here; k_dflt (refine' nameX_L ?F ?v ?_ ?a ?b ?c; (case a => rfl); (case b => rfl); (case c => decide); (case F => k_asm); (case v => assumption); k_whole)))
local macro_rules | `(tactic| walk_at "eval Name") => `(tactic| (k_here; k_dflt (refine' nameX_C ?N ?l ?m ?d ?_ ?a ?b ?c; (case a => rfl); (case b => rfl); (case c => decide); (case l => exact rfl); (case N => k_asm); (case m => k_mem); (case d => assumption); k_whole)))
local macro_rules | `(tactic| walk_at "call ref") => `(tactic| (k_here; (with_reducible show wpAny _ _ (call (Value.ref 174) _) _ _ _); k_dflt (refine' point_new ?k1 ?k2 ?k3 ?k4 ?k5 ?k6 ?k7 ?_; (case k1 => k_asm); (case k2 => k_asm); (case k3 => k_asm); (case k4 => k_asm); (case k5 => k_asm); (case k6 => first | rfl | assumption); (case k7 => ktr_room); k_whole); intro d' q' h' tk' news' F' N' hs' hq' hd'; (try k_fold)))
local macro_rules | `(tactic| walk_at "call builtin:len") => `(tactic| (k_here; (with_reducible show wpAny _ _ (call (Value.builtin "len") [Value.ref _]) _ _ _); k_dflt (refine' len_N ?k1 ?k2 ?k3 ?_; (case k1 => k_asm); (case k2 => k_mem); (case k3 => omega); k_whole); intro t' tk'))
section
variable {prog : Program} {w : World} {A : Around} {s : Shared} {env : Env} {h₀ : Heap} {x : Str} {body : List Stmt} {Q : Flow → Shared → Prop} {m₀ : Str → Option Value} {D₀ : Led}
theorem loop_grow2 {I : Addr} {fp wr : List Addr} {n : Nat} {P : Nat → Value → Prop} {St : Nat → Heap → Prop} (J : Nat → (Str → Option Value) → Led → Prop)
    (W : Walks prog w A I fp wr n P St) (hLf : env.locals ∉ fp) (hwr : ∀ b ∈ wr, h₀.get? b = none) (hnw : ∀ p ∈ D₀, p.1 ∉ wr)
    (hit : ∀ i h, St i h → ∀ b ∈ wr, ∃ o, h.get? b = some o ∧ isIter o = true) (hnc : ∀ i h, St i h → ∀ b ∈ fp, ∀ o, h.get? b = some o → notCell o = true)
    (hst : St 0 s.heap) (F : Fr h₀ env.locals s.heap m₀) (N : News h₀ env.locals s.heap D₀) (hj : J 0 m₀ D₀)
    (mono : ∀ i m D D', J i m D → (∀ p ∈ D, isIter p.2 = false ∨ p.1 ∉ wr → p ∈ D') → J i m D')
    (turn : ∀ i v m₁ D h tk, i < n → P i v → J i m₁ D → Fr h₀ env.locals h (fun y => if y = x then some v else m₁ y) → News h₀ env.locals h D →
      wpAny (model prog w) A (execs body env) (TurnEnd h₀ env.locals { s with heap := h, toks := tk } D (J (i + 1))) (fun _ _ => False) { s with heap := h, toks := tk })
    (done : ∀ m₁ D h tk, J n m₁ D → Fr h₀ env.locals h m₁ → News h₀ env.locals h D → Q .next { s with heap := h, toks := tk }) :
    LoopAtV prog w A h₀ env x body Q (fun _ _ => False) (.ref I) s := by
  refine ⟨I, fp, wr, n, P, St, m₀, D₀, J, rfl, W, hLf, hwr, hnw, hst, F, N, hj, ?_, ?_⟩
  · rintro i v m₁ news₁ s₁ own ⟨hh, tk, rfl⟩ hi hP hJ hoff hown hownat hall hst' F₁ N₁
    have hJ' : J i m₁ (own ++ news₁) := mono i m₁ _ _ hJ fun p hp _ => List.mem_append_right _ hp
    refine wpAny_mono (turn i v m₁ (own ++ news₁) hh tk hi hP hJ' F₁ N₁) (fun f s₂ z => ?_) fun _ _ z => z
    obtain ⟨rfl, h', tk', m', D', rfl, F', N', hK, hJ2⟩ := z
    refine LoopStepV.next ⟨rfl, h', tk', m', D'.filter fun p => decide (p.1 ∉ wr), rfl, F', ?_, ?_, ?_⟩
    · intro p hp
      rcases List.mem_append.mp hp with hp | hp
      · exact N' p (hK p (List.mem_append_left _ hp) (hnc _ _ hst' p.1 (hown p hp) p.2 (hownat p hp)))
      · exact N' p (List.mem_filter.mp hp).1
    · intro p hp
      exact of_decide_eq_true (List.mem_filter.mp hp).2
    · refine mono _ _ D' _ hJ2 fun p hp hni => hni.elim (fun hni => List.mem_filter.mpr ⟨hp, decide_eq_true fun hb => ?_⟩) fun hni => List.mem_filter.mpr ⟨hp, decide_eq_true hni⟩
      obtain ⟨o, ho, hio⟩ := hit _ _ hst' p.1 hb
      have hmem := hall p.1 (W.sub _ hb) (hwr _ hb) o ho
      have h1 := (N' _ (hK _ (List.mem_append_left _ hmem) (hnc _ _ hst' p.1 (W.sub _ hb) o ho))).1
      have h2 := (N' _ hp).1
      dsimp only at h1
      rw [h1] at h2
      cases h2
      rw [hio] at hni
      cases hni
  · intro h' tk m' news' F' N' _ hJ
    exact done m' news' h' tk hJ F' N'


theorem iter_range2 {r : Addr} {n : Nat} {b : Int} {t₀ u₀ v₀ : Tok} (J : Nat → (Str → Option Value) → Led → Prop)
    (hh : A.handled = none) (hr : IsRange s.heap r 0 b 1 t₀ u₀ v₀) (hsmall : Builtin.Range.small 0 b 1 = true) (hn : Builtin.Range.rangeSize 0 b 1 = (n : Int))
    (F : Fr h₀ env.locals s.heap m₀) (N : News h₀ env.locals s.heap D₀) (hj : J 0 m₀ D₀)
    (mono : ∀ i m D D', J i m D → (∀ p ∈ D, isIter p.2 = false ∨ p.1 ∉ [s.heap.objs.size] → p ∈ D') → J i m D')
    (turn : ∀ i t m₁ D h tk, i < n → J i m₁ D → Fr h₀ env.locals h (fun y => if y = x then some (.int (i : Int) t) else m₁ y) → News h₀ env.locals h D →
      wpAny (model prog w) A (execs body env) (TurnEnd h₀ env.locals { s with heap := h, toks := tk } D (J (i + 1))) (fun _ _ => False) { s with heap := h, toks := tk })
    (done : ∀ m₁ D h tk, J n m₁ D → Fr h₀ env.locals h m₁ → News h₀ env.locals h D → Q .next { s with heap := h, toks := tk }) :
    wpAny (model prog w) A (pyIter (.ref r)) (fun it s₂ => LoopAtV prog w A h₀ env x body Q (fun _ _ => False) it s₂) (fun _ _ => False) s := by
  refine wpAny_pyIter_range hr hsmall ?_
  have W : Walks prog w A s.heap.objs.size [s.heap.objs.size] [s.heap.objs.size] n (fun i v => i < n ∧ ∃ t, v = .int (0 + i * 1) t)
      (fun i h => IsRangeIter h s.heap.objs.size (0 + (i : Nat) * 1) ((n : Int) - (i : Nat)) 1) := (Walks.range hh _ 0 1 n).bound
  refine loop_grow2 (D₀ := D₀) J W ?_ ?_ ?_ ?_ ?_ (by show IsRangeIter _ _ _ _ _; rw [hn]; simpa using Heap.get?_push_size _ rfl) (F.push _) (fun p hp => ⟨Heap.get?_push_of_some _ (N p hp).1, (N p hp).2⟩) hj mono ?_ ?_
  · intro hm
    exact absurd F.ns.lt ((List.mem_singleton.mp hm) ▸ Nat.lt_irrefl _)
  · intro b hb
    rw [List.mem_singleton.mp hb]
    exact next_is_new F
  · intro p hp hI
    exact absurd (Heap.lt_size (N p hp).1) ((List.mem_singleton.mp hI) ▸ Nat.lt_irrefl _)
  · intro i h hs b hb
    rw [List.mem_singleton.mp hb]
    exact ⟨_, hs, by rfl⟩
  · intro i h hs b hb o ho
    rw [List.mem_singleton.mp hb] at ho
    have hs' : h.get? _ = some _ := hs
    rw [hs'] at ho
    cases ho
    rfl
  · rintro i v m₁ D h tk hi ⟨_, t, rfl⟩ hJ F' N'
    have e : (0 + (i : Int) * 1) = (i : Int) := by omega
    rw [e] at F'
    exact turn i t m₁ D h tk hi hJ F' N'
  · exact done

end
theorem KeyAt.keep {w : World} {D D' : Led} {e o : Addr} {v : Value} {i : Nat} (h : KeyAt w D e o v i) (k : Keep D D') : KeyAt w D' e o v i := by
  obtain ⟨q, d, s1, s2, s3, t, e1, h1, h2⟩ := h
  exact ⟨q, d, s1, s2, s3, t, e1, k _ h1 rfl, k _ h2 rfl⟩
theorem Ready.keep {w : World} {D D' : Led} {m : Str → Option Value} {n : Nat} (h : Ready w D m n) (k : Keep D D') : Ready w D' m n := by
  obtain ⟨e, o, p, kl, es, os, ps, ks, ke, ko, kp, kk, aw, pts, a1, a2, a3, a4, a5, a6, a7, a8, a9, a10⟩ := h
  exact ⟨e, o, p, kl, es, os, ps, ks, ke, ko, kp, kk, aw, pts, a1, a2, k _ a3 rfl, k _ a4 rfl, k _ a5 rfl, k _ a6 rfl, a7, a8, fun i v hv => (a9 i v hv).keep k, fun i hi => (a10 i hi).keep k⟩
section
variable {prog : Program} {w : World} {mean : ExcName → Option Value} {mg mb : Str → Option Value}
  {dp un : Nat} {gd : Option (List Code)} {fa : Addr} {cdv : Value} {outer : List Env} {A₀ : Around} {base h₀ : Heap} {L : Addr} {m : Str → Option Value} {s : Shared} {D : Led}
/-- how the last loops go on: the heap and the token move, the ledger keeps -/
def Kept (h₀ : Heap) (L : Addr) (s : Shared) (m : Str → Option Value) (D : Led) (ve vo : Option Value) (s' : Shared) : Prop :=
  ∃ (h' : Heap) (tk' : Nat) (m' : Str → Option Value) (D' : Led), s' = { s with heap := h', toks := tk' } ∧ LSt h₀ L h' m' ve vo D' ∧ Keep D D' ∧ m' (Str.ofString "keys") = m (Str.ofString "keys") ∧ m' (Str.ofString "places") = m (Str.ofString "places")
theorem keep_more {D D' D'' : Led} {I : Addr} (h : Keep D D') (hI : ∀ p ∈ D, p.1 ≠ I) (k : ∀ p ∈ D', isIter p.2 = false ∨ p.1 ∉ [I] → p ∈ D'') : Keep D D'' :=
  fun p hp hc => k p (h p hp hc) (.inr fun hm => hI p hp (List.mem_singleton.mp hm))
theorem inner_iter {ve vo : Option Value} {n i : Nat} {ti : Tok} (B : Below A₀ base outer h₀) (X : (Mine.hd.heap_39 w.params).In h₀) (T : TopF mean mg mb h₀) (hd : dp + 30 < recursionLimit) (hu : un + 100 < cLine) {Q : Flow → Shared → Prop}
    {rg : Addr} {t1 t2 t3 : Tok} (hR : IsRange s.heap rg 0 ((2 * n : Nat) : Int) 1 t1 t2 t3)
    (S : LSt h₀ L s.heap m ve vo D) (R : Ready w D m n) (hn : n ≤ 6) (hi : i < 2 * n) (mi : m (Str.ofString "i") = some (.int (i : Int) ti)) (hQ : ∀ s', Kept h₀ L s m D ve vo s' → Q .next s') :
    wpAny (model prog w) (lawA dp un gd L fa cdv outer) (pyIter (.ref rg)) (fun it s₂ => LoopAtV prog w (lawA dp un gd L fa cdv outer) h₀ (lawEnv L fa cdv) (Str.ofString "j") (inFor (nth (inFor (nth lawBody 8)) 0)) Q (fun _ _ => False) it s₂) (fun _ _ => False) s := by
  obtain ⟨F, N, ce, co⟩ := S
  have hI : ∀ p ∈ D, p.1 ≠ s.heap.objs.size := fun p hp => Nat.ne_of_lt (Heap.lt_size (N p hp).1)
  refine iter_range2 (n := 2 * n) (D₀ := D) (m₀ := m) (fun _ m' D' => CellAt D' (L + 1) ve ∧ CellAt D' (L + 1 + 1) vo ∧ Keep D D' ∧ m' (Str.ofString "keys") = m (Str.ofString "keys") ∧ m' (Str.ofString "places") = m (Str.ofString "places") ∧ m' (Str.ofString "i") = m (Str.ofString "i"))
    rfl hR (range_small (by omega)).1 (range_small (by omega)).2 F N ⟨ce, co, Keep.refl D, rfl, rfl, rfl⟩ ?_ ?_ ?_
  · rintro i m' D1 D2 ⟨c1, c2, k, e1, e2, e3⟩ hk
    exact ⟨c1.mono fun p hp h => hk p hp (.inl h), c2.mono fun p hp h => hk p hp (.inl h), keep_more k hI hk, e1, e2, e3⟩
  · rintro j t m₁ D1 h tk hj ⟨c1, c2, k, e1, e2, e3⟩ F1 N1
    show wpAny _ _ (execs (nth (inFor (nth (inFor (nth lawBody 8)) 0)) 0 :: []) _) _ _ _
    refine wpAny_execs_cons (cmp_turn (s := { s with heap := h, toks := tk }) (i := i) (j := j) (ti := ti) (tj := t) B X T hd hu ⟨F1, N1, c1, c2⟩ ((R.keep k).names (upd_ne (by decide) e1) (upd_ne (by decide) e2)) hi hj (upd_ne (by decide) (e3.trans mi)) upd_eq fun h2 tk2 S2 => ?_)
    exact wpAny_execs_nil ⟨rfl, h2, tk2, _, D1, rfl, S2.fr, S2.ne, Keep.refl D1, S2.e, S2.o, k, upd_ne (by decide) e1, upd_ne (by decide) e2, upd_ne (by decide) e3⟩
  · rintro m₁ D1 h tk ⟨c1, c2, k, e1, e2, e3⟩ F1 N1
    exact hQ _ ⟨h, tk, m₁, D1, rfl, ⟨F1, N1, c1, c2⟩, k, e1, e2⟩
set_option maxHeartbeats 4000000 in
theorem inner {ve vo : Option Value} {n i : Nat} {ti : Tok} (B : Below A₀ base outer h₀) (X : (Mine.hd.heap_39 w.params).In h₀) (T : TopF mean mg mb h₀) (hd : dp + 30 < recursionLimit) (hu : un + 100 < cLine)
    (S : LSt h₀ L s.heap m ve vo D) (R : Ready w D m n) (hi : i < 2 * n) (mi : m (Str.ofString "i") = some (.int (i : Int) ti)) :
    wpAny (model prog w) (lawA dp un gd L fa cdv outer) (exec (nth (inFor (nth lawBody 8)) 0) (lawEnv L fa cdv)) (fun f s' => f = .next ∧ Kept h₀ L s m D ve vo s') (fun _ _ => False) s := by
  obtain ⟨e, o, p, kl, es, os, ps, ks, ke, ko, kp, kk, aw, pts, a1, a2, a3, a4, a5, a6, a7, a8, a9, a10⟩ := id R
  obtain ⟨F, N, ce, co⟩ := S
  have hk1000 : ks.length ≤ 1000 := by omega
  refine For_invV h₀ (by rfl) (by rfl) ?_
  repeat' ((fail_if_success (with_reducible show wpAny _ _ (pyIter _) _ _ _)); walk1)
  refine inner_iter B X T hd hu (m := m) (D := D) (n := n) (by rw [← a7]; assumption) ⟨by assumption, by assumption, ce, co⟩ R a8 hi mi ?_
  rintro s' ⟨h', tk', m', D', rfl, z⟩
  exact ⟨rfl, h', tk', m', D', rfl, z⟩
theorem outer_iter {ve vo : Option Value} {n : Nat} (B : Below A₀ base outer h₀) (X : (Mine.hd.heap_39 w.params).In h₀) (T : TopF mean mg mb h₀) (hd : dp + 30 < recursionLimit) (hu : un + 100 < cLine) {Q : Flow → Shared → Prop}
    {rg : Addr} {t1 t2 t3 : Tok} (hR : IsRange s.heap rg 0 ((2 * n : Nat) : Int) 1 t1 t2 t3)
    (S : LSt h₀ L s.heap m ve vo D) (R : Ready w D m n) (hn : n ≤ 6) (hQ : ∀ s', Kept h₀ L s m D ve vo s' → Q .next s') :
    wpAny (model prog w) (lawA dp un gd L fa cdv outer) (pyIter (.ref rg)) (fun it s₂ => LoopAtV prog w (lawA dp un gd L fa cdv outer) h₀ (lawEnv L fa cdv) (Str.ofString "i") (inFor (nth lawBody 8)) Q (fun _ _ => False) it s₂) (fun _ _ => False) s := by
  obtain ⟨F, N, ce, co⟩ := S
  have hI : ∀ p ∈ D, p.1 ≠ s.heap.objs.size := fun p hp => Nat.ne_of_lt (Heap.lt_size (N p hp).1)
  refine iter_range2 (n := 2 * n) (D₀ := D) (m₀ := m) (fun _ m' D' => CellAt D' (L + 1) ve ∧ CellAt D' (L + 1 + 1) vo ∧ Keep D D' ∧ m' (Str.ofString "keys") = m (Str.ofString "keys") ∧ m' (Str.ofString "places") = m (Str.ofString "places"))
    rfl hR (range_small (by omega)).1 (range_small (by omega)).2 F N ⟨ce, co, Keep.refl D, rfl, rfl⟩ ?_ ?_ ?_
  · rintro i m' D1 D2 ⟨c1, c2, k, e1, e2⟩ hk
    exact ⟨c1.mono fun p hp h => hk p hp (.inl h), c2.mono fun p hp h => hk p hp (.inl h), keep_more k hI hk, e1, e2⟩
  · rintro i t m₁ D1 h tk hi ⟨c1, c2, k, e1, e2⟩ F1 N1
    show wpAny _ _ (execs (nth (inFor (nth lawBody 8)) 0 :: []) _) _ _ _
    refine wpAny_execs_cons (wpAny_mono (inner (s := { s with heap := h, toks := tk }) (i := i) (ti := t) B X T hd hu ⟨F1, N1, c1, c2⟩ ((R.keep k).names (upd_ne (by decide) e1) (upd_ne (by decide) e2)) hi upd_eq) (fun f s2 z => ?_) fun _ _ z => z)
    obtain ⟨rfl, h2, tk2, m2, D2, rfl, S2, K2, g1, g2⟩ := z
    exact wpAny_execs_nil ⟨rfl, h2, tk2, m2, D2, rfl, S2.fr, S2.ne, K2, S2.e, S2.o, k.trans K2, g1.trans (upd_ne (by decide) e1), g2.trans (upd_ne (by decide) e2)⟩
  · rintro m₁ D1 h tk ⟨c1, c2, k, e1, e2⟩ F1 N1
    exact hQ _ ⟨h, tk, m₁, D1, rfl, ⟨F1, N1, c1, c2⟩, k, e1, e2⟩
set_option maxHeartbeats 4000000 in
theorem loop3 {ve vo : Option Value} {n : Nat} (B : Below A₀ base outer h₀) (X : (Mine.hd.heap_39 w.params).In h₀) (T : TopF mean mg mb h₀) (hd : dp + 30 < recursionLimit) (hu : un + 100 < cLine)
    (S : LSt h₀ L s.heap m ve vo D) (R : Ready w D m n) :
    wpAny (model prog w) (lawA dp un gd L fa cdv outer) (exec (nth lawBody 8) (lawEnv L fa cdv)) (fun f s' => f = .next ∧ Kept h₀ L s m D ve vo s') (fun _ _ => False) s := by
  obtain ⟨e, o, p, kl, es, os, ps, ks, ke, ko, kp, kk, aw, pts, a1, a2, a3, a4, a5, a6, a7, a8, a9, a10⟩ := id R
  obtain ⟨F, N, ce, co⟩ := S
  have hk1000 : ks.length ≤ 1000 := by omega
  refine For_invV h₀ (by rfl) (by rfl) ?_
  repeat' ((fail_if_success (with_reducible show wpAny _ _ (pyIter _) _ _ _)); walk1)
  refine outer_iter B X T hd hu (m := m) (D := D) (n := n) (by rw [← a7]; assumption) ⟨by assumption, by assumption, ce, co⟩ R a8 ?_
  rintro s' ⟨h', tk', m', D', rfl, z⟩
  exact ⟨rfl, h', tk', m', D', rfl, z⟩
end
end Mine
end TP21
section TP22
open PySem PySem.Calls PySem.W PyProof.Rows PySem.Spec
namespace Mine
theorem fill16 : PySem.Challenge.rw_ja0006_01 = PySem.Challenge.rw_ja0006_01 ∧ Mine.hd.heap_39 = Mine.hd.heap_39 := by k_fill; exact ⟨rfl, rfl⟩
local macro_rules | `(tactic| k_room) => `(tactic| ktr_room)
local macro_rules | `(tactic| k_units) => `(tactic| ktr_units)
local macro_rules | `(tactic| k_mem) => `(tactic| first | with_reducible assumption | (refine mem_of' ?_; with_reducible assumption) | (refine mem_sub (by with_reducible assumption) ?_; k_mem))
local macro_rules | `(tactic| walk_at "binaryOp Add") => `(tactic| (k_here; (with_reducible show wpAny _ _ (binaryOp _ (Value.ref _) (Value.ref _)) _ _ _); k_dflt (refine' add_N ?k1 ?k2 ?k3 ?k4 ?k5 ?_; (case k1 => k_asm); (case k2 => k_asm); (case k3 => k_mem); (case k4 => k_mem); (case k5 => (rw [sizeLine_eq]; simp only [List.length_cons, List.length_nil]; omega)); k_whole); intro r' h' F' N'))
local macro_rules | `(tactic| walk_at "eval Name") => `(tactic| (k_here; k_dflt (refine' nameX_L ?F ?v ?_ ?a ?b ?c; (case a => rfl); (case b => rfl); (case c => decide); (case F => k_asm); (case v => assumption); k_whole)))
local macro_rules | `(tactic| walk_at "eval Name") => `(tactic| (k_here; k_dflt (refine' nameX_C ?N ?l ?m ?d ?_ ?a ?b ?c; (case a => rfl); (case b => rfl); (case c => decide); (case l => exact rfl); (case N => k_asm); (case m => k_mem); (case d => assumption); k_whole)))
local macro_rules | `(tactic| walk_at "call ref") => `(tactic| (k_here; (with_reducible show wpAny _ _ (call (Value.ref 174) _) _ _ _); k_dflt (refine' point_new ?k1 ?k2 ?k3 ?k4 ?k5 ?k6 ?k7 ?_; (case k1 => k_asm); (case k2 => k_asm); (case k3 => k_asm); (case k4 => k_asm); (case k5 => k_asm); (case k6 => first | rfl | assumption); (case k7 => ktr_room); k_whole); intro d' q' h' tk' news' F' N' hs' hq' hd'; (try k_fold)))
local macro_rules | `(tactic| walk_at "call builtin:len") => `(tactic| (k_here; (with_reducible show wpAny _ _ (call (Value.builtin "len") [Value.ref _]) _ _ _); k_dflt (refine' len_N ?k1 ?k2 ?k3 ?_; (case k1 => k_asm); (case k2 => k_mem); (case k3 => omega); k_whole); intro t' tk'))
def valOf : Stmt → PySem.Expr
  | .Assign _ v _ => v
  | _ => default
def AwayOk (h₀ : Heap) (L : Addr) (m : Str → Option Value) (D : Led) (s : Shared) (v : Value) (s' : Shared) : Prop :=
  ∃ (aw : Int) (ta : Tok) (h' : Heap) (tk' : Nat), v = .int aw ta ∧ s' = { s with heap := h', toks := tk' } ∧ Fr h₀ L h' m ∧ News h₀ L h' D
section
variable {prog : Program} {w : World} {mean : ExcName → Option Value} {mg mb : Str → Option Value}
  {dp un : Nat} {gd : Option (List Code)} {fa : Addr} {cdv : Value} {outer : List Env} {A₀ : Around} {base h₀ : Heap} {L : Addr} {m : Str → Option Value} {s : Shared} {D : Led}
set_option maxHeartbeats 4000000 in
theorem ev_away (B : Below A₀ base outer h₀) (X : (Mine.hd.heap_39 w.params).In h₀) (T : TopF mean mg mb h₀) (hd : dp + 30 < recursionLimit) (hu : un + 100 < cLine)
    {sl : Addr} {vs : List Value} {ns : List Int} (F : Fr h₀ L s.heap m) (N : News h₀ L s.heap D) (hs : m (Str.ofString "script") = some (.ref sl)) (hsl : h₀.IsList sl vs.toArray) (hI : IntsAre vs ns) (hlen : ns.length ≤ 63) :
    wpAny (model prog w) (lawA dp un gd L fa cdv outer) (eval (valOf (nth lawBody 0)) (lawEnv L fa cdv)) (AwayOk h₀ L m D s) (fun _ _ => False) s := by
  show wpAny _ _ (eval (PySem.Expr.IfExp _ _ _ _) _) _ _ _
  repeat' walk1
  all_goals exact ⟨_, _, _, _, rfl, rfl, by assumption, by assumption⟩
set_option maxHeartbeats 4000000 in
theorem st_away {ve vo : Option Value} {Q : Flow → Shared → Prop} (B : Below A₀ base outer h₀) (X : (Mine.hd.heap_39 w.params).In h₀) (T : TopF mean mg mb h₀) (hd : dp + 30 < recursionLimit) (hu : un + 100 < cLine)
    {sl : Addr} {vs : List Value} {ns : List Int} (S : LSt h₀ L s.heap m ve vo D) (hs : m (Str.ofString "script") = some (.ref sl)) (hsl : h₀.IsList sl vs.toArray) (hI : IntsAre vs ns) (hlen : ns.length ≤ 63)
    (hret : ∀ h' tk' aw ta, LSt h₀ L h' (fun y => if y = Str.ofString "away" then some (.int aw ta) else m y) ve vo D → Q .next { s with heap := h', toks := tk' }) :
    wpAny (model prog w) (lawA dp un gd L fa cdv outer) (exec (nth lawBody 0) (lawEnv L fa cdv)) Q (fun _ _ => False) s := by
  obtain ⟨F, N, he, ho⟩ := S
  refine wpAny_Assign_Name (wpAny_mono (ev_away B X T hd hu F N hs hsl hI hlen) (fun v s1 z => ?_) fun _ _ z => z)
  obtain ⟨aw, ta, h1, tk1, rfl, rfl, F1, N1⟩ := z
  clear F N
  repeat' walk1
  exact hret _ _ aw ta ⟨by assumption, by assumption, he, ho⟩
set_option maxHeartbeats 4000000 in
theorem st_rows0 {ve vo : Option Value} {Q : Flow → Shared → Prop} (B : Below A₀ base outer h₀) (X : (Mine.hd.heap_39 w.params).In h₀) (T : TopF mean mg mb h₀) (hd : dp + 30 < recursionLimit) (hu : un + 100 < cLine)
    (S : LSt h₀ L s.heap m ve vo D)
    (hret : ∀ h' tk' D' r k, LSt h₀ L h' (fun y => if y = Str.ofString "rows" then some (.ref r) else m y) ve vo D' → Keep D D' → (r, listOf #[] k) ∈ D' → Q .next { s with heap := h', toks := tk' }) :
    wpAny (model prog w) (lawA dp un gd L fa cdv outer) (exec (nth lawBody 1) (lawEnv L fa cdv)) Q (fun _ _ => False) s := by
  obtain ⟨F, N, ⟨oe, hoe, hde⟩, ⟨oo, hoo, hdo⟩⟩ := S
  refine wpAny_Assign_Name ?_
  repeat' walk1
  refine hret _ _ _ _ _ ⟨by assumption, by assumption, ⟨oe, by k_mem, hde⟩, ⟨oo, by k_mem, hdo⟩⟩ (keep_sub ?s) (by k_mem)
  intro p hp
  k_mem
set_option maxHeartbeats 4000000 in
theorem st_places0 {ve vo : Option Value} {Q : Flow → Shared → Prop} (B : Below A₀ base outer h₀) (X : (Mine.hd.heap_39 w.params).In h₀) (T : TopF mean mg mb h₀) (hd : dp + 30 < recursionLimit) (hu : un + 100 < cLine)
    (S : LSt h₀ L s.heap m ve vo D)
    (hret : ∀ h' tk' D' r k, LSt h₀ L h' (fun y => if y = Str.ofString "places" then some (.ref r) else m y) ve vo D' → Keep D D' → (r, listOf #[] k) ∈ D' → Q .next { s with heap := h', toks := tk' }) :
    wpAny (model prog w) (lawA dp un gd L fa cdv outer) (exec (nth lawBody 5) (lawEnv L fa cdv)) Q (fun _ _ => False) s := by
  obtain ⟨F, N, ⟨oe, hoe, hde⟩, ⟨oo, hoo, hdo⟩⟩ := S
  refine wpAny_Assign_Name ?_
  repeat' walk1
  refine hret _ _ _ _ _ ⟨by assumption, by assumption, ⟨oe, by k_mem, hde⟩, ⟨oo, by k_mem, hdo⟩⟩ (keep_sub ?s) (by k_mem)
  intro p hp
  k_mem
set_option maxHeartbeats 4000000 in
theorem st_ends0 {ve vo : Option Value} {Q : Flow → Shared → Prop} (B : Below A₀ base outer h₀) (X : (Mine.hd.heap_39 w.params).In h₀) (T : TopF mean mg mb h₀) (hd : dp + 30 < recursionLimit) (hu : un + 100 < cLine)
    (S : LSt h₀ L s.heap m ve vo D)
    (hret : ∀ h' tk' D' r k, LSt h₀ L h' m (some (.ref r)) vo D' → Keep D D' → (r, listOf #[] k) ∈ D' → Q .next { s with heap := h', toks := tk' }) :
    wpAny (model prog w) (lawA dp un gd L fa cdv outer) (exec (nth lawBody 3) (lawEnv L fa cdv)) Q (fun _ _ => False) s := by
  obtain ⟨F, N, ⟨oe, hoe, hde⟩, ⟨oo, hoo, hdo⟩⟩ := S
  refine wpAny_Assign_Name ?_
  repeat' walk1
  refine store_ends (ve := ve) (vo := vo) ⟨by assumption, by assumption, ⟨oe, by k_mem, hde⟩, ⟨oo, by k_mem, hdo⟩⟩ fun h9 D9 S9 K9 => hret h9 _ D9 _ _ S9 (Keep.trans (keep_sub ?s) K9) (K9 _ (by k_mem) rfl)
  intro p hp
  k_mem
set_option maxHeartbeats 4000000 in
theorem st_opp0 {ve vo : Option Value} {Q : Flow → Shared → Prop} (B : Below A₀ base outer h₀) (X : (Mine.hd.heap_39 w.params).In h₀) (T : TopF mean mg mb h₀) (hd : dp + 30 < recursionLimit) (hu : un + 100 < cLine)
    (S : LSt h₀ L s.heap m ve vo D)
    (hret : ∀ h' tk' D' r k, LSt h₀ L h' m ve (some (.ref r)) D' → Keep D D' → (r, listOf #[] k) ∈ D' → Q .next { s with heap := h', toks := tk' }) :
    wpAny (model prog w) (lawA dp un gd L fa cdv outer) (exec (nth lawBody 4) (lawEnv L fa cdv)) Q (fun _ _ => False) s := by
  obtain ⟨F, N, ⟨oe, hoe, hde⟩, ⟨oo, hoo, hdo⟩⟩ := S
  refine wpAny_Assign_Name ?_
  repeat' walk1
  refine store_opp (ve := ve) (vo := vo) ⟨by assumption, by assumption, ⟨oe, by k_mem, hde⟩, ⟨oo, by k_mem, hdo⟩⟩ fun h9 D9 S9 K9 => hret h9 _ D9 _ _ S9 (Keep.trans (keep_sub ?s) K9) (K9 _ (by k_mem) rfl)
  intro p hp
  k_mem
theorem st_ret {Q : Flow → Shared → Prop} (F : Fr h₀ L s.heap m) (h : Q (.ret (.bool true)) s) : wpAny (model prog w) (lawA dp un gd L fa cdv outer) (exec (nth lawBody 9) (lawEnv L fa cdv)) Q (fun _ _ => False) s := by
  show wpAny _ _ (exec (Stmt.Return _ _) _) _ _ _
  repeat' walk1
  exact h
end
end Mine
end TP22
section TP23
open PySem PySem.Calls PySem.W PyProof.Rows PySem.Spec
namespace Mine
section
variable {prog : Program} {w : World} {mean : ExcName → Option Value} {mg mb : Str → Option Value}
  {dp un : Nat} {gd : Option (List Code)} {fa : Addr} {cdv : Value} {outer : List Env} {A₀ : Around} {base h₀ : Heap} {L : Addr} {m : Str → Option Value} {s : Shared} {D : Led}
theorem law_walk {Q : Flow → Shared → Prop} (B : Below A₀ base outer h₀) (X : (Mine.hd.heap_39 w.params).In h₀) (T : TopF mean mg mb h₀) (hd : dp + 30 < recursionLimit) (hu : un + 100 < cLine)
    {sl : Addr} {vs : List Value} {ns : List Int} (S : LSt h₀ L s.heap m none none D) (hs : m (Str.ofString "script") = some (.ref sl)) (hsl : h₀.IsList sl vs.toArray) (hI : IntsAre vs ns) (hlen : ns.length ≤ 63)
    (hret : ∀ h' tk' m', Fr h₀ L h' m' → Q (.ret (.bool true)) { s with heap := h', toks := tk' }) :
    wpAny (model prog w) (lawA dp un gd L fa cdv outer) (execs lawBody (lawEnv L fa cdv)) Q (fun _ _ => False) s := by
  show wpAny _ _ (execs (nth lawBody 0 :: nth lawBody 1 :: nth lawBody 2 :: nth lawBody 3 :: nth lawBody 4 :: nth lawBody 5 :: nth lawBody 6 :: nth lawBody 7 :: nth lawBody 8 :: nth lawBody 9 :: []) _) _ _ _
  refine wpAny_execs_cons (st_away B X T hd hu S hs hsl hI hlen fun h1 tk1 aw ta S1 => ?_)
  refine wpAny_execs_cons (st_rows0 (s := { s with heap := h1, toks := tk1 }) B X T hd hu S1 fun h2 tk2 D2 r k S2 K2 i2 => ?_)
  refine wpAny_execs_cons (wpAny_mono (loop1 (s := { s with heap := h2, toks := tk2 }) B X T hd hu S2 hs hsl hI hlen rfl i2) (fun f s3 z => ?_) fun _ _ z => z)
  obtain ⟨rfl, h3, tk3, m3, D3, r3, rs, k3, rfl, S3, a1, a2, a3, a4, a5⟩ := z
  have haw : m3 (Str.ofString "away") = some (.int aw ta) := by
    refine (a5 (Str.ofString "away") (by decide) (by decide)).trans ?_
    rfl
  refine wpAny_execs_cons (st_ends0 (s := { s with heap := h3, toks := tk3 }) B X T hd hu S3 fun h4 tk4 D4 e4 k4 S4 K4 i4 => ?_)
  refine wpAny_execs_cons (st_opp0 (s := { s with heap := h4, toks := tk4 }) B X T hd hu S4 fun h5 tk5 D5 o5 k5 S5 K5 i5 => ?_)
  refine wpAny_execs_cons (st_places0 (s := { s with heap := h5, toks := tk5 }) B X T hd hu S5 fun h6 tk6 D6 p6 k6 S6 K6 i6 => ?_)
  have K46 : Keep D4 D6 := K5.trans K6
  have K36 : Keep D3 D6 := K4.trans K46
  refine wpAny_execs_cons (wpAny_mono (loop2 (s := { s with heap := h6, toks := tk6 }) B X T hd hu S6 a1 (K36 _ a2 rfl) a3 (fun v hv => (a4 v hv).keep K36) haw rfl (K46 _ i4 rfl) (K6 _ i5 rfl) i6) (fun f s7 z => ?_) fun _ _ z => z)
  obtain ⟨rfl, h7, tk7, m7, D7, e, o, p, es, os, ps, ke, ko, kp, n, aw', pts, rfl, S7, b1, b2, b3, b4, b5, b6, b7, b8, b9⟩ := z
  refine wpAny_execs_cons (wpAny_mono (st_keys (s := { s with heap := h7, toks := tk7 }) B X T hd hu S7 b2 (by omega)) (fun f s8 z => ?_) fun _ _ z => z)
  obtain ⟨rfl, h8, tk8, D8, kl, ks, kk, rfl, F8, N8, K8, c1, c2, c3⟩ := z
  have R : Ready w D8 (fun y => if y = Str.ofString "keys" then some (.ref kl) else m7 y) n :=
    ⟨e, o, p, kl, es, os, ps, ks, ke, ko, kp, kk, aw', pts, rfl, b1, c1, K8 _ b2, K8 _ b3, K8 _ b4, c2.trans b5, b8, c3, fun i hi => (b9 i hi).mono fun p hp _ => K8 p hp⟩
  refine wpAny_execs_cons (wpAny_mono (loop3 (s := { s with heap := h8, toks := tk8 }) B X T hd hu ⟨F8, N8, cell_more S7.e K8, cell_more S7.o K8⟩ R) (fun f s9 z => ?_) fun _ _ z => z)
  obtain ⟨rfl, h9, tk9, m9, D9, rfl, S9, K9, g1, g2⟩ := z
  exact wpAny_execs_cons (st_ret (s := { s with heap := h9, toks := tk9 }) S9.fr (hret _ _ _ S9.fr))
/-- how the law ends -/
def LawEnd (h₀ : Heap) (L : Addr) (s : Shared) (f : Flow) (s' : Shared) : Prop := f = .ret (.bool true) ∧ ∃ (h' : Heap) (tk' : Nat) (m' : Str → Option Value), s' = { s with heap := h', toks := tk' } ∧ Fr h₀ L h' m'
theorem lst_of {h : Heap} {a b : Obj} (F : Fr h₀ L h m) (N : News h₀ L h [(L + 1 + 1, a), (L + 1, b)]) (ha : a.data = .cell none) (hb : b.data = .cell none) : LSt h₀ L h m none none [(L + 1 + 1, a), (L + 1, b)] :=
  ⟨F, N, ⟨b, .tail _ (.head _), hb⟩, ⟨a, .head _, ha⟩⟩
theorem law_end (B : Below A₀ base outer h₀) (X : (Mine.hd.heap_39 w.params).In h₀) (T : TopF mean mg mb h₀) (hd : dp + 30 < recursionLimit) (hu : un + 100 < cLine)
    {sl : Addr} {vs : List Value} {ns : List Int} {a b : Obj} (F : Fr h₀ L s.heap m) (N : News h₀ L s.heap [(L + 1 + 1, a), (L + 1, b)]) (ha : a.data = .cell none) (hb : b.data = .cell none) (hs : m (Str.ofString "script") = some (.ref sl)) (hsl : h₀.IsList sl vs.toArray) (hI : IntsAre vs ns) (hlen : ns.length ≤ 63) :
    wpAny (model prog w) (lawA dp un gd L fa cdv outer) (execs lawBody (lawEnv L fa cdv)) (LawEnd h₀ L s) (fun _ _ => False) s :=
  law_walk B X T hd hu (lst_of F N ha hb) hs hsl hI hlen fun h' tk' m' F' => ⟨rfl, h', tk', m', rfl, F'⟩
end
end Mine
end TP23
section TM1
open PySem PySem.Calls PySem.W PyProof.Rows PySem.Spec
set_option maxHeartbeats 4000000 in
theorem PySem.Challenge.cw_ja0006_01_holds : PySem.Challenge.rw_ja0006_01.Holds := by
  exact Mine.hd (by
    k_go0
    rename News _ _ _ _ => NN
    rename Fr _ _ _ _ => FF
    rename Below _ _ _ _ => BB
    rename Top _ _ _ _ _ _ => TT
    rename Frag.In _ _ => XX
    rename IntsAre _ _ => II
    rename Heap.IsList _ _ _ => LL
    rename ¬ (_ < _) => CC
    refine wpAny_mono (Mine.law_end BB XX TT ?zd ?zu FF NN ?zc ?zc2 ?zhs LL II ?zlen) ?zq ?ze
    case zd => decide
    case zu => decide
    case zlen => omega
    case zc => assumption
    case zc2 => assumption
    case zhs => rfl
    case ze => exact fun _ _ z => z.elim
    case zq =>
      rintro f s' ⟨rfl, h', tk', m', rfl, F'⟩
      clear FF NN
      wrow_close)
end TM1
