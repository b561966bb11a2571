import PyProof.Rows.All
import Wide.All
import OpenK.AllK
import Wide.FinOn
import PySem.Challenge.RW_at6035_01
open PySem PySem.W PySem.W.X PyProof.Rows PySem.Calls PySem.Spec
set_option Elab.async false
set_option maxRecDepth 100000
set_option maxHeartbeats 0
set_option linter.all false
section
local macro_rules | `(tactic| k_head) => `(tactic| x_head)
open_top Mine.hd for PySem.Challenge.rw_at6035_01
end
namespace Mine
noncomputable abbrev Law : Program := PySem.Challenge.rw_at6035_01.row.prog
noncomputable abbrev Loose : List Str := looseW Mine.hd.view_39 [Str.ofString "_tuplegetter", Str.ofString "Point", Str.ofString "Orientation", Str.ofString "Location"]

theorem wp_le {α : Type} {M : Model} {A A' : Around} {t : Sem α} {Q : α → Shared → Prop} {E : Value → Shared → Prop} {s : Shared} (h : wpAny M A' t Q E s) (hh : A.handled = A'.handled) (hd : A.depth ≤ A'.depth) (hf : A'.frames = none ∨ A'.frames = A.frames) (hg : A'.guards = none ∨ A'.guards = A.guards) (hu : A.units ≤ A'.units) :
    wpAny M A t Q E s := fun Γ p hΓ => h Γ p ⟨hΓ.1.trans hh, Nat.le_trans hΓ.2.1 hd, fun l hl => by
      rcases hf with e | e
      · rw [e] at hl; cases hl
      · exact hΓ.2.2.1 l (e ▸ hl), fun g hgs => by
      rcases hg with e | e
      · rw [e] at hgs; cases hgs
      · exact hΓ.2.2.2.1 g (e ▸ hgs), Nat.le_trans hΓ.2.2.2.2 hu⟩

def Grew (h h' : Heap) : Prop := ∀ b o, h.get? b = some o → h'.get? b = some o
theorem grew_of {h h' : Heap} {news : List (Addr × Obj)} (D : Mem h h' [] news) : Grew h h' := fun b o e => D.keep b o e (by
  have : away [] b = true := rfl
  rw [this, Bool.or_true])
def Amax : Around := { handled := none, depth := 600, frames := none, guards := none, units := 2000 }

section
local macro_rules | `(tactic| x_close) => `(tactic| exact ⟨_, _, rfl, (by first | exact grew_of (by assumption) | exact fun _ _ e => e), rfl⟩)
theorem x_type {w : World} {s : Shared} {p : Addr} {d : Addr} {x y : Int} {tx ty : Tok} (X : (Mine.hd.heap_39 w.params).In s.heap) (hp : s.heap.get? p = some { cls := .ref 132, dict := some d, data := .seq #[.int x tx, .int y ty] }) :
    wpAny (model Law w) Amax (PySem.call (.type "type") [.ref p] []) (fun v s' => ∃ h' t', s' = { s with heap := h', toks := t' } ∧ Grew s.heap h' ∧ v = .ref 132) (fun _ _ => False) s := by
  w_top off
  x_run
theorem x_sub {w : World} {s : Shared} (X : (Mine.hd.heap_39 w.params).In s.heap) :
    wpAny (model Law w) Amax (PySem.call (.builtin "issubclass") [.ref 132, .type "tuple"] []) (fun v s' => ∃ h' t', s' = { s with heap := h', toks := t' } ∧ Grew s.heap h' ∧ v = .bool true) (fun _ _ => False) s := by
  w_top off
  x_run
end
section
local macro_rules | `(tactic| x_close) => `(tactic| exact ⟨_, _, _, _, rfl, grew_of (by assumption), rfl, Mem.nw (by assumption) (_, _) (List.Mem.head _), Mem.nw (by assumption) (_, _) (List.Mem.tail _ (List.Mem.head _))⟩)
theorem x_point {w : World} {s : Shared} {x y : Int} {tx ty : Tok} (X : (Mine.hd.heap_39 w.params).In s.heap) :
    wpAny (model Law w) Amax (PySem.call (.ref 132) [.int x tx, .int y ty] []) (fun v s' => ∃ p d h' t', s' = { s with heap := h', toks := t' } ∧ Grew s.heap h' ∧ v = .ref p ∧ (h'.get? p = some { cls := .ref 132, dict := some d, data := .seq #[.int x tx, .int y ty] } ∧ s.heap.get? p = none) ∧ (h'.get? d = some { cls := .type "dict", data := .dict #[] } ∧ s.heap.get? d = none)) (fun _ _ => False) s := by
  w_top off
  x_run
end
end Mine
namespace Mine
noncomputable abbrev ptO (d : Addr) (x : Int) (tx : Tok) (y : Int) (ty : Tok) : Obj := { cls := .ref 132, dict := some d, data := .seq #[.int x tx, .int y ty] }
noncomputable abbrev tupO (x : Int) (tx : Tok) (y : Int) (ty : Tok) : Obj := { cls := .type "tuple", data := .seq #[.int x tx, .int y ty] }
section
variable {w : World} {A : Around} {h₀ h h' : Heap} {L : Addr} {m : Str → Option Value} {news : List (Addr × Obj)} {s : Shared} {Q E : Value → Shared → Prop}
theorem news_grew (N : News h₀ L h news) (G : Grew h h') : News h₀ L h' news := fun p hp => ⟨G _ _ (N p hp).1, (N p hp).2⟩
theorem news_new {p : Addr} {o : Obj} (F : Fr h₀ L h m) (N : News h₀ L h' news) (hp : h'.get? p = some o ∧ h.get? p = none) : News h₀ L h' ((p, o) :: news) := fun q hq => by
  rcases List.mem_cons.mp hq with rfl | hq
  · refine ⟨hp.1, fun e => ?_, ?_⟩
    · obtain ⟨oL, _, _, hL, _⟩ := F.ns
      have := hp.2
      rw [show p = L from e, hL] at this; cases this
    · cases e : h₀.get? p with
      | none => rfl
      | some o' => have := F.keep _ _ e; rw [hp.2] at this; cases this
  · exact N q hq
theorem k_type {p d : Addr} {x y : Int} {tx ty : Tok} (F : Fr h₀ L s.heap m) (X : (Mine.hd.heap_39 w.params).In h₀) (N : News h₀ L s.heap news) (hm : (p, ptO d x tx y ty) ∈ news) (hh : A.handled = none) (hd : A.depth ≤ 600) (hu : A.units ≤ 2000)
    (k : ∀ h' t', Fr h₀ L h' m → News h₀ L h' news → Q (.ref 132) { s with heap := h', toks := t' }) : wpAny (model Law w) A (PySem.call (.type "type") [.ref p]) Q E s :=
  wpAny_mono (wp_le (x_type (X.keeps F.keep) (N _ hm).1) (hh.trans rfl) hd (.inl rfl) (.inl rfl) hu) (fun v s' ⟨h', t', e, G, ev⟩ => by subst e ev; exact k h' t' (F.keeps G) (news_grew N G)) fun _ _ e => e.elim
theorem k_sub (F : Fr h₀ L s.heap m) (X : (Mine.hd.heap_39 w.params).In h₀) (N : News h₀ L s.heap news) (hh : A.handled = none) (hd : A.depth ≤ 600) (hu : A.units ≤ 2000)
    (k : ∀ h' t', Fr h₀ L h' m → News h₀ L h' news → Q (.bool true) { s with heap := h', toks := t' }) : wpAny (model Law w) A (PySem.call (.builtin "issubclass") [.ref 132, .type "tuple"]) Q E s :=
  wpAny_mono (wp_le (x_sub (X.keeps F.keep)) (hh.trans rfl) hd (.inl rfl) (.inl rfl) hu) (fun v s' ⟨h', t', e, G, ev⟩ => by subst e ev; exact k h' t' (F.keeps G) (news_grew N G)) fun _ _ e => e.elim
theorem k_point {x y : Int} {tx ty : Tok} (F : Fr h₀ L s.heap m) (X : (Mine.hd.heap_39 w.params).In h₀) (N : News h₀ L s.heap news) (hh : A.handled = none) (hd : A.depth ≤ 600) (hu : A.units ≤ 2000)
    (k : ∀ p d h' t', Fr h₀ L h' m → News h₀ L h' ((p, ptO d x tx y ty) :: (d, { cls := .type "dict", data := .dict #[] }) :: news) → Q (.ref p) { s with heap := h', toks := t' }) : wpAny (model Law w) A (PySem.call (.ref 132) [.int x tx, .int y ty]) Q E s :=
  wpAny_mono (wp_le (x_point (X.keeps F.keep)) (hh.trans rfl) hd (.inl rfl) (.inl rfl) hu) (fun v s' ⟨p, d, h', t', e, G, ev, hp, hd⟩ => by subst e ev; exact k p d h' t' (F.keeps G) (news_new F (news_new F (news_grew N G) hd) hp)) fun _ _ e => e.elim
end
section
variable {w : World} {A : Around} {h₀ h h' : Heap} {L : Addr} {m : Str → Option Value} {news : List (Addr × Obj)} {s : Shared} {Q E : Value → Shared → Prop}
theorem kind_ti : builtinKind "tuple.__getitem__" = some .slot := by kernel_rfl
theorem split_ti : splitId "tuple.__getitem__" = some ("tuple", "__getitem__") := by kernel_rfl
theorem plain_ti : plainId "tuple.__getitem__" = true := by decide +kernel
theorem inst_pt {p d : Addr} {x y : Int} {tx ty : Tok} (N : News h₀ L h news) (hm : (p, ptO d x tx y ty) ∈ news) (hd : (d, { cls := .type "dict", data := .dict #[] }) ∈ news) : InstAt h p (ptO d x tx y ty) 132 (some { cls := .type "dict", data := .dict #[] }) :=
  ⟨(N _ hm).1, rfl, rfl, (N _ hd).1⟩
theorem check_ti {p d : Addr} {x y : Int} {tx ty u : Tok} {i : Int} {Q : Unit → Shared → Prop} (X : (Mine.hd.heap_39 w.params).In s.heap) (I : InstAt s.heap p (ptO d x tx y ty) 132 (some { cls := .type "dict", data := .dict #[] })) (hQ : Q () s) :
    wpAny (model Law w) A (checkBuiltinCall "tuple.__getitem__" ⟨[.ref p, .int i u], []⟩) Q E s := by
  simp only [checkBuiltinCall, kind_ti, split_ti]
  unfold isInstance
  refine wpAny_bind (wpAny_bind (I.type.here ((looks_mroIn X (r := true) (by kernel_rfl)).here ?_)))
  simp only [Bool.not_true, Bool.false_eq_true, if_false]
  have ha : argsOk "tuple.__getitem__" ⟨[.ref p, .int i u], []⟩ := args_tuple_getitem _ _
  cases hsig : Manifest.signature? "tuple.__getitem__" with
  | none => exact wpAny_pure hQ
  | some sig =>
    simp only [argsOk, hsig] at ha
    have h2 : Bind.checkArgs "tuple.__getitem__" sig ⟨[.ref p, .int i u], []⟩ = pure () := ha
    show wpAny _ A (Bind.checkArgs "tuple.__getitem__" sig ⟨[.ref p, .int i u], []⟩) Q E s
    rw [h2]; exact wpAny_pure hQ
theorem k_titem {p d : Addr} {x y : Int} {tx ty u : Tok} {i : Int} {v : Value} (F : Fr h₀ L s.heap m) (X₀ : (Mine.hd.heap_39 w.params).In h₀) (N : News h₀ L s.heap news) (hm : (p, ptO d x tx y ty) ∈ news) (hd : (d, { cls := .type "dict", data := .dict #[] }) ∈ news)
    (hi : (i = 0 ∧ v = .int x tx) ∨ (i = 1 ∧ v = .int y ty)) (k : Q v s) : wpAny (model Law w) A (PySem.call (.builtin "tuple.__getitem__") [.ref p, .int i u]) Q E s := by
  refine wpAny_call (codeAny_call_builtin plain_ti PySem.F.entry_tuple_getitem ?_)
  refine check_ti (X₀.keeps F.keep) (inst_pt N hm hd) ?_
  show wpAny _ _ (Builtin.Tuple.tupleItemsOf (.ref p) >>= _) _ _ s
  refine wpAny_bind (m := Builtin.Tuple.tupleItemsOf (.ref p)) ?_
  unfold Builtin.Tuple.tupleItemsOf
  refine wpAny_bind (wpAny_seqItems (N _ hm).1 rfl (wpAny_pure ?_))
  refine wpAny_bind (wpAny_typeOf (typeIs_int s i u) ?_)
  rw [if_neg (by decide)]
  refine wpAny_bind (wpAny_specialOf (T := "int") (typeIs_int s i u) int_index ?_)
  rw [if_neg (by simp)]
  refine wpAny_bind (wpAny_of_eq (a := i) rfl ?_)
  rcases hi with ⟨rfl, rfl⟩ | ⟨rfl, rfl⟩
  all_goals
    rw [if_neg (by decide)]
    exact wpAny_pure k
end
local macro_rules | `(tactic| walk_at "call type:type") => `(tactic| (k_here; (with_reducible show wpAny _ _ (PySem.call (Value.type "type") [Value.ref _]) _ _ _); (refine' k_type ?F ?X ?N ?hm ?hh ?hd ?hu ?_; (case F => k_asm); (case X => k_asm); (case N => k_asm); (case hm => k_mem); (case hh => exact rfl); (case hd => exact Nat.le_of_ble_eq_true rfl); (case hu => exact Nat.le_of_ble_eq_true rfl); k_whole; intro h' t' F' N')))
local macro_rules | `(tactic| walk_at "call builtin:issubclass") => `(tactic| (k_here; (refine' k_sub ?F ?X ?N ?hh ?hd ?hu ?_; (case F => k_asm); (case X => k_asm); (case N => k_asm); (case hh => exact rfl); (case hd => exact Nat.le_of_ble_eq_true rfl); (case hu => exact Nat.le_of_ble_eq_true rfl); k_whole; intro h' t' F' N')))
local macro_rules | `(tactic| walk_at "getMethod type:tuple") => `(tactic| (k_here; refine' method_type ?F ?X ?m (by decide +kernel) ?e ?h ?_; (case F => k_asm); (case X => k_asm); (case m => kernel_rfl); (case e => k_dflt k_is); (case h => k_handed)))
local macro_rules | `(tactic| walk_at "call builtin:tuple.__getitem__") => `(tactic| (k_here; (refine' k_titem ?F ?X ?N ?hm ?hd ?hi ?_; (case F => k_asm); (case X => k_asm); (case N => k_asm); (case hm => k_mem); (case hd => k_mem); (case hi => first | exact .inl ⟨rfl, rfl⟩ | exact .inr ⟨rfl, rfl⟩); k_whole)))
section
variable {w : World} {mean : ExcName → Option Value} {mg mb : Str → Option Value} {gd : Option (List Code)} {cn : Str} {cs : Scope} {a : Addr} {ccd : Value} {cl : List (Str × Addr)} {outer : List Env} {A₀ : Around} {base h₀ : Heap} {L : Addr} {m : Str → Option Value} {news : List (Addr × Obj)} {s : Shared} {Q E : Value → Shared → Prop}
theorem cut_getx {p d : Addr} {x y : Int} {tx ty : Tok} (B : Below A₀ base outer h₀) (F : Fr h₀ L s.heap m) (X : (Mine.hd.heap_39 w.params).In h₀) (N : News h₀ L s.heap ((p, ptO d x tx y ty) :: (d, { cls := .type "dict", data := .dict #[] }) :: news)) (T : Top Mine.hd.view_39 Loose mean mg mb h₀) (hk : cs.kind = .function)
   (ret : ∀ (h' : Heap) (tk' : Nat), Fr h₀ L h' m → News h₀ L h' ((p, ptO d x tx y ty) :: (d, { cls := .type "dict", data := .dict #[] }) :: news) → Q (.int x tx) { s with heap := h', toks := tk' }) : wpAny (model Law w) (ktrTop 500 1000 gd cn cs L a ccd cl outer) (PySem.call (.ref 43) [.ref 124, .ref p, .ref 132]) Q E s := by
  refine wpAny_call ?_
  k_dflt (refine' code_def ?k1 ?k2 ?k3 ?k4 ?k5 ?kA ?kF ?kK ?k6 ?k7 ?k8 ?k9 ?kB ?_ ?c2 ?c3 ?c4 ?c5; (case kA => exact rfl); (case kF => exact rfl); (case kK => assumption); (case k1 => k_asm); (case k2 => k_asm); (case k3 => k_asm); (case k4 => k_asm); (case k5 => k_asm); (case k6 => k_is); (case k7 => k_is); (case k8 => ktr_room); (case k9 => first | exact BindsTo.of_eq rfl | exact binds_K (by k_in) rfl (by k_is) rfl rfl rfl); (case c5 => decide); (case kB => exact locs rfl); (case c2 => exact rfl); (case c3 => exact rfl); (case c4 => exact rfl); k_whole; intro g' L' h' FG' F' N' B' X' T'; (try dsimp only); (try k_lift B'); (try k_fold))
  w_top off
  k_steps
  all_goals exact ret _ _ (by k_asm) (by k_asm)
theorem cut_gety {p d : Addr} {x y : Int} {tx ty : Tok} (B : Below A₀ base outer h₀) (F : Fr h₀ L s.heap m) (X : (Mine.hd.heap_39 w.params).In h₀) (N : News h₀ L s.heap ((p, ptO d x tx y ty) :: (d, { cls := .type "dict", data := .dict #[] }) :: news)) (T : Top Mine.hd.view_39 Loose mean mg mb h₀) (hk : cs.kind = .function)
   (ret : ∀ (h' : Heap) (tk' : Nat), Fr h₀ L h' m → News h₀ L h' ((p, ptO d x tx y ty) :: (d, { cls := .type "dict", data := .dict #[] }) :: news) → Q (.int y ty) { s with heap := h', toks := tk' }) : wpAny (model Law w) (ktrTop 500 1000 gd cn cs L a ccd cl outer) (PySem.call (.ref 43) [.ref 127, .ref p, .ref 132]) Q E s := by
  refine wpAny_call ?_
  k_dflt (refine' code_def ?k1 ?k2 ?k3 ?k4 ?k5 ?kA ?kF ?kK ?k6 ?k7 ?k8 ?k9 ?kB ?_ ?c2 ?c3 ?c4 ?c5; (case kA => exact rfl); (case kF => exact rfl); (case kK => assumption); (case k1 => k_asm); (case k2 => k_asm); (case k3 => k_asm); (case k4 => k_asm); (case k5 => k_asm); (case k6 => k_is); (case k7 => k_is); (case k8 => ktr_room); (case k9 => first | exact BindsTo.of_eq rfl | exact binds_K (by k_in) rfl (by k_is) rfl rfl rfl); (case c5 => decide); (case kB => exact locs rfl); (case c2 => exact rfl); (case c3 => exact rfl); (case c4 => exact rfl); k_whole; intro g' L' h' FG' F' N' B' X' T'; (try dsimp only); (try k_lift B'); (try k_fold))
  w_top off
  k_steps
  all_goals exact ret _ _ (by k_asm) (by k_asm)
end
end Mine
namespace Mine
noncomputable abbrev dO : Obj := { cls := .type "dict", data := .dict #[] }
section
variable {w : World} {A : Around} {s : Shared} {E : Value → Shared → Prop}
theorem kind_tga : builtinKind "tuple.__getattribute__" = some .slot := by kernel_rfl
theorem split_tga : splitId "tuple.__getattribute__" = some ("tuple", "__getattribute__") := by kernel_rfl
theorem check_tga {p d : Addr} {x y : Int} {tx ty u : Tok} {nm : Str} {Q : Unit → Shared → Prop} {h : Heap} {g dr tk os} (X : (Mine.hd.heap_39 w.params).In h) (I : InstAt h p (ptO d x tx y ty) 132 (some dO)) (hQ : Q () ⟨h, g, dr, tk, os⟩) :
    wpAny (model Law w) A (checkBuiltinCall "tuple.__getattribute__" ⟨[.ref p, .str nm u], []⟩) Q E ⟨h, g, dr, tk, os⟩ := by
  simp only [checkBuiltinCall, kind_tga, split_tga]
  unfold isInstance
  refine wpAny_bind (wpAny_bind (I.type.at ((looks_mroIn X (r := true) (by kernel_rfl)).at ?_)))
  simp only [Bool.not_true, Bool.false_eq_true, if_false]
  have ha : argsOk "tuple.__getattribute__" ⟨[.ref p, .str nm u], []⟩ := PySem.F.args_tuple_getattribute_2 _ _
  cases hsig : Manifest.signature? "tuple.__getattribute__" with
  | none => exact wpAny_pure hQ
  | some sig =>
    simp only [argsOk, hsig] at ha
    have h2 : Bind.checkArgs "tuple.__getattribute__" sig ⟨[.ref p, .str nm u], []⟩ = pure () := ha
    show wpAny _ A (Bind.checkArgs "tuple.__getattribute__" sig ⟨[.ref p, .str nm u], []⟩) Q E _
    rw [h2]; exact wpAny_pure hQ
end
section
open Builtin.ObjectAttr
variable {w : World} {mean : ExcName → Option Value} {mg mb : Str → Option Value} {cn : Str} {cs : Scope} {a : Addr} {ccd : Value} {cl : List (Str × Addr)} {outer : List Env} {A A₀ : Around} {base h₀ : Heap} {L : Addr} {m : Str → Option Value} {news : List (Addr × Obj)} {s : Shared} {Q E : Value → Shared → Prop} {expr : Bool}

theorem k_attrx {p d : Addr} {x y : Int} {tx ty : Tok} (B : Below A₀ base outer h₀) (F : Fr h₀ L s.heap m) (X : (Mine.hd.heap_39 w.params).In h₀) (N : News h₀ L s.heap news) (T : Top Mine.hd.view_39 Loose mean mg mb h₀)
   (hm : (p, ptO d x tx y ty) ∈ news) (hd : (d, dO) ∈ news) (hA : A.frames = some (envX cn cs L a ccd cl :: outer)) (hk : cs.kind = .function) (hh : A.handled = none) (hdep : A.depth ≤ 500) (hun : A.units + 2 ≤ 1000)
   (k : ∀ (h' : Heap) (tk' : Nat), Fr h₀ L h' m → News h₀ L h' news → Q (.int x tx) { s with heap := h', toks := tk' }) : wpAny (model Law w) A (getAttr (.ref p) "x" expr) Q E s := by
  have X' := X.keeps F.keep
  have I := inst_pt N hm hd
  refine wpAny_bind (wpAny_mkText (wpAny_holding (wpAny_bind ?_)))
  have X'' : (Mine.hd.heap_39 w.params).In ({ s with toks := s.toks + 1 } : Shared).heap := X'
  refine (I.type (M := model Law w)).at (wpAny_bind ?_)
  refine (looks_findIn (M := model Law w) X' (r := some (.builtin "tuple.__getattribute__")) (by kernel_rfl)).at ?_
  show wpAny _ _ (getAttrByItsOwn _ _ _ _ _ _) _ _ _
  unfold getAttrByItsOwn
  refine wpAny_bind ((looks_findIn (M := model Law w) X' (r := none) (by kernel_rfl)).at ?_)
  refine wpAny_bind (wpAny_attempt (wpAny_holding ?_))
  have hcg : callGetattribute (.ref p) (.str "x" s.toks) (.builtin "tuple.__getattribute__") expr = boundAndCalled (.builtin "tuple.__getattribute__") (.ref p) (.str "x" s.toks) := by
    unfold callGetattribute
    rw [show onTheHeap (.builtin "tuple.__getattribute__") = false from rfl, Bool.and_false]
    rfl
  rw [hcg]
  unfold boundAndCalled
  rw [PySem.F.slot_tuple_getattribute.bind (.ref p)]
  refine wpAny_bind (wpAny_pure ?_)
  refine wpAny_call (codeAny_call_builtin PySem.F.slot_tuple_getattribute.plain PySem.F.entry_tuple_ga (check_tga X' I ?_))
  refine wpAny_bind (wpAny_pure ?_)
  refine wpAny_bind (wpAny_pure ?_)
  refine wpAny_bind ((I.type (M := model Law w)).at (wpAny_bind ?_))
  refine (looks_find (M := model Law w) X' I (r := .bind (.ref 43) (.ref 124)) (by kernel_rfl)).at ?_
  show wpAny _ _ (bindTo _ _ _ _) _ _ _
  refine wpAny_bind (wpAny_holding ?_)
  refine wp_le (A' := ktrTop 500 1000 A.guards cn cs L a ccd cl outer) ?_ (hh.trans rfl) hdep (.inr hA.symm) (.inr rfl) (Nat.le_trans (Nat.le_succ _) hun)
  refine cut_getx (d := d) (x := x) (y := y) (tx := tx) (ty := ty) (news := news) (s := { s with toks := s.toks + 1 }) B F X (fun q hq => ?_) T hk (fun h' tk' F' N' => ?_)
  · rcases List.mem_cons.mp hq with rfl | hq
    · exact N _ hm
    · rcases List.mem_cons.mp hq with rfl | hq
      · exact N _ hd
      · exact N _ hq
  · refine wpAny_pure ?_
    exact wpAny_pure (k h' tk' F' fun q hq => N' q (.tail _ (.tail _ hq)))

theorem k_attry {p d : Addr} {x y : Int} {tx ty : Tok} (B : Below A₀ base outer h₀) (F : Fr h₀ L s.heap m) (X : (Mine.hd.heap_39 w.params).In h₀) (N : News h₀ L s.heap news) (T : Top Mine.hd.view_39 Loose mean mg mb h₀)
   (hm : (p, ptO d x tx y ty) ∈ news) (hd : (d, dO) ∈ news) (hA : A.frames = some (envX cn cs L a ccd cl :: outer)) (hk : cs.kind = .function) (hh : A.handled = none) (hdep : A.depth ≤ 500) (hun : A.units + 2 ≤ 1000)
   (k : ∀ (h' : Heap) (tk' : Nat), Fr h₀ L h' m → News h₀ L h' news → Q (.int y ty) { s with heap := h', toks := tk' }) : wpAny (model Law w) A (getAttr (.ref p) "y" expr) Q E s := by
  have X' := X.keeps F.keep
  have I := inst_pt N hm hd
  refine wpAny_bind (wpAny_mkText (wpAny_holding (wpAny_bind ?_)))
  have X'' : (Mine.hd.heap_39 w.params).In ({ s with toks := s.toks + 1 } : Shared).heap := X'
  refine (I.type (M := model Law w)).at (wpAny_bind ?_)
  refine (looks_findIn (M := model Law w) X' (r := some (.builtin "tuple.__getattribute__")) (by kernel_rfl)).at ?_
  show wpAny _ _ (getAttrByItsOwn _ _ _ _ _ _) _ _ _
  unfold getAttrByItsOwn
  refine wpAny_bind ((looks_findIn (M := model Law w) X' (r := none) (by kernel_rfl)).at ?_)
  refine wpAny_bind (wpAny_attempt (wpAny_holding ?_))
  have hcg : callGetattribute (.ref p) (.str "y" s.toks) (.builtin "tuple.__getattribute__") expr = boundAndCalled (.builtin "tuple.__getattribute__") (.ref p) (.str "y" s.toks) := by
    unfold callGetattribute
    rw [show onTheHeap (.builtin "tuple.__getattribute__") = false from rfl, Bool.and_false]
    rfl
  rw [hcg]
  unfold boundAndCalled
  rw [PySem.F.slot_tuple_getattribute.bind (.ref p)]
  refine wpAny_bind (wpAny_pure ?_)
  refine wpAny_call (codeAny_call_builtin PySem.F.slot_tuple_getattribute.plain PySem.F.entry_tuple_ga (check_tga X' I ?_))
  refine wpAny_bind (wpAny_pure ?_)
  refine wpAny_bind (wpAny_pure ?_)
  refine wpAny_bind ((I.type (M := model Law w)).at (wpAny_bind ?_))
  refine (looks_find (M := model Law w) X' I (r := .bind (.ref 43) (.ref 127)) (by kernel_rfl)).at ?_
  show wpAny _ _ (bindTo _ _ _ _) _ _ _
  refine wpAny_bind (wpAny_holding ?_)
  refine wp_le (A' := ktrTop 500 1000 A.guards cn cs L a ccd cl outer) ?_ (hh.trans rfl) hdep (.inr hA.symm) (.inr rfl) (Nat.le_trans (Nat.le_succ _) hun)
  refine cut_gety (d := d) (x := x) (y := y) (tx := tx) (ty := ty) (news := news) (s := { s with toks := s.toks + 1 }) B F X (fun q hq => ?_) T hk (fun h' tk' F' N' => ?_)
  · rcases List.mem_cons.mp hq with rfl | hq
    · exact N _ hm
    · rcases List.mem_cons.mp hq with rfl | hq
      · exact N _ hd
      · exact N _ hq
  · refine wpAny_pure ?_
    exact wpAny_pure (k h' tk' F' fun q hq => N' q (.tail _ (.tail _ hq)))

end
end Mine
namespace Mine
local macro_rules | `(tactic| walk_at "call ref") => `(tactic| (k_here; (with_reducible show wpAny _ _ (PySem.call (Value.ref 132) [Value.int _ _, Value.int _ _]) _ _ _); k_dflt (refine' k_point ?F ?X ?N ?hh ?hd ?hu ?_; (case F => k_asm); (case X => k_asm); (case N => k_asm); (case hh => exact rfl); (case hd => exact Nat.le_of_ble_eq_true rfl); (case hu => exact Nat.le_of_ble_eq_true rfl); k_whole); intro p' d' h' t' F' N'; (try k_sweep); (try dsimp only)))
local macro_rules | `(tactic| k_mem) => `(tactic| (with_reducible_and_instances show (_ : Addr × Obj) ∈ (_ : List (Addr × Obj)); ktr_member))
local macro_rules | `(tactic| bits_by_make) => `(tactic| with_reducible assumption)
section
variable {w : World} {mean : ExcName → Option Value} {mg mb : Str → Option Value} {gd : Option (List Code)} {cn : Str} {cs : Scope} {a : Addr} {ccd : Value} {cl : List (Str × Addr)} {outer : List Env} {A A₀ : Around} {base h₀ : Heap} {L : Addr} {m : Str → Option Value} {news : List (Addr × Obj)} {s : Shared} {Q E : Value → Shared → Prop}

theorem cut_lawpoint {q : Addr} {x y : Int} {tx ty : Tok} (B : Below A₀ base outer h₀) (F : Fr h₀ L s.heap m) (X : (Mine.hd.heap_39 w.params).In h₀) (N : News h₀ L s.heap news) (T : Top Mine.hd.view_39 Loose mean mg mb h₀) (hk : cs.kind = .function) (hq : (q, tupO x tx y ty) ∈ news)
    (ret : ∀ (p d : Addr) (h' : Heap) (tk' : Nat), Fr h₀ L h' m → News h₀ L h' ((p, ptO d x tx y ty) :: (d, dO) :: news) → Q (.ref p) { s with heap := h', toks := tk' }) : wpAny (model Law w) (ktrTop 450 900 gd cn cs L a ccd cl outer) (PySem.call (.ref 292) [.ref q]) Q E s := by
  refine wpAny_call ?_
  k_dflt (refine' code_def (binds := [(PySem.Str.ofString "place", (.ref q : Value))]) ?k1 ?k2 ?k3 ?k4 ?k5 ?kA ?kF ?kK ?k6 ?k7 ?k8 ?k9 ?kB ?_ ?c2 ?c3 ?c4 ?c5; (case kA => exact rfl); (case kF => exact rfl); (case kK => assumption); (case k1 => k_asm); (case k2 => k_asm); (case k3 => k_asm); (case k4 => k_asm); (case k5 => k_asm); (case k6 => k_is); (case k7 => k_is); (case k8 => ktr_room); (case k9 => first | exact BindsTo.of_eq rfl | exact binds_K (by k_in) rfl (by k_is) rfl rfl rfl); (case c5 => decide); (case kB => exact locs rfl); (case c2 => exact rfl); (case c3 => exact rfl); (case c4 => exact rfl); k_whole; intro g' L' h' FG' F' N' B' X' T'; (try dsimp only); (try k_lift B'); (try k_fold))
  w_top off
  k_steps
  all_goals exact ret _ _ _ _ (by k_asm) (by first | k_asm | exact cb_drop (by assumption) (by (intro p hp; (repeat (first | with_reducible exact hp | refine List.mem_cons_of_mem _ ?_)); done)) | exact cb_drop (by assumption) (by kcj_all))
theorem k_lawpoint {q : Addr} {x y : Int} {tx ty : Tok} (B : Below A₀ base outer h₀) (F : Fr h₀ L s.heap m) (X : (Mine.hd.heap_39 w.params).In h₀) (N : News h₀ L s.heap news) (T : Top Mine.hd.view_39 Loose mean mg mb h₀) (hq : (q, tupO x tx y ty) ∈ news) (hA : A.frames = some (envX cn cs L a ccd cl :: outer)) (hk : cs.kind = .function) (hh : A.handled = none) (hdep : A.depth ≤ 450) (hun : A.units ≤ 900)
    (ret : ∀ (p d : Addr) (h' : Heap) (tk' : Nat), Fr h₀ L h' m → News h₀ L h' ((p, ptO d x tx y ty) :: (d, dO) :: news) → Q (.ref p) { s with heap := h', toks := tk' }) : wpAny (model Law w) A (PySem.call (.ref 292) [.ref q]) Q E s :=
  wp_le (A' := ktrTop 450 900 A.guards cn cs L a ccd cl outer) (cut_lawpoint B F X N T hk hq ret) (hh.trans rfl) hdep (.inr hA.symm) (.inr rfl) hun
end
end Mine
namespace Mine

def inC (xP yP xA yA xB yB xC yC : Int) : Int := ((xA - xP) * (xA - xP) + (yA - yP) * (yA - yP)) * ((xB - xP) * (yC - yP) - (yB - yP) * (xC - xP)) + ((xB - xP) * (xB - xP) + (yB - yP) * (yB - yP)) * ((xC - xP) * (yA - yP) - (yC - yP) * (xA - xP)) + ((xC - xP) * (xC - xP) + (yC - yP) * (yC - yP)) * ((xA - xP) * (yB - yP) - (yA - yP) * (xB - xP))
def orient (xV yV xF yF xG yG : Int) : Int := (xF - xV) * (yG - yV) - (yF - yV) * (xG - xV)
def areaP (xA yA xB yB xC yC : Int) : Int := xA * yB - xB * yA + xB * yC - xC * yB + xC * yA - xA * yC
def SaysL (r : Addr) (p : Int) : Prop := (0 < p → r = 201) ∧ (p < 0 → r = 195) ∧ (p = 0 → r = 198)
def SaysO (r : Addr) (p : Int) : Prop := (0 < p → r = 178) ∧ (p < 0 → r = 172) ∧ (p = 0 → r = 175)
def wayA (p : Int) : Addr := if 0 < p then 178 else if p < 0 then 172 else 175
def wordA (g : Int) : Addr := if g < 0 then 201 else if 0 < g then 195 else 198
theorem wayA_says (p : Int) : SaysO (wayA p) p := ⟨fun h => by unfold wayA; rw [if_pos h], fun h => by unfold wayA; rw [if_neg (by omega), if_pos h], fun h => by unfold wayA; rw [if_neg (by omega), if_neg (by omega)]⟩
theorem wordA_says (g : Int) : SaysL (wordA g) (-g) := ⟨fun h => by unfold wordA; rw [if_pos (by omega)], fun h => by unfold wordA; rw [if_neg (by omega), if_pos (by omega)], fun h => by unfold wordA; rw [if_neg (by omega), if_neg (by omega)]⟩
theorem bits_areaP {xA yA xB yB xC yC : Int} {n : Nat} (h1 : Builtin.Int.intBits xA ≤ n) (h2 : Builtin.Int.intBits yA ≤ n) (h3 : Builtin.Int.intBits xB ≤ n) (h4 : Builtin.Int.intBits yB ≤ n) (h5 : Builtin.Int.intBits xC ≤ n) (h6 : Builtin.Int.intBits yC ≤ n) : Builtin.Int.intBits (areaP xA yA xB yB xC yC) ≤ n + n + 5 := by
  unfold areaP
  refine Nat.le_trans (bits_sub (bits_add (bits_sub (bits_add (bits_sub (bits_mul h1 h4) (bits_mul h3 h2)) (bits_mul h3 h6)) (bits_mul h5 h4)) (bits_mul h5 h2)) (bits_mul h1 h6)) ?_
  omega
theorem bits_area1 {xA yA xB yB xC yC : Int} (h1 : Builtin.Int.intBits xA ≤ 1100000) (h2 : Builtin.Int.intBits yA ≤ 1100000) (h3 : Builtin.Int.intBits xB ≤ 1100000) (h4 : Builtin.Int.intBits yB ≤ 1100000) (h5 : Builtin.Int.intBits xC ≤ 1100000) (h6 : Builtin.Int.intBits yC ≤ 1100000) : Builtin.Int.intBits (areaP xA yA xB yB xC yC) ≤ 2200005 :=
  bits_areaP h1 h2 h3 h4 h5 h6
local macro_rules | `(tactic| walk_at "call ref") => `(tactic| (k_here; (with_reducible show wpAny _ _ (PySem.call (Value.ref 132) [Value.int _ _, Value.int _ _]) _ _ _); k_dflt (refine' k_point ?F ?X ?N ?hh ?hd ?hu ?_; (case F => k_asm); (case X => k_asm); (case N => k_asm); (case hh => exact rfl); (case hd => exact Nat.le_of_ble_eq_true rfl); (case hu => exact Nat.le_of_ble_eq_true rfl); k_whole); intro p' d' h' t' F' N'; (try k_sweep); (try dsimp only)))
local macro_rules | `(tactic| walk_at "getAttr ref") => `(tactic| (k_here; (with_reducible show wpAny _ _ (getAttr (Value.ref _) (PySem.Str.ofString "x") _) _ _ _); k_dflt (refine' k_attrx ?B ?F ?X ?N ?T ?hm ?hd ?hA ?hk ?hh ?hdep ?hun ?_; (case B => k_asm); (case F => k_asm); (case X => k_asm); (case N => k_asm); (case T => k_asm); (case hA => exact rfl); (case hk => first | exact rfl | assumption); (case hh => exact rfl); (case hdep => exact Nat.le_of_ble_eq_true rfl); (case hun => exact Nat.le_of_ble_eq_true rfl); (case hm => k_mem); (case hd => k_mem); k_whole); intro h' t' F' N'; (try k_sweep); (try dsimp only)))
local macro_rules | `(tactic| walk_at "getAttr ref") => `(tactic| (k_here; (with_reducible show wpAny _ _ (getAttr (Value.ref _) (PySem.Str.ofString "y") _) _ _ _); k_dflt (refine' k_attry ?B ?F ?X ?N ?T ?hm ?hd ?hA ?hk ?hh ?hdep ?hun ?_; (case B => k_asm); (case F => k_asm); (case X => k_asm); (case N => k_asm); (case T => k_asm); (case hA => exact rfl); (case hk => first | exact rfl | assumption); (case hh => exact rfl); (case hdep => exact Nat.le_of_ble_eq_true rfl); (case hun => exact Nat.le_of_ble_eq_true rfl); (case hm => k_mem); (case hd => k_mem); k_whole); intro h' t' F' N'; (try k_sweep); (try dsimp only)))
local macro_rules | `(tactic| k_mem) => `(tactic| (with_reducible_and_instances show (_ : Addr × Obj) ∈ (_ : List (Addr × Obj)); ktr_member))
local macro_rules | `(tactic| bits_by_make) => `(tactic| with_reducible assumption)
section
variable {w : World} {mean : ExcName → Option Value} {mg mb : Str → Option Value} {gd : Option (List Code)} {cn : Str} {cs : Scope} {a : Addr} {ccd : Value} {cl : List (Str × Addr)} {outer : List Env} {A A₀ : Around} {base h₀ : Heap} {L : Addr} {m : Str → Option Value} {news : List (Addr × Obj)} {s : Shared} {Q E : Value → Shared → Prop}

theorem cut_angle {ctx r : Addr} {pV dV : Addr} {xV yV : Int} {uV vV : Tok} {pF dF : Addr} {xF yF : Int} {uF vF : Tok} {pG dG : Addr} {xG yG : Int} {uG vG : Tok} (B : Below A₀ base outer h₀) (F : Fr h₀ L s.heap m) (X : (Mine.hd.heap_39 w.params).In h₀) (N : News h₀ L s.heap news) (T : Top Mine.hd.view_39 Loose mean mg mb h₀) (hk : cs.kind = .function) (hpV : (pV, ptO dV xV uV yV vV) ∈ news) (hdV : (dV, dO) ∈ news) (hpF : (pF, ptO dF xF uF yF vF) ∈ news) (hdF : (dF, dO) ∈ news) (hpG : (pG, ptO dG xG uG yG vG) ∈ news) (hdG : (dG, dO) ∈ news) (bxV : Builtin.Int.intBits xV ≤ 1100000) (byV : Builtin.Int.intBits yV ≤ 1100000) (bxF : Builtin.Int.intBits xF ≤ 1100000) (byF : Builtin.Int.intBits yF ≤ 1100000) (bxG : Builtin.Int.intBits xG ≤ 1100000) (byG : Builtin.Int.intBits yG ≤ 1100000) (hs : SaysO r (orient xV yV xF yF xG yG))
    (ret : ∀  (h' : Heap) (tk' : Nat), Fr h₀ L h' m → News h₀ L h' news → Q (.ref r) { s with heap := h', toks := tk' }) : wpAny (model Law w) (ktrTop 460 920 gd cn cs L a ccd cl outer) (PySem.call (.ref 251) [.ref ctx, .ref pV, .ref pF, .ref pG]) Q E s := by
  unfold SaysO orient at hs
  obtain ⟨h1, h2, h3⟩ := hs
  refine wpAny_call ?_
  k_dflt (refine' code_def (binds := [(PySem.Str.ofString "self", (.ref ctx : Value)), (PySem.Str.ofString "vertex", (.ref pV : Value)), (PySem.Str.ofString "first", (.ref pF : Value)), (PySem.Str.ofString "second", (.ref pG : Value))]) ?k1 ?k2 ?k3 ?k4 ?k5 ?kA ?kF ?kK ?k6 ?k7 ?k8 ?k9 ?kB ?_ ?c2 ?c3 ?c4 ?c5; (case kA => exact rfl); (case kF => exact rfl); (case kK => assumption); (case k1 => k_asm); (case k2 => k_asm); (case k3 => k_asm); (case k4 => k_asm); (case k5 => k_asm); (case k6 => k_is); (case k7 => k_is); (case k8 => ktr_room); (case k9 => first | exact BindsTo.of_eq rfl | exact binds_K (by k_in) rfl (by k_is) rfl rfl rfl); (case c5 => decide); (case kB => exact locs rfl); (case c2 => exact rfl); (case c3 => exact rfl); (case c4 => exact rfl); k_whole; intro g' L' h' FG' F' N' B' X' T'; (try dsimp only); (try k_lift B'); (try k_fold))
  w_top off
  k_steps
  all_goals first
    | (have e := h1 (by assumption); subst e; exact ret _ _ (by k_asm) (by first | k_asm | exact cb_drop (by assumption) (by (intro p hp; (repeat (first | with_reducible exact hp | refine List.mem_cons_of_mem _ ?_)); done)) | exact cb_drop (by assumption) (by kcj_all)))
    | (have e := h2 (by assumption); subst e; exact ret _ _ (by k_asm) (by first | k_asm | exact cb_drop (by assumption) (by (intro p hp; (repeat (first | with_reducible exact hp | refine List.mem_cons_of_mem _ ?_)); done)) | exact cb_drop (by assumption) (by kcj_all)))
    | (have e := h3 (Int.le_antisymm (Int.not_lt.mp (by assumption)) (Int.not_lt.mp (by assumption))); subst e; exact ret _ _ (by k_asm) (by first | k_asm | exact cb_drop (by assumption) (by (intro p hp; (repeat (first | with_reducible exact hp | refine List.mem_cons_of_mem _ ?_)); done)) | exact cb_drop (by assumption) (by kcj_all)))
theorem k_angle {ctx r : Addr} {pV dV : Addr} {xV yV : Int} {uV vV : Tok} {pF dF : Addr} {xF yF : Int} {uF vF : Tok} {pG dG : Addr} {xG yG : Int} {uG vG : Tok} (B : Below A₀ base outer h₀) (F : Fr h₀ L s.heap m) (X : (Mine.hd.heap_39 w.params).In h₀) (N : News h₀ L s.heap news) (T : Top Mine.hd.view_39 Loose mean mg mb h₀) (hpV : (pV, ptO dV xV uV yV vV) ∈ news) (hdV : (dV, dO) ∈ news) (hpF : (pF, ptO dF xF uF yF vF) ∈ news) (hdF : (dF, dO) ∈ news) (hpG : (pG, ptO dG xG uG yG vG) ∈ news) (hdG : (dG, dO) ∈ news) (bxV : Builtin.Int.intBits xV ≤ 1100000) (byV : Builtin.Int.intBits yV ≤ 1100000) (bxF : Builtin.Int.intBits xF ≤ 1100000) (byF : Builtin.Int.intBits yF ≤ 1100000) (bxG : Builtin.Int.intBits xG ≤ 1100000) (byG : Builtin.Int.intBits yG ≤ 1100000) (hs : SaysO r (orient xV yV xF yF xG yG)) (hA : A.frames = some (envX cn cs L a ccd cl :: outer)) (hk : cs.kind = .function) (hh : A.handled = none) (hdep : A.depth ≤ 460) (hun : A.units ≤ 920)
    (ret : ∀  (h' : Heap) (tk' : Nat), Fr h₀ L h' m → News h₀ L h' news → Q (.ref r) { s with heap := h', toks := tk' }) : wpAny (model Law w) A (PySem.call (.ref 251) [.ref ctx, .ref pV, .ref pF, .ref pG]) Q E s :=
  wp_le (A' := ktrTop 460 920 A.guards cn cs L a ccd cl outer) (cut_angle B F X N T hk hpV hdV hpF hdF hpG hdG bxV byV bxF byF bxG byG hs ret) (hh.trans rfl) hdep (.inr hA.symm) (.inr rfl) hun

theorem cut_locate {ctx r : Addr} {pP dP : Addr} {xP yP : Int} {uP vP : Tok} {pA dA : Addr} {xA yA : Int} {uA vA : Tok} {pB dB : Addr} {xB yB : Int} {uB vB : Tok} {pC dC : Addr} {xC yC : Int} {uC vC : Tok} (B : Below A₀ base outer h₀) (F : Fr h₀ L s.heap m) (X : (Mine.hd.heap_39 w.params).In h₀) (N : News h₀ L s.heap news) (T : Top Mine.hd.view_39 Loose mean mg mb h₀) (hk : cs.kind = .function) (hpP : (pP, ptO dP xP uP yP vP) ∈ news) (hdP : (dP, dO) ∈ news) (hpA : (pA, ptO dA xA uA yA vA) ∈ news) (hdA : (dA, dO) ∈ news) (hpB : (pB, ptO dB xB uB yB vB) ∈ news) (hdB : (dB, dO) ∈ news) (hpC : (pC, ptO dC xC uC yC vC) ∈ news) (hdC : (dC, dO) ∈ news) (bxP : Builtin.Int.intBits xP ≤ 1100000) (byP : Builtin.Int.intBits yP ≤ 1100000) (bxA : Builtin.Int.intBits xA ≤ 1100000) (byA : Builtin.Int.intBits yA ≤ 1100000) (bxB : Builtin.Int.intBits xB ≤ 1100000) (byB : Builtin.Int.intBits yB ≤ 1100000) (bxC : Builtin.Int.intBits xC ≤ 1100000) (byC : Builtin.Int.intBits yC ≤ 1100000) (hs : SaysL r (inC xP yP xA yA xB yB xC yC))
    (ret : ∀  (h' : Heap) (tk' : Nat), Fr h₀ L h' m → News h₀ L h' news → Q (.ref r) { s with heap := h', toks := tk' }) : wpAny (model Law w) (ktrTop 460 920 gd cn cs L a ccd cl outer) (PySem.call (.ref 258) [.ref ctx, .ref pP, .ref pA, .ref pB, .ref pC]) Q E s := by
  unfold SaysL inC at hs
  obtain ⟨h1, h2, h3⟩ := hs
  refine wpAny_call ?_
  k_dflt (refine' code_def (binds := [(PySem.Str.ofString "self", (.ref ctx : Value)), (PySem.Str.ofString "point", (.ref pP : Value)), (PySem.Str.ofString "first", (.ref pA : Value)), (PySem.Str.ofString "second", (.ref pB : Value)), (PySem.Str.ofString "third", (.ref pC : Value))]) ?k1 ?k2 ?k3 ?k4 ?k5 ?kA ?kF ?kK ?k6 ?k7 ?k8 ?k9 ?kB ?_ ?c2 ?c3 ?c4 ?c5; (case kA => exact rfl); (case kF => exact rfl); (case kK => assumption); (case k1 => k_asm); (case k2 => k_asm); (case k3 => k_asm); (case k4 => k_asm); (case k5 => k_asm); (case k6 => k_is); (case k7 => k_is); (case k8 => ktr_room); (case k9 => first | exact BindsTo.of_eq rfl | exact binds_K (by k_in) rfl (by k_is) rfl rfl rfl); (case c5 => decide); (case kB => exact locs rfl); (case c2 => exact rfl); (case c3 => exact rfl); (case c4 => exact rfl); k_whole; intro g' L' h' FG' F' N' B' X' T'; (try dsimp only); (try k_lift B'); (try k_fold))
  w_top off
  k_steps
  all_goals first
    | (have e := h1 (by assumption); subst e; exact ret _ _ (by k_asm) (by first | k_asm | exact cb_drop (by assumption) (by (intro p hp; (repeat (first | with_reducible exact hp | refine List.mem_cons_of_mem _ ?_)); done)) | exact cb_drop (by assumption) (by kcj_all)))
    | (have e := h2 (by assumption); subst e; exact ret _ _ (by k_asm) (by first | k_asm | exact cb_drop (by assumption) (by (intro p hp; (repeat (first | with_reducible exact hp | refine List.mem_cons_of_mem _ ?_)); done)) | exact cb_drop (by assumption) (by kcj_all)))
    | (have e := h3 (Int.le_antisymm (Int.not_lt.mp (by assumption)) (Int.not_lt.mp (by assumption))); subst e; exact ret _ _ (by k_asm) (by first | k_asm | exact cb_drop (by assumption) (by (intro p hp; (repeat (first | with_reducible exact hp | refine List.mem_cons_of_mem _ ?_)); done)) | exact cb_drop (by assumption) (by kcj_all)))
theorem k_locate {ctx r : Addr} {pP dP : Addr} {xP yP : Int} {uP vP : Tok} {pA dA : Addr} {xA yA : Int} {uA vA : Tok} {pB dB : Addr} {xB yB : Int} {uB vB : Tok} {pC dC : Addr} {xC yC : Int} {uC vC : Tok} (B : Below A₀ base outer h₀) (F : Fr h₀ L s.heap m) (X : (Mine.hd.heap_39 w.params).In h₀) (N : News h₀ L s.heap news) (T : Top Mine.hd.view_39 Loose mean mg mb h₀) (hpP : (pP, ptO dP xP uP yP vP) ∈ news) (hdP : (dP, dO) ∈ news) (hpA : (pA, ptO dA xA uA yA vA) ∈ news) (hdA : (dA, dO) ∈ news) (hpB : (pB, ptO dB xB uB yB vB) ∈ news) (hdB : (dB, dO) ∈ news) (hpC : (pC, ptO dC xC uC yC vC) ∈ news) (hdC : (dC, dO) ∈ news) (bxP : Builtin.Int.intBits xP ≤ 1100000) (byP : Builtin.Int.intBits yP ≤ 1100000) (bxA : Builtin.Int.intBits xA ≤ 1100000) (byA : Builtin.Int.intBits yA ≤ 1100000) (bxB : Builtin.Int.intBits xB ≤ 1100000) (byB : Builtin.Int.intBits yB ≤ 1100000) (bxC : Builtin.Int.intBits xC ≤ 1100000) (byC : Builtin.Int.intBits yC ≤ 1100000) (hs : SaysL r (inC xP yP xA yA xB yB xC yC)) (hA : A.frames = some (envX cn cs L a ccd cl :: outer)) (hk : cs.kind = .function) (hh : A.handled = none) (hdep : A.depth ≤ 460) (hun : A.units ≤ 920)
    (ret : ∀  (h' : Heap) (tk' : Nat), Fr h₀ L h' m → News h₀ L h' news → Q (.ref r) { s with heap := h', toks := tk' }) : wpAny (model Law w) A (PySem.call (.ref 258) [.ref ctx, .ref pP, .ref pA, .ref pB, .ref pC]) Q E s :=
  wp_le (A' := ktrTop 460 920 A.guards cn cs L a ccd cl outer) (cut_locate B F X N T hk hpP hdP hpA hdA hpB hdB hpC hdC bxP byP bxA byA bxB byB bxC byC hs ret) (hh.trans rfl) hdep (.inr hA.symm) (.inr rfl) hun
end
end Mine
namespace Mine
local macro_rules | `(tactic| k_mem) => `(tactic| (with_reducible_and_instances show (_ : Addr × Obj) ∈ (_ : List (Addr × Obj)); ktr_member))
local macro_rules | `(tactic| bits_by_make) => `(tactic| with_reducible assumption)
section
variable {w : World} {mean : ExcName → Option Value} {mg mb : Str → Option Value} {gd : Option (List Code)} {cn : Str} {cs : Scope} {a : Addr} {ccd : Value} {cl : List (Str × Addr)} {outer : List Env} {A A₀ : Around} {base h₀ : Heap} {L : Addr} {m : Str → Option Value} {news : List (Addr × Obj)} {s : Shared} {Q E : Value → Shared → Prop}

theorem cut_word {g : Int} {t : Tok} {r : Addr} (B : Below A₀ base outer h₀) (F : Fr h₀ L s.heap m) (X : (Mine.hd.heap_39 w.params).In h₀) (N : News h₀ L s.heap news) (T : Top Mine.hd.view_39 Loose mean mg mb h₀) (hk : cs.kind = .function) (hs : SaysL r (-g))
    (ret : ∀  (h' : Heap) (tk' : Nat), Fr h₀ L h' m → News h₀ L h' news → Q (.ref r) { s with heap := h', toks := tk' }) : wpAny (model Law w) (ktrTop 450 900 gd cn cs L a ccd cl outer) (PySem.call (.ref 299) [.int g t]) Q E s := by
  unfold SaysL at hs
  obtain ⟨h1, h2, h3⟩ := hs
  refine wpAny_call ?_
  k_dflt (refine' code_def (binds := [(PySem.Str.ofString "gap", (.int g t : Value))]) ?k1 ?k2 ?k3 ?k4 ?k5 ?kA ?kF ?kK ?k6 ?k7 ?k8 ?k9 ?kB ?_ ?c2 ?c3 ?c4 ?c5; (case kA => exact rfl); (case kF => exact rfl); (case kK => assumption); (case k1 => k_asm); (case k2 => k_asm); (case k3 => k_asm); (case k4 => k_asm); (case k5 => k_asm); (case k6 => k_is); (case k7 => k_is); (case k8 => ktr_room); (case k9 => first | exact BindsTo.of_eq rfl | exact binds_K (by k_in) rfl (by k_is) rfl rfl rfl); (case c5 => decide); (case kB => exact locs rfl); (case c2 => exact rfl); (case c3 => exact rfl); (case c4 => exact rfl); k_whole; intro g' L' h' FG' F' N' B' X' T'; (try dsimp only); (try k_lift B'); (try k_fold))
  w_top off
  k_steps
  all_goals first
    | (have e := h1 (by omega); subst e; exact ret _ _ (by k_asm) (by first | k_asm | exact cb_drop (by assumption) (by (intro p hp; (repeat (first | with_reducible exact hp | refine List.mem_cons_of_mem _ ?_)); done)) | exact cb_drop (by assumption) (by kcj_all)))
    | (have e := h2 (by omega); subst e; exact ret _ _ (by k_asm) (by first | k_asm | exact cb_drop (by assumption) (by (intro p hp; (repeat (first | with_reducible exact hp | refine List.mem_cons_of_mem _ ?_)); done)) | exact cb_drop (by assumption) (by kcj_all)))
    | (have e := h3 (by omega); subst e; exact ret _ _ (by k_asm) (by first | k_asm | exact cb_drop (by assumption) (by (intro p hp; (repeat (first | with_reducible exact hp | refine List.mem_cons_of_mem _ ?_)); done)) | exact cb_drop (by assumption) (by kcj_all)))
theorem k_word {g : Int} {t : Tok} {r : Addr} (B : Below A₀ base outer h₀) (F : Fr h₀ L s.heap m) (X : (Mine.hd.heap_39 w.params).In h₀) (N : News h₀ L s.heap news) (T : Top Mine.hd.view_39 Loose mean mg mb h₀) (hs : SaysL r (-g)) (hA : A.frames = some (envX cn cs L a ccd cl :: outer)) (hk : cs.kind = .function) (hh : A.handled = none) (hdep : A.depth ≤ 450) (hun : A.units ≤ 900)
    (ret : ∀  (h' : Heap) (tk' : Nat), Fr h₀ L h' m → News h₀ L h' news → Q (.ref r) { s with heap := h', toks := tk' }) : wpAny (model Law w) A (PySem.call (.ref 299) [.int g t]) Q E s :=
  wp_le (A' := ktrTop 450 900 A.guards cn cs L a ccd cl outer) (cut_word B F X N T hk hs ret) (hh.trans rfl) hdep (.inr hA.symm) (.inr rfl) hun

theorem cut_way {g : Int} {t : Tok} {r : Addr} (B : Below A₀ base outer h₀) (F : Fr h₀ L s.heap m) (X : (Mine.hd.heap_39 w.params).In h₀) (N : News h₀ L s.heap news) (T : Top Mine.hd.view_39 Loose mean mg mb h₀) (hk : cs.kind = .function) (hs : SaysO r g)
    (ret : ∀  (h' : Heap) (tk' : Nat), Fr h₀ L h' m → News h₀ L h' news → Q (.ref r) { s with heap := h', toks := tk' }) : wpAny (model Law w) (ktrTop 450 900 gd cn cs L a ccd cl outer) (PySem.call (.ref 306) [.int g t]) Q E s := by
  unfold SaysO at hs
  obtain ⟨h1, h2, h3⟩ := hs
  refine wpAny_call ?_
  k_dflt (refine' code_def (binds := [(PySem.Str.ofString "area", (.int g t : Value))]) ?k1 ?k2 ?k3 ?k4 ?k5 ?kA ?kF ?kK ?k6 ?k7 ?k8 ?k9 ?kB ?_ ?c2 ?c3 ?c4 ?c5; (case kA => exact rfl); (case kF => exact rfl); (case kK => assumption); (case k1 => k_asm); (case k2 => k_asm); (case k3 => k_asm); (case k4 => k_asm); (case k5 => k_asm); (case k6 => k_is); (case k7 => k_is); (case k8 => ktr_room); (case k9 => first | exact BindsTo.of_eq rfl | exact binds_K (by k_in) rfl (by k_is) rfl rfl rfl); (case c5 => decide); (case kB => exact locs rfl); (case c2 => exact rfl); (case c3 => exact rfl); (case c4 => exact rfl); k_whole; intro g' L' h' FG' F' N' B' X' T'; (try dsimp only); (try k_lift B'); (try k_fold))
  w_top off
  k_steps
  all_goals first
    | (have e := h1 (by omega); subst e; exact ret _ _ (by k_asm) (by first | k_asm | exact cb_drop (by assumption) (by (intro p hp; (repeat (first | with_reducible exact hp | refine List.mem_cons_of_mem _ ?_)); done)) | exact cb_drop (by assumption) (by kcj_all)))
    | (have e := h2 (by omega); subst e; exact ret _ _ (by k_asm) (by first | k_asm | exact cb_drop (by assumption) (by (intro p hp; (repeat (first | with_reducible exact hp | refine List.mem_cons_of_mem _ ?_)); done)) | exact cb_drop (by assumption) (by kcj_all)))
    | (have e := h3 (by omega); subst e; exact ret _ _ (by k_asm) (by first | k_asm | exact cb_drop (by assumption) (by (intro p hp; (repeat (first | with_reducible exact hp | refine List.mem_cons_of_mem _ ?_)); done)) | exact cb_drop (by assumption) (by kcj_all)))
theorem k_way {g : Int} {t : Tok} {r : Addr} (B : Below A₀ base outer h₀) (F : Fr h₀ L s.heap m) (X : (Mine.hd.heap_39 w.params).In h₀) (N : News h₀ L s.heap news) (T : Top Mine.hd.view_39 Loose mean mg mb h₀) (hs : SaysO r g) (hA : A.frames = some (envX cn cs L a ccd cl :: outer)) (hk : cs.kind = .function) (hh : A.handled = none) (hdep : A.depth ≤ 450) (hun : A.units ≤ 900)
    (ret : ∀  (h' : Heap) (tk' : Nat), Fr h₀ L h' m → News h₀ L h' news → Q (.ref r) { s with heap := h', toks := tk' }) : wpAny (model Law w) A (PySem.call (.ref 306) [.int g t]) Q E s :=
  wp_le (A' := ktrTop 450 900 A.guards cn cs L a ccd cl outer) (cut_way B F X N T hk hs ret) (hh.trans rfl) hdep (.inr hA.symm) (.inr rfl) hun

theorem cut_area {qA : Addr} {xA yA : Int} {uA vA : Tok} {qB : Addr} {xB yB : Int} {uB vB : Tok} {qC : Addr} {xC yC : Int} {uC vC : Tok} (B : Below A₀ base outer h₀) (F : Fr h₀ L s.heap m) (X : (Mine.hd.heap_39 w.params).In h₀) (N : News h₀ L s.heap news) (T : Top Mine.hd.view_39 Loose mean mg mb h₀) (hk : cs.kind = .function) (hqA : (qA, tupO xA uA yA vA) ∈ news) (hqB : (qB, tupO xB uB yB vB) ∈ news) (hqC : (qC, tupO xC uC yC vC) ∈ news) (bxA : Builtin.Int.intBits xA ≤ 1100000) (byA : Builtin.Int.intBits yA ≤ 1100000) (bxB : Builtin.Int.intBits xB ≤ 1100000) (byB : Builtin.Int.intBits yB ≤ 1100000) (bxC : Builtin.Int.intBits xC ≤ 1100000) (byC : Builtin.Int.intBits yC ≤ 1100000)
    (ret : ∀ (t : Tok) (h' : Heap) (tk' : Nat), Fr h₀ L h' m → News h₀ L h' news → Q (.int (areaP xA yA xB yB xC yC) t) { s with heap := h', toks := tk' }) : wpAny (model Law w) (ktrTop 450 900 gd cn cs L a ccd cl outer) (PySem.call (.ref 285) [.ref qA, .ref qB, .ref qC]) Q E s := by
  refine wpAny_call ?_
  k_dflt (refine' code_def (binds := [(PySem.Str.ofString "a", (.ref qA : Value)), (PySem.Str.ofString "b", (.ref qB : Value)), (PySem.Str.ofString "c", (.ref qC : Value))]) ?k1 ?k2 ?k3 ?k4 ?k5 ?kA ?kF ?kK ?k6 ?k7 ?k8 ?k9 ?kB ?_ ?c2 ?c3 ?c4 ?c5; (case kA => exact rfl); (case kF => exact rfl); (case kK => assumption); (case k1 => k_asm); (case k2 => k_asm); (case k3 => k_asm); (case k4 => k_asm); (case k5 => k_asm); (case k6 => k_is); (case k7 => k_is); (case k8 => ktr_room); (case k9 => first | exact BindsTo.of_eq rfl | exact binds_K (by k_in) rfl (by k_is) rfl rfl rfl); (case c5 => decide); (case kB => exact locs rfl); (case c2 => exact rfl); (case c3 => exact rfl); (case c4 => exact rfl); k_whole; intro g' L' h' FG' F' N' B' X' T'; (try dsimp only); (try k_lift B'); (try k_fold))
  w_top off
  k_steps
  all_goals exact ret _ _ _ (by k_asm) (by first | k_asm | exact cb_drop (by assumption) (by (intro p hp; (repeat (first | with_reducible exact hp | refine List.mem_cons_of_mem _ ?_)); done)) | exact cb_drop (by assumption) (by kcj_all))
theorem k_area {qA : Addr} {xA yA : Int} {uA vA : Tok} {qB : Addr} {xB yB : Int} {uB vB : Tok} {qC : Addr} {xC yC : Int} {uC vC : Tok} (B : Below A₀ base outer h₀) (F : Fr h₀ L s.heap m) (X : (Mine.hd.heap_39 w.params).In h₀) (N : News h₀ L s.heap news) (T : Top Mine.hd.view_39 Loose mean mg mb h₀) (hqA : (qA, tupO xA uA yA vA) ∈ news) (hqB : (qB, tupO xB uB yB vB) ∈ news) (hqC : (qC, tupO xC uC yC vC) ∈ news) (bxA : Builtin.Int.intBits xA ≤ 1100000) (byA : Builtin.Int.intBits yA ≤ 1100000) (bxB : Builtin.Int.intBits xB ≤ 1100000) (byB : Builtin.Int.intBits yB ≤ 1100000) (bxC : Builtin.Int.intBits xC ≤ 1100000) (byC : Builtin.Int.intBits yC ≤ 1100000) (hA : A.frames = some (envX cn cs L a ccd cl :: outer)) (hk : cs.kind = .function) (hh : A.handled = none) (hdep : A.depth ≤ 450) (hun : A.units ≤ 900)
    (ret : ∀ (t : Tok) (h' : Heap) (tk' : Nat), Fr h₀ L h' m → News h₀ L h' news → Q (.int (areaP xA yA xB yB xC yC) t) { s with heap := h', toks := tk' }) : wpAny (model Law w) A (PySem.call (.ref 285) [.ref qA, .ref qB, .ref qC]) Q E s :=
  wp_le (A' := ktrTop 450 900 A.guards cn cs L a ccd cl outer) (cut_area B F X N T hk hqA hqB hqC bxA byA bxB byB bxC byC ret) (hh.trans rfl) hdep (.inr hA.symm) (.inr rfl) hun
end
end Mine
namespace Mine
local macro_rules | `(tactic| walk_at "execs nil") => `(tactic| (k_here; with_reducible refine wpAny_execs_nil ?_))
local macro_rules | `(tactic| walk_at "subscriptTail Name Constant ref int") => `(tactic| (k_here; (with_reducible show wpAny _ _ (subscriptTail _ _ (Value.ref _) (Value.int _ _)) _ _ _); k_dflt (refine' item_tupleT (News.isTup ?N ?m) ?lo ?hi ?j ?x ?_; (case N => k_asm); (case m => k_mem); (case lo => decide); (case hi => decide); (case j => rfl); (case x => rfl); k_whole)))
local macro_rules | `(tactic| walk_at "compareOp IsNot ref ref") => `(tactic| (k_here; with_reducible refine wpAny_isNot_ref_self ?_))
local macro_rules | `(tactic| walk_at "eval Name") => `(tactic| (k_here; (with_reducible show wpAny _ _ (eval (Expr.Name _ _) (envOf _ _ _ _ _)) _ _ _); name_kind "local"; k_dflt (refine' ld ?k1 ?k2 ?_; (case k1 => k_asm); (case k2 => exact rfl); k_whole)))
local macro_rules | `(tactic| k_mem) => `(tactic| (with_reducible_and_instances show (_ : Addr × Obj) ∈ (_ : List (Addr × Obj)); ktr_member))
local macro_rules | `(tactic| bits_by_make) => `(tactic| with_reducible assumption)
local macro_rules | `(tactic| walk_at "pyIter ref") => `(tactic| (k_here; (with_reducible show wpAny _ _ (pyIter (Value.ref _)) (fun it s₂ => LoopAtV _ _ _ _ _ _ _ _ _ it s₂) _ _); (with_unfolding_all refine' iter_listUnr ?hh ?F ?N ?hm ?hc ?hd ?_; (case hh => exact rfl); (case F => k_asm); (case N => k_asm); (case hm => k_mem); (case hc => exact rfl); (case hd => exact rfl); k_whole); intro i' l1))
local macro_rules | `(tactic| walk_at "UnrEnd") => `(tactic| k_dflt ((rename (∀ p ∈ (_ : List (Addr × Obj)), p.1 < _) => hl1); (with_unfolding_all refine' UnrEnd.intro ?F ?N _ ?sub (fun p hp => Nat.ne_of_lt (hl1 p hp)) ?_; (case F => k_asm); (case N => k_asm); (case sub => first | (intro p hp; (repeat (first | with_reducible exact hp | refine List.mem_cons_of_mem _ ?_)); done) | kcj_all)); (refine' And.intro ?hm ?_; (case hm => k_mem))))
local macro_rules | `(tactic| walk_at "ListRest") => `(tactic| (with_unfolding_all first | (refine ListRest.succ (fun it' h' tk' hit' F' N' => ?_); (try k_sweep)) | (refine ListRest.zero (fun h' tk' F' N' => ?_); (try k_sweep))))
local macro_rules | `(tactic| walk_at "call ref") => `(tactic| (k_here; (with_reducible show wpAny _ _ (PySem.call (Value.ref 292) [Value.ref _]) _ _ _); k_dflt (refine' k_lawpoint ?B ?F ?X ?N ?T ?hq ?hA ?hk ?hh ?hdep ?hun ?_; (case B => k_asm); (case F => k_asm); (case X => k_asm); (case N => k_asm); (case T => k_asm); (case hA => exact rfl); (case hk => first | exact rfl | assumption); (case hh => exact rfl); (case hdep => exact Nat.le_of_ble_eq_true rfl); (case hun => exact Nat.le_of_ble_eq_true rfl); (case hq => k_mem); k_whole); intro p' d' h' t' F' N'; (try k_sweep); (try dsimp only); (try k_fold)))
local macro_rules | `(tactic| walk_at "call ref") => `(tactic| (k_here; (with_reducible show wpAny _ _ (PySem.call (Value.ref 258) [Value.ref _, Value.ref _, Value.ref _, Value.ref _, Value.ref _]) _ _ _); k_dflt (refine' k_locate ?B ?F ?X ?N ?T ?hpP ?hdP ?hpA ?hdA ?hpB ?hdB ?hpC ?hdC ?bxP ?byP ?bxA ?byA ?bxB ?byB ?bxC ?byC ?hs ?hA ?hk ?hh ?hdep ?hun ?_; (case B => k_asm); (case F => k_asm); (case X => k_asm); (case N => k_asm); (case T => k_asm); (case hA => exact rfl); (case hk => first | exact rfl | assumption); (case hh => exact rfl); (case hdep => exact Nat.le_of_ble_eq_true rfl); (case hun => exact Nat.le_of_ble_eq_true rfl); (case hpP => k_mem); (case hdP => k_mem); (case hpA => k_mem); (case hdA => k_mem); (case hpB => k_mem); (case hdB => k_mem); (case hpC => k_mem); (case hdC => k_mem); (case bxP => bits_by_make); (case byP => bits_by_make); (case bxA => bits_by_make); (case byA => bits_by_make); (case bxB => bits_by_make); (case byB => bits_by_make); (case bxC => bits_by_make); (case byC => bits_by_make); (case hs => first | with_reducible assumption | assumption); k_whole); intro h' tk' F' N'; (try k_sweep); (try dsimp only); (try k_fold)))
section
variable {w : World} {mean : ExcName → Option Value} {mg mb : Str → Option Value} {gd : Option (List Code)} {cn : Str} {cs : Scope} {a : Addr} {ccd : Value} {cl : List (Str × Addr)} {outer : List Env} {A A₀ : Around} {base h₀ : Heap} {L : Addr} {m : Str → Option Value} {news : List (Addr × Obj)} {s : Shared} {Q E : Value → Shared → Prop}

theorem cut_circle {ctx dctx r : Addr} {qZ : Addr} {xZ yZ : Int} {uZ vZ : Tok} {qA : Addr} {xA yA : Int} {uA vA : Tok} {qB : Addr} {xB yB : Int} {uB vB : Tok} {qC : Addr} {xC yC : Int} {uC vC : Tok} (B : Below A₀ base outer h₀) (F : Fr h₀ L s.heap m) (X : (Mine.hd.heap_39 w.params).In h₀) (N : News h₀ L s.heap news) (T : Top Mine.hd.view_39 Loose mean mg mb h₀) (hk : cs.kind = .function) (hctx : (ctx, instObj 261 dctx) ∈ news) (hdctx : (dctx, dictOf [] 0) ∈ news) (hqZ : (qZ, tupO xZ uZ yZ vZ) ∈ news) (hqA : (qA, tupO xA uA yA vA) ∈ news) (hqB : (qB, tupO xB uB yB vB) ∈ news) (hqC : (qC, tupO xC uC yC vC) ∈ news) (bxZ : Builtin.Int.intBits xZ ≤ 1100000) (byZ : Builtin.Int.intBits yZ ≤ 1100000) (bxA : Builtin.Int.intBits xA ≤ 1100000) (byA : Builtin.Int.intBits yA ≤ 1100000) (bxB : Builtin.Int.intBits xB ≤ 1100000) (byB : Builtin.Int.intBits yB ≤ 1100000) (bxC : Builtin.Int.intBits xC ≤ 1100000) (byC : Builtin.Int.intBits yC ≤ 1100000) (s1 : SaysL r (inC xZ yZ xA yA xB yB xC yC)) (s2 : SaysL r (inC xZ yZ xB yB xC yC xA yA)) (s3 : SaysL r (inC xZ yZ xC yC xA yA xB yB))
    (ret : ∀  (h' : Heap) (tk' : Nat), Fr h₀ L h' m → News h₀ L h' news → Q (.bool true) { s with heap := h', toks := tk' }) : wpAny (model Law w) (ktrTop 400 800 gd cn cs L a ccd cl outer) (PySem.call (.ref 320) [.ref ctx, .ref qZ, .ref qA, .ref qB, .ref qC, .ref r]) Q E s := by
  refine wpAny_call ?_
  k_dflt (refine' code_def (binds := [(PySem.Str.ofString "context", (.ref ctx : Value)), (PySem.Str.ofString "z", (.ref qZ : Value)), (PySem.Str.ofString "a", (.ref qA : Value)), (PySem.Str.ofString "b", (.ref qB : Value)), (PySem.Str.ofString "c", (.ref qC : Value)), (PySem.Str.ofString "due", (.ref r : Value))]) ?k1 ?k2 ?k3 ?k4 ?k5 ?kA ?kF ?kK ?k6 ?k7 ?k8 ?k9 ?kB ?_ ?c2 ?c3 ?c4 ?c5; (case kA => exact rfl); (case kF => exact rfl); (case kK => assumption); (case k1 => k_asm); (case k2 => k_asm); (case k3 => k_asm); (case k4 => k_asm); (case k5 => k_asm); (case k6 => k_is); (case k7 => k_is); (case k8 => ktr_room); (case k9 => first | exact BindsTo.of_eq rfl | exact binds_K (by k_in) rfl (by k_is) rfl rfl rfl); (case c5 => decide); (case kB => exact locs rfl); (case c2 => exact rfl); (case c3 => exact rfl); (case c4 => exact rfl); k_whole; intro g' L' h' FG' F' N' B' X' T'; (try dsimp only); (try k_lift B'); (try k_fold))
  w_top off
  k_steps
  all_goals exact ret _ _ (by k_asm) (by first | k_asm | exact cb_drop (by assumption) (by (intro p hp; (repeat (first | with_reducible exact hp | refine List.mem_cons_of_mem _ ?_)); done)) | exact cb_drop (by assumption) (by kcj_all))
theorem k_circle {ctx dctx r : Addr} {qZ : Addr} {xZ yZ : Int} {uZ vZ : Tok} {qA : Addr} {xA yA : Int} {uA vA : Tok} {qB : Addr} {xB yB : Int} {uB vB : Tok} {qC : Addr} {xC yC : Int} {uC vC : Tok} (B : Below A₀ base outer h₀) (F : Fr h₀ L s.heap m) (X : (Mine.hd.heap_39 w.params).In h₀) (N : News h₀ L s.heap news) (T : Top Mine.hd.view_39 Loose mean mg mb h₀) (hctx : (ctx, instObj 261 dctx) ∈ news) (hdctx : (dctx, dictOf [] 0) ∈ news) (hqZ : (qZ, tupO xZ uZ yZ vZ) ∈ news) (hqA : (qA, tupO xA uA yA vA) ∈ news) (hqB : (qB, tupO xB uB yB vB) ∈ news) (hqC : (qC, tupO xC uC yC vC) ∈ news) (bxZ : Builtin.Int.intBits xZ ≤ 1100000) (byZ : Builtin.Int.intBits yZ ≤ 1100000) (bxA : Builtin.Int.intBits xA ≤ 1100000) (byA : Builtin.Int.intBits yA ≤ 1100000) (bxB : Builtin.Int.intBits xB ≤ 1100000) (byB : Builtin.Int.intBits yB ≤ 1100000) (bxC : Builtin.Int.intBits xC ≤ 1100000) (byC : Builtin.Int.intBits yC ≤ 1100000) (s1 : SaysL r (inC xZ yZ xA yA xB yB xC yC)) (s2 : SaysL r (inC xZ yZ xB yB xC yC xA yA)) (s3 : SaysL r (inC xZ yZ xC yC xA yA xB yB)) (hA : A.frames = some (envX cn cs L a ccd cl :: outer)) (hk : cs.kind = .function) (hh : A.handled = none) (hdep : A.depth ≤ 400) (hun : A.units ≤ 800)
    (ret : ∀  (h' : Heap) (tk' : Nat), Fr h₀ L h' m → News h₀ L h' news → Q (.bool true) { s with heap := h', toks := tk' }) : wpAny (model Law w) A (PySem.call (.ref 320) [.ref ctx, .ref qZ, .ref qA, .ref qB, .ref qC, .ref r]) Q E s :=
  wp_le (A' := ktrTop 400 800 A.guards cn cs L a ccd cl outer) (cut_circle B F X N T hk hctx hdctx hqZ hqA hqB hqC bxZ byZ bxA byA bxB byB bxC byC s1 s2 s3 ret) (hh.trans rfl) hdep (.inr hA.symm) (.inr rfl) hun
end
end Mine
namespace Mine
local macro_rules | `(tactic| walk_at "execs nil") => `(tactic| (k_here; with_reducible refine wpAny_execs_nil ?_))
local macro_rules | `(tactic| walk_at "subscriptTail Name Constant ref int") => `(tactic| (k_here; (with_reducible show wpAny _ _ (subscriptTail _ _ (Value.ref _) (Value.int _ _)) _ _ _); k_dflt (refine' item_tupleT (News.isTup ?N ?m) ?lo ?hi ?j ?x ?_; (case N => k_asm); (case m => k_mem); (case lo => decide); (case hi => decide); (case j => rfl); (case x => rfl); k_whole)))
local macro_rules | `(tactic| walk_at "compareOp IsNot ref ref") => `(tactic| (k_here; with_reducible refine wpAny_isNot_ref_self ?_))
local macro_rules | `(tactic| walk_at "eval Name") => `(tactic| (k_here; (with_reducible show wpAny _ _ (eval (Expr.Name _ _) (envOf _ _ _ _ _)) _ _ _); name_kind "local"; k_dflt (refine' ld ?k1 ?k2 ?_; (case k1 => k_asm); (case k2 => exact rfl); k_whole)))
local macro_rules | `(tactic| k_mem) => `(tactic| (with_reducible_and_instances show (_ : Addr × Obj) ∈ (_ : List (Addr × Obj)); ktr_member))
local macro_rules | `(tactic| bits_by_make) => `(tactic| with_reducible assumption)
theorem endW1 {h₀ : Heap} {L I : Addr} {it : Obj} {rest : (Str → Option Value) → List (Addr × Obj) → Prop} {s₁ : Shared} {h' : Heap} {tk : Nat} {m' : Str → Option Value} {all : List (Addr × Obj)} (F : Fr h₀ L h' m') (N : News h₀ L h' all) (news' : List (Addr × Obj))
    (sub : ∀ p ∈ (I, it) :: news', p ∈ all) (off : ∀ p ∈ news', p.1 < I) (r : rest m' news') : UnrEndW h₀ L s₁ [(I, it)] rest { s₁ with heap := h', toks := tk } :=
  ⟨h', tk, m', news', rfl, F, fun p hp => N p (sub p hp), fun p hp q hq => by
    rw [List.mem_singleton.mp hq]
    exact Nat.ne_of_lt (off p hp), r⟩
local macro_rules | `(tactic| walk_at "pyIter ref") => `(tactic| (k_here; (with_reducible show wpAny _ _ (pyIter (Value.ref _)) (fun it s₂ => TurnsAt _ _ _ _ _ _ _ _ _ it s₂) _ _); (with_unfolding_all refine' iter_listTurns ?hh ?F ?N ?hm ?hc ?hd ?_; (case hh => exact rfl); (case F => k_asm); (case N => k_asm); (case hm => k_mem); (case hc => exact rfl); (case hd => exact rfl); k_whole); intro i' l1))
local macro_rules | `(tactic| walk_at "UnrEndW") => `(tactic| k_dflt ((rename (∀ p ∈ (_ : List (Addr × Obj)), p.1 < _) => hl1); (with_unfolding_all refine' endW1 ?F ?N _ ?sub hl1 ?_; (case F => k_asm); (case N => k_asm); (case sub => first | (intro p hp; (repeat (first | with_reducible exact hp | refine List.mem_cons_of_mem _ ?_)); done) | kcj_all)); (refine' And.intro ?hm ?_; (case hm => k_subL))))
theorem k_isnot {M : Model} {A : Around} {E : Value → Shared → Prop} {s : Shared} {x y : Int} {Q : Value → Shared → Prop} (h : x = y) (k : Q (.bool false) s) : wpAny M A (compareOp .IsNot (.ref (wayA x)) (.ref (wayA y))) Q E s := by
  subst h; exact wpAny_isNot_ref_self k
local macro_rules | `(tactic| walk_at "compareOp IsNot ref ref") => `(tactic| (k_here; (with_reducible refine' k_isnot ?h ?_); (case h => (unfold orient areaP; grind)); k_whole))
local macro_rules | `(tactic| bits_by_make) => `(tactic| ((with_reducible refine bits_area1 ?_ ?_ ?_ ?_ ?_ ?_) <;> with_reducible assumption))
local macro_rules | `(tactic| walk_at "call ref") => `(tactic| (k_here; (with_reducible show wpAny _ _ (PySem.call (Value.ref 292) [Value.ref _]) _ _ _); k_dflt (refine' k_lawpoint ?B ?F ?X ?N ?T ?hq ?hA ?hk ?hh ?hdep ?hun ?_; (case B => k_asm); (case F => k_asm); (case X => k_asm); (case N => k_asm); (case T => k_asm); (case hA => exact rfl); (case hk => first | exact rfl | assumption); (case hh => exact rfl); (case hdep => exact Nat.le_of_ble_eq_true rfl); (case hun => exact Nat.le_of_ble_eq_true rfl); (case hq => k_mem); k_whole); intro p' d' h' t' F' N'; (try k_sweep); (try dsimp only); (try k_fold)))
local macro_rules | `(tactic| walk_at "call ref") => `(tactic| (k_here; (with_reducible show wpAny _ _ (PySem.call (Value.ref 285) [Value.ref _, Value.ref _, Value.ref _]) _ _ _); k_dflt (refine' k_area ?B ?F ?X ?N ?T ?hqA ?hqB ?hqC ?bxA ?byA ?bxB ?byB ?bxC ?byC ?hA ?hk ?hh ?hdep ?hun ?_; (case B => k_asm); (case F => k_asm); (case X => k_asm); (case N => k_asm); (case T => k_asm); (case hA => exact rfl); (case hk => first | exact rfl | assumption); (case hh => exact rfl); (case hdep => exact Nat.le_of_ble_eq_true rfl); (case hun => exact Nat.le_of_ble_eq_true rfl); (case hqA => k_mem); (case hqB => k_mem); (case hqC => k_mem); (case bxA => bits_by_make); (case byA => bits_by_make); (case bxB => bits_by_make); (case byB => bits_by_make); (case bxC => bits_by_make); (case byC => bits_by_make); k_whole); intro t' h' tk' F' N'; (try k_sweep); (try dsimp only); (try k_fold)))
local macro_rules | `(tactic| walk_at "call ref") => `(tactic| (k_here; (with_reducible show wpAny _ _ (PySem.call (Value.ref 251) [Value.ref _, Value.ref _, Value.ref _, Value.ref _]) _ _ _); k_dflt (refine' k_angle ?B ?F ?X ?N ?T ?hpV ?hdV ?hpF ?hdF ?hpG ?hdG ?bxV ?byV ?bxF ?byF ?bxG ?byG ?hs ?hA ?hk ?hh ?hdep ?hun ?_; (case B => k_asm); (case F => k_asm); (case X => k_asm); (case N => k_asm); (case T => k_asm); (case hA => exact rfl); (case hk => first | exact rfl | assumption); (case hh => exact rfl); (case hdep => exact Nat.le_of_ble_eq_true rfl); (case hun => exact Nat.le_of_ble_eq_true rfl); (case hpV => k_mem); (case hdV => k_mem); (case hpF => k_mem); (case hdF => k_mem); (case hpG => k_mem); (case hdG => k_mem); (case bxV => bits_by_make); (case byV => bits_by_make); (case bxF => bits_by_make); (case byF => bits_by_make); (case bxG => bits_by_make); (case byG => bits_by_make); (case hs => exact wayA_says _); k_whole); intro h' tk' F' N'; (try k_sweep); (try dsimp only); (try k_fold)))
local macro_rules | `(tactic| walk_at "call ref") => `(tactic| (k_here; (with_reducible show wpAny _ _ (PySem.call (Value.ref 306) [Value.int _ _]) _ _ _); k_dflt (refine' k_way ?B ?F ?X ?N ?T ?hs ?hA ?hk ?hh ?hdep ?hun ?_; (case B => k_asm); (case F => k_asm); (case X => k_asm); (case N => k_asm); (case T => k_asm); (case hA => exact rfl); (case hk => first | exact rfl | assumption); (case hh => exact rfl); (case hdep => exact Nat.le_of_ble_eq_true rfl); (case hun => exact Nat.le_of_ble_eq_true rfl); (case hs => exact wayA_says _); k_whole); intro h' tk' F' N'; (try k_sweep); (try dsimp only); (try k_fold)))
section
variable {w : World} {mean : ExcName → Option Value} {mg mb : Str → Option Value} {gd : Option (List Code)} {cn : Str} {cs : Scope} {a : Addr} {ccd : Value} {cl : List (Str × Addr)} {outer : List Env} {A A₀ : Around} {base h₀ : Heap} {L : Addr} {m : Str → Option Value} {news : List (Addr × Obj)} {s : Shared} {Q E : Value → Shared → Prop}

theorem cut_six {ctx dctx : Addr} {qA : Addr} {xA yA : Int} {uA vA : Tok} {qB : Addr} {xB yB : Int} {uB vB : Tok} {qC : Addr} {xC yC : Int} {uC vC : Tok} (B : Below A₀ base outer h₀) (F : Fr h₀ L s.heap m) (X : (Mine.hd.heap_39 w.params).In h₀) (N : News h₀ L s.heap news) (T : Top Mine.hd.view_39 Loose mean mg mb h₀) (hk : cs.kind = .function) (hctx : (ctx, instObj 261 dctx) ∈ news) (hdctx : (dctx, dictOf [] 0) ∈ news) (hqA : (qA, tupO xA uA yA vA) ∈ news) (hqB : (qB, tupO xB uB yB vB) ∈ news) (hqC : (qC, tupO xC uC yC vC) ∈ news) (bxA : Builtin.Int.intBits xA ≤ 1100000) (byA : Builtin.Int.intBits yA ≤ 1100000) (bxB : Builtin.Int.intBits xB ≤ 1100000) (byB : Builtin.Int.intBits yB ≤ 1100000) (bxC : Builtin.Int.intBits xC ≤ 1100000) (byC : Builtin.Int.intBits yC ≤ 1100000)
    (ret : ∀  (h' : Heap) (tk' : Nat), Fr h₀ L h' m → News h₀ L h' news → Q (.bool true) { s with heap := h', toks := tk' }) : wpAny (model Law w) (ktrTop 400 800 gd cn cs L a ccd cl outer) (PySem.call (.ref 327) [.ref ctx, .ref qA, .ref qB, .ref qC]) Q E s := by
  refine wpAny_call ?_
  k_dflt (refine' code_def (binds := [(PySem.Str.ofString "context", (.ref ctx : Value)), (PySem.Str.ofString "a", (.ref qA : Value)), (PySem.Str.ofString "b", (.ref qB : Value)), (PySem.Str.ofString "c", (.ref qC : Value))]) ?k1 ?k2 ?k3 ?k4 ?k5 ?kA ?kF ?kK ?k6 ?k7 ?k8 ?k9 ?kB ?_ ?c2 ?c3 ?c4 ?c5; (case kA => exact rfl); (case kF => exact rfl); (case kK => assumption); (case k1 => k_asm); (case k2 => k_asm); (case k3 => k_asm); (case k4 => k_asm); (case k5 => k_asm); (case k6 => k_is); (case k7 => k_is); (case k8 => ktr_room); (case k9 => first | exact BindsTo.of_eq rfl | exact binds_K (by k_in) rfl (by k_is) rfl rfl rfl); (case c5 => decide); (case kB => exact locs rfl); (case c2 => exact rfl); (case c3 => exact rfl); (case c4 => exact rfl); k_whole; intro g' L' h' FG' F' N' B' X' T'; (try dsimp only); (try k_lift B'); (try k_fold))
  w_top off
  k_steps
  all_goals exact ret _ _ (by k_asm) (by first | k_asm | exact cb_drop (by assumption) (by (intro p hp; (repeat (first | with_reducible exact hp | refine List.mem_cons_of_mem _ ?_)); done)) | exact cb_drop (by assumption) (by kcj_all))
theorem k_six {ctx dctx : Addr} {qA : Addr} {xA yA : Int} {uA vA : Tok} {qB : Addr} {xB yB : Int} {uB vB : Tok} {qC : Addr} {xC yC : Int} {uC vC : Tok} (B : Below A₀ base outer h₀) (F : Fr h₀ L s.heap m) (X : (Mine.hd.heap_39 w.params).In h₀) (N : News h₀ L s.heap news) (T : Top Mine.hd.view_39 Loose mean mg mb h₀) (hctx : (ctx, instObj 261 dctx) ∈ news) (hdctx : (dctx, dictOf [] 0) ∈ news) (hqA : (qA, tupO xA uA yA vA) ∈ news) (hqB : (qB, tupO xB uB yB vB) ∈ news) (hqC : (qC, tupO xC uC yC vC) ∈ news) (bxA : Builtin.Int.intBits xA ≤ 1100000) (byA : Builtin.Int.intBits yA ≤ 1100000) (bxB : Builtin.Int.intBits xB ≤ 1100000) (byB : Builtin.Int.intBits yB ≤ 1100000) (bxC : Builtin.Int.intBits xC ≤ 1100000) (byC : Builtin.Int.intBits yC ≤ 1100000) (hA : A.frames = some (envX cn cs L a ccd cl :: outer)) (hk : cs.kind = .function) (hh : A.handled = none) (hdep : A.depth ≤ 400) (hun : A.units ≤ 800)
    (ret : ∀  (h' : Heap) (tk' : Nat), Fr h₀ L h' m → News h₀ L h' news → Q (.bool true) { s with heap := h', toks := tk' }) : wpAny (model Law w) A (PySem.call (.ref 327) [.ref ctx, .ref qA, .ref qB, .ref qC]) Q E s :=
  wp_le (A' := ktrTop 400 800 A.guards cn cs L a ccd cl outer) (cut_six B F X N T hk hctx hdctx hqA hqB hqC bxA byA bxB byB bxC byC ret) (hh.trans rfl) hdep (.inr hA.symm) (.inr rfl) hun
end
end Mine
namespace Mine
local macro_rules | `(tactic| walk_at "execs nil") => `(tactic| (k_here; with_reducible refine wpAny_execs_nil ?_))
local macro_rules | `(tactic| walk_at "subscriptTail Name Constant ref int") => `(tactic| (k_here; (with_reducible show wpAny _ _ (subscriptTail _ _ (Value.ref _) (Value.int _ _)) _ _ _); k_dflt (refine' item_tupleT (News.isTup ?N ?m) ?lo ?hi ?j ?x ?_; (case N => k_asm); (case m => k_mem); (case lo => decide); (case hi => decide); (case j => rfl); (case x => rfl); k_whole)))
local macro_rules | `(tactic| walk_at "compareOp IsNot ref ref") => `(tactic| (k_here; with_reducible refine wpAny_isNot_ref_self ?_))
local macro_rules | `(tactic| walk_at "eval Name") => `(tactic| (k_here; (with_reducible show wpAny _ _ (eval (Expr.Name _ _) (envOf _ _ _ _ _)) _ _ _); name_kind "local"; k_dflt (refine' ld ?k1 ?k2 ?_; (case k1 => k_asm); (case k2 => exact rfl); k_whole)))
local macro_rules | `(tactic| k_mem) => `(tactic| (with_reducible_and_instances show (_ : Addr × Obj) ∈ (_ : List (Addr × Obj)); ktr_member))
local macro_rules | `(tactic| bits_by_make) => `(tactic| with_reducible assumption)

def gapP (xZ yZ xA yA xB yB xC yC : Int) : Int :=
  let d := 2 * areaP xA yA xB yB xC yC
  let x := xA * d + ((xB - xA) * (xB - xA) + (yB - yA) * (yB - yA)) * (yC - yA) - ((xC - xA) * (xC - xA) + (yC - yA) * (yC - yA)) * (yB - yA)
  let y := yA * d + ((xC - xA) * (xC - xA) + (yC - yA) * (yC - yA)) * (xB - xA) - ((xB - xA) * (xB - xA) + (yB - yA) * (yB - yA)) * (xC - xA)
  (xZ * d - x) * (xZ * d - x) + (yZ * d - y) * (yZ * d - y) - (xA * d - x) * (xA * d - x) - (yA * d - y) * (yA * d - y)
local macro_rules | `(tactic| bits_by_make) => `(tactic| ((with_reducible refine bits_area1 ?_ ?_ ?_ ?_ ?_ ?_) <;> with_reducible assumption))
theorem k_sq {w : World} {A : Around} {E : Value → Shared → Prop} {s : Shared} {x : Int} {t u : Tok} {n : Nat} {Q : Value → Shared → Prop} (hb : Builtin.Int.intBits x ≤ n) (hn : n ≤ 60000000) (k : Q (.int (x * x) s.toks) { s with toks := s.toks + 1 }) : wpAny (model Law w) A (binaryOp .Pow (.int x t) (.int 2 u)) Q E s := by
  have e : x ^ (2 : Int).toNat = x * x := by
    show x ^ 2 = x * x
    rw [Int.pow_succ, Int.pow_succ, Int.pow_zero, Int.one_mul]
  refine pow_int (by decide) ?_ (by rw [e]; exact k)
  have z : (2 : Int) ^ 27 = 134217728 := by decide
  rw [z]
  omega
local macro_rules | `(tactic| walk_at "binaryOp Pow int int") => `(tactic| (k_here; (with_reducible refine' k_sq ?hb ?hn ?_); (case hb => bits_by_make); (case hn => decide)))
local macro_rules | `(tactic| walk_at "call ref") => `(tactic| (k_here; (with_reducible show wpAny _ _ (PySem.call (Value.ref 285) [Value.ref _, Value.ref _, Value.ref _]) _ _ _); k_dflt (refine' k_area ?B ?F ?X ?N ?T ?hqA ?hqB ?hqC ?bxA ?byA ?bxB ?byB ?bxC ?byC ?hA ?hk ?hh ?hdep ?hun ?_; (case B => k_asm); (case F => k_asm); (case X => k_asm); (case N => k_asm); (case T => k_asm); (case hA => exact rfl); (case hk => first | exact rfl | assumption); (case hh => exact rfl); (case hdep => exact Nat.le_of_ble_eq_true rfl); (case hun => exact Nat.le_of_ble_eq_true rfl); (case hqA => k_mem); (case hqB => k_mem); (case hqC => k_mem); (case bxA => bits_by_make); (case byA => bits_by_make); (case bxB => bits_by_make); (case byB => bits_by_make); (case bxC => bits_by_make); (case byC => bits_by_make); k_whole); intro t' h' tk' F' N'; (try k_sweep); (try dsimp only); (try k_fold)))
section
variable {w : World} {mean : ExcName → Option Value} {mg mb : Str → Option Value} {gd : Option (List Code)} {cn : Str} {cs : Scope} {a : Addr} {ccd : Value} {cl : List (Str × Addr)} {outer : List Env} {A A₀ : Around} {base h₀ : Heap} {L : Addr} {m : Str → Option Value} {news : List (Addr × Obj)} {s : Shared} {Q E : Value → Shared → Prop}

theorem cut_gap {qZ : Addr} {xZ yZ : Int} {uZ vZ : Tok} {qA : Addr} {xA yA : Int} {uA vA : Tok} {qB : Addr} {xB yB : Int} {uB vB : Tok} {qC : Addr} {xC yC : Int} {uC vC : Tok} (B : Below A₀ base outer h₀) (F : Fr h₀ L s.heap m) (X : (Mine.hd.heap_39 w.params).In h₀) (N : News h₀ L s.heap news) (T : Top Mine.hd.view_39 Loose mean mg mb h₀) (hk : cs.kind = .function) (hqZ : (qZ, tupO xZ uZ yZ vZ) ∈ news) (hqA : (qA, tupO xA uA yA vA) ∈ news) (hqB : (qB, tupO xB uB yB vB) ∈ news) (hqC : (qC, tupO xC uC yC vC) ∈ news) (bxZ : Builtin.Int.intBits xZ ≤ 1100000) (byZ : Builtin.Int.intBits yZ ≤ 1100000) (bxA : Builtin.Int.intBits xA ≤ 1100000) (byA : Builtin.Int.intBits yA ≤ 1100000) (bxB : Builtin.Int.intBits xB ≤ 1100000) (byB : Builtin.Int.intBits yB ≤ 1100000) (bxC : Builtin.Int.intBits xC ≤ 1100000) (byC : Builtin.Int.intBits yC ≤ 1100000)
    (ret : ∀ (t : Tok) (h' : Heap) (tk' : Nat), Fr h₀ L h' m → News h₀ L h' news → Q (.int (gapP xZ yZ xA yA xB yB xC yC) t) { s with heap := h', toks := tk' }) : wpAny (model Law w) (ktrTop 400 800 gd cn cs L a ccd cl outer) (PySem.call (.ref 313) [.ref qZ, .ref qA, .ref qB, .ref qC]) Q E s := by
  refine wpAny_call ?_
  k_dflt (refine' code_def (binds := [(PySem.Str.ofString "z", (.ref qZ : Value)), (PySem.Str.ofString "a", (.ref qA : Value)), (PySem.Str.ofString "b", (.ref qB : Value)), (PySem.Str.ofString "c", (.ref qC : Value))]) ?k1 ?k2 ?k3 ?k4 ?k5 ?kA ?kF ?kK ?k6 ?k7 ?k8 ?k9 ?kB ?_ ?c2 ?c3 ?c4 ?c5; (case kA => exact rfl); (case kF => exact rfl); (case kK => assumption); (case k1 => k_asm); (case k2 => k_asm); (case k3 => k_asm); (case k4 => k_asm); (case k5 => k_asm); (case k6 => k_is); (case k7 => k_is); (case k8 => ktr_room); (case k9 => first | exact BindsTo.of_eq rfl | exact binds_K (by k_in) rfl (by k_is) rfl rfl rfl); (case c5 => decide); (case kB => exact locs rfl); (case c2 => exact rfl); (case c3 => exact rfl); (case c4 => exact rfl); k_whole; intro g' L' h' FG' F' N' B' X' T'; (try dsimp only); (try k_lift B'); (try k_fold))
  w_top off
  k_steps
  all_goals exact ret _ _ _ (by k_asm) (by first | k_asm | exact cb_drop (by assumption) (by (intro p hp; (repeat (first | with_reducible exact hp | refine List.mem_cons_of_mem _ ?_)); done)) | exact cb_drop (by assumption) (by kcj_all))
theorem k_gap {qZ : Addr} {xZ yZ : Int} {uZ vZ : Tok} {qA : Addr} {xA yA : Int} {uA vA : Tok} {qB : Addr} {xB yB : Int} {uB vB : Tok} {qC : Addr} {xC yC : Int} {uC vC : Tok} (B : Below A₀ base outer h₀) (F : Fr h₀ L s.heap m) (X : (Mine.hd.heap_39 w.params).In h₀) (N : News h₀ L s.heap news) (T : Top Mine.hd.view_39 Loose mean mg mb h₀) (hqZ : (qZ, tupO xZ uZ yZ vZ) ∈ news) (hqA : (qA, tupO xA uA yA vA) ∈ news) (hqB : (qB, tupO xB uB yB vB) ∈ news) (hqC : (qC, tupO xC uC yC vC) ∈ news) (bxZ : Builtin.Int.intBits xZ ≤ 1100000) (byZ : Builtin.Int.intBits yZ ≤ 1100000) (bxA : Builtin.Int.intBits xA ≤ 1100000) (byA : Builtin.Int.intBits yA ≤ 1100000) (bxB : Builtin.Int.intBits xB ≤ 1100000) (byB : Builtin.Int.intBits yB ≤ 1100000) (bxC : Builtin.Int.intBits xC ≤ 1100000) (byC : Builtin.Int.intBits yC ≤ 1100000) (hA : A.frames = some (envX cn cs L a ccd cl :: outer)) (hk : cs.kind = .function) (hh : A.handled = none) (hdep : A.depth ≤ 400) (hun : A.units ≤ 800)
    (ret : ∀ (t : Tok) (h' : Heap) (tk' : Nat), Fr h₀ L h' m → News h₀ L h' news → Q (.int (gapP xZ yZ xA yA xB yB xC yC) t) { s with heap := h', toks := tk' }) : wpAny (model Law w) A (PySem.call (.ref 313) [.ref qZ, .ref qA, .ref qB, .ref qC]) Q E s :=
  wp_le (A' := ktrTop 400 800 A.guards cn cs L a ccd cl outer) (cut_gap B F X N T hk hqZ hqA hqB hqC bxZ byZ bxA byA bxB byB bxC byC ret) (hh.trans rfl) hdep (.inr hA.symm) (.inr rfl) hun
end
end Mine
namespace Mine

theorem ints12 {ws : List Value} {xs : List Int} (hI : IntsAre ws xs) (hl : xs.length = 12) (hb : ∀ n ∈ xs, Builtin.Int.intBits n ≤ 1048576) : ∃ (x0 : Int) (t0 : Tok) (x1 : Int) (t1 : Tok) (x2 : Int) (t2 : Tok) (x3 : Int) (t3 : Tok) (x4 : Int) (t4 : Tok) (x5 : Int) (t5 : Tok) (x6 : Int) (t6 : Tok) (x7 : Int) (t7 : Tok) (x8 : Int) (t8 : Tok) (x9 : Int) (t9 : Tok) (x10 : Int) (t10 : Tok) (x11 : Int) (t11 : Tok), ws = [.int x0 t0, .int x1 t1, .int x2 t2, .int x3 t3, .int x4 t4, .int x5 t5, .int x6 t6, .int x7 t7, .int x8 t8, .int x9 t9, .int x10 t10, .int x11 t11] ∧ Builtin.Int.intBits x0 ≤ 1048576 ∧ Builtin.Int.intBits x1 ≤ 1048576 ∧ Builtin.Int.intBits x2 ≤ 1048576 ∧ Builtin.Int.intBits x3 ≤ 1048576 ∧ Builtin.Int.intBits x4 ≤ 1048576 ∧ Builtin.Int.intBits x5 ≤ 1048576 ∧ Builtin.Int.intBits x6 ≤ 1048576 ∧ Builtin.Int.intBits x7 ≤ 1048576 ∧ Builtin.Int.intBits x8 ≤ 1048576 ∧ Builtin.Int.intBits x9 ≤ 1048576 ∧ Builtin.Int.intBits x10 ≤ 1048576 ∧ Builtin.Int.intBits x11 ≤ 1048576 := by
  obtain _ | ⟨x0, t0, hI⟩ := hI
  · simp at hl
  obtain _ | ⟨x1, t1, hI⟩ := hI
  · simp at hl
  obtain _ | ⟨x2, t2, hI⟩ := hI
  · simp at hl
  obtain _ | ⟨x3, t3, hI⟩ := hI
  · simp at hl
  obtain _ | ⟨x4, t4, hI⟩ := hI
  · simp at hl
  obtain _ | ⟨x5, t5, hI⟩ := hI
  · simp at hl
  obtain _ | ⟨x6, t6, hI⟩ := hI
  · simp at hl
  obtain _ | ⟨x7, t7, hI⟩ := hI
  · simp at hl
  obtain _ | ⟨x8, t8, hI⟩ := hI
  · simp at hl
  obtain _ | ⟨x9, t9, hI⟩ := hI
  · simp at hl
  obtain _ | ⟨x10, t10, hI⟩ := hI
  · simp at hl
  obtain _ | ⟨x11, t11, hI⟩ := hI
  · simp at hl
  obtain _ | ⟨x12, t12, hI⟩ := hI
  · exact ⟨x0, t0, x1, t1, x2, t2, x3, t3, x4, t4, x5, t5, x6, t6, x7, t7, x8, t8, x9, t9, x10, t10, x11, t11, rfl, hb x0 (by simp), hb x1 (by simp), hb x2 (by simp), hb x3 (by simp), hb x4 (by simp), hb x5 (by simp), hb x6 (by simp), hb x7 (by simp), hb x8 (by simp), hb x9 (by simp), hb x10 (by simp), hb x11 (by simp)⟩
  · simp only [List.length_cons] at hl
    omega
theorem script12 {ws : List Value} {ns : List Int} (h : PyData.layable0 (.list (ns.map .int)) = true) (hI : IntsAre ws (List.take 12 ns ++ (List.replicate ((12 : Int) - ((List.take 12 ns).length : Nat)).toNat [0]).flatten)) : ∃ (x0 : Int) (t0 : Tok) (x1 : Int) (t1 : Tok) (x2 : Int) (t2 : Tok) (x3 : Int) (t3 : Tok) (x4 : Int) (t4 : Tok) (x5 : Int) (t5 : Tok) (x6 : Int) (t6 : Tok) (x7 : Int) (t7 : Tok) (x8 : Int) (t8 : Tok) (x9 : Int) (t9 : Tok) (x10 : Int) (t10 : Tok) (x11 : Int) (t11 : Tok), ws = [.int x0 t0, .int x1 t1, .int x2 t2, .int x3 t3, .int x4 t4, .int x5 t5, .int x6 t6, .int x7 t7, .int x8 t8, .int x9 t9, .int x10 t10, .int x11 t11] ∧ Builtin.Int.intBits x0 ≤ 1048576 ∧ Builtin.Int.intBits x1 ≤ 1048576 ∧ Builtin.Int.intBits x2 ≤ 1048576 ∧ Builtin.Int.intBits x3 ≤ 1048576 ∧ Builtin.Int.intBits x4 ≤ 1048576 ∧ Builtin.Int.intBits x5 ≤ 1048576 ∧ Builtin.Int.intBits x6 ≤ 1048576 ∧ Builtin.Int.intBits x7 ≤ 1048576 ∧ Builtin.Int.intBits x8 ≤ 1048576 ∧ Builtin.Int.intBits x9 ≤ 1048576 ∧ Builtin.Int.intBits x10 ≤ 1048576 ∧ Builtin.Int.intBits x11 ≤ 1048576 := by
  refine ints12 hI ?_ fun n hn => ?_
  · have e : ((12 : Int) - ((List.take 12 ns).length : Nat)).toNat = 12 - (List.take 12 ns).length := by omega
    rw [e]
    generalize hk : 12 - (List.take 12 ns).length = k
    have hf : (List.replicate k [(0 : Int)]).flatten.length = k := by
      clear hk hI e
      induction k with
      | zero => rfl
      | succ k ih => rw [List.replicate_succ, List.flatten_cons, List.length_append, ih]; simp; omega
    rw [List.length_append, hf, ← hk]
    have := List.length_take_le 12 ns
    omega
  · rcases List.mem_append.mp hn with hn | hn
    · exact PyData.bits_item_of_ints h (List.mem_of_mem_take hn)
    · obtain ⟨l, hl, hm⟩ := List.mem_flatten.mp hn
      rw [(List.mem_replicate.mp hl).2] at hm
      rw [List.mem_singleton.mp hm]
      decide
theorem fr_forget {h₀ h : Heap} {L : Addr} {x : Str} {v : Option Value} {M : Str → Option Value} (F : Fr h₀ L h (fun y => if y = x then v else M y)) : ∃ M' : Str → Option Value, Fr h₀ L h (fun y => if y = x then v else M' y) := ⟨M, F⟩
theorem news_pick7 {h₀ h : Heap} {L : Addr} {a b c d e f g : Addr × Obj} (N : News h₀ L h [a, b, c, d, e, f, g]) : News h₀ L h [a, f, g] := fun p hp => by
  refine N p ?_
  simp only [List.mem_cons, List.not_mem_nil, or_false] at hp ⊢
  rcases hp with h | h | h <;> simp [h]
theorem k_mod {w : World} {A : Around} {E : Value → Shared → Prop} {s : Shared} {x y : Int} {t u : Tok} {Q : Value → Shared → Prop} (hy : 0 < y) (k : ∀ r : Int, 0 ≤ r → r < y → Q (.int r s.toks) { s with toks := s.toks + 1 }) : wpAny (model Law w) A (binaryOp .Mod (.int x t) (.int y u)) Q E s :=
  mod_int' (by omega) (k _ (Int.fmod_nonneg_of_pos x hy) (Int.fmod_lt_of_pos x hy))
theorem k_abs {w : World} {A : Around} {E : Value → Shared → Prop} {s : Shared} {x : Int} {t : Tok} {n : Nat} {Q : Value → Shared → Prop} (hb : Builtin.Int.intBits x ≤ n) (k : ∀ (z : Int) (u : Tok) (tk : Nat), 0 ≤ z → Builtin.Int.intBits z ≤ n → Q (.int z u) { s with toks := tk }) : wpAny (model Law w) A (PySem.call (.builtin "abs") [.int x t]) Q E s :=
  call_abs_int fun u tk => k _ u tk (by split <;> omega) (by
    split
    · exact bits_neg hb
    · exact hb)
end Mine
namespace Mine
open PyProof.Rows.LCg

section
open PyProof.Rows.LCg
variable {w : World} {A : Around} {E : Value → Shared → Prop} {s : Shared} {h₀ : Heap} {L : Addr} {m : Str → Option Value} {env : Env} {news : List (Addr × Obj)}
theorem owned_tup {elts : List PySem.Expr} {k : Nat} {pos : Pos} {I t T : Addr} {i : Nat} {Q : Unit → Shared → Prop} (hit : s.heap.IsTupleIter I t i) (hQ : Q () s) :
    wpAny (model Law w) A (letOwnedTupleGo (.Tuple elts k pos) (.ref I) (.ref T)) Q E s := by
  obtain ⟨o, ho, hc, hd⟩ := hit
  unfold letOwnedTupleGo
  refine wpAny_bind (wpAny_load ho ?_)
  rw [hc, hd]
  dsimp only
  rw [if_neg]
  · exact wpAny_pure hQ
  · intro h
    exact absurd (Bool.and_eq_true_iff.mp h).1 (by decide)

noncomputable def Made (x1 x2 sz : Int) (news : List (Addr × Obj)) : List (Int × Int) → List Value → List (Addr × Obj) → Prop
  | [], ys, nw => ys = [] ∧ nw = news
  | p :: done, ys, nw => ∃ ys' nw' r tx ty, Made x1 x2 sz news done ys' nw' ∧ ys = ys' ++ [.ref r] ∧ nw = (r, tupO (x1 + sz * p.1) tx (x2 + sz * p.2) ty) :: nw'
theorem Made.len {x1 x2 sz : Int} : ∀ {done : List (Int × Int)} {ys : List Value} {nw : List (Addr × Obj)}, Made x1 x2 sz news done ys nw → ys.length = done.length
  | [], _, _, h => by rw [h.1]; rfl
  | p :: done, _, _, ⟨ys', nw', r, tx, ty, M, hy, _⟩ => by rw [hy, List.length_append, M.len]; rfl
theorem Made.sub {x1 x2 sz : Int} : ∀ {done : List (Int × Int)} {ys : List Value} {nw : List (Addr × Obj)}, Made x1 x2 sz news done ys nw → ∀ p ∈ news, p ∈ nw
  | [], _, _, h => fun p hp => by rw [h.2]; exact hp
  | p :: done, _, _, ⟨ys', nw', r, tx, ty, M, _, hn⟩ => fun q hq => by rw [hn]; exact List.mem_cons_of_mem _ (M.sub q hq)
theorem Made.at {x1 x2 sz : Int} : ∀ {done : List (Int × Int)} {ys : List Value} {nw : List (Addr × Obj)}, Made x1 x2 sz news done ys nw → ∀ (i : Nat) (p : Int × Int), done.reverse[i]? = some p →
    ∃ q tx ty, ys[i]? = some (.ref q) ∧ (q, tupO (x1 + sz * p.1) tx (x2 + sz * p.2) ty) ∈ nw
  | [], _, _, _, i, p, e => by simp at e
  | p :: done, _, _, ⟨ys', nw', r, tx, ty, M, hy, hn⟩, i, q, e => by
    rw [List.reverse_cons] at e
    by_cases hi : i < done.length
    · rw [List.getElem?_append_left (by simpa using hi)] at e
      obtain ⟨r', tx', ty', e', hm⟩ := M.at i q e
      refine ⟨r', tx', ty', ?_, by rw [hn]; exact List.mem_cons_of_mem _ hm⟩
      rw [hy, List.getElem?_append_left (by rw [M.len]; exact hi)]
      exact e'
    · rw [List.getElem?_append_right (by simpa using hi)] at e
      have hi' : i - done.reverse.length = 0 := by
        have := List.getElem?_eq_some_iff.mp e
        obtain ⟨h, _⟩ := this
        simp only [List.length_cons, List.length_nil] at h
        omega
      rw [hi'] at e
      simp only [List.getElem?_cons_zero, Option.some.injEq] at e
      subst e
      refine ⟨r, tx, ty, ?_, by rw [hn]; exact List.mem_cons_self⟩
      have hi2 : i = ys'.length := by rw [M.len]; simp only [List.length_reverse] at hi'; omega
      rw [hy, hi2, List.getElem?_append_right (Nat.le_refl _), Nat.sub_self]
      rfl

theorem ring_loop {elt iter : PySem.Expr} {a b : Str} {pa pb tp : Pos} {kk : Nat} {scope : Scope} {cl : List (Str × Addr)} {pos : Pos} {I T : Addr} {ps : List (Addr × Int × Int)} {x1 x2 sz : Int}
    {RR : Value → Addr → Result → Shared → Prop} (hh : A.handled = none) (hTI : T ≠ I) (hT : h₀.IsTuple T (ps.map fun p => Value.ref p.1).toArray)
    (hP : ∀ p ∈ ps, ∃ tx ty, h₀.IsTuple p.1 #[.int p.2.1 tx, .int p.2.2 ty]) (hsz : ps.length ≤ sizeLine) (hit : s.heap.IsTupleIter I T 0)
    (hcell : ∀ y ∈ scope.names, y.2 ≠ .cell) (hkind : scope.kind = .function) (hxa : scope.names.lookup a = some .local) (hxb : scope.names.lookup b = some .local) (hab : ¬ a = b)
    (F : Fr h₀ L s.heap m) (N : News h₀ L s.heap news) (hIL : L ≠ I) (hI₀ : h₀.get? I = none) (off : ∀ p ∈ news, p.1 ≠ I)
    (helt : ∀ (C : Addr) (h : Heap) (tk : Nat) (m₂ : Str → Option Value) (p : Addr × Int × Int) (t1 t2 : Tok) (Q' E' : Value → Shared → Prop), p ∈ ps → h.Ns C m₂ → m₂ a = some (.int p.2.1 t1) → m₂ b = some (.int p.2.2 t2) → News h₀ L h news →
      (∀ tx ty tk', Q' (.ref h.objs.size) { s with heap := h.push (tupO (x1 + sz * p.2.1) tx (x2 + sz * p.2.2) ty), toks := tk' }) → wpAny (model Law w) A (eval elt (compEnvC scope cl C env)) Q' E' { s with heap := h, toks := tk })
    (hRR : ∀ D C h tk m' ys nw, Fr h₀ L h m → News h₀ L h ((D, lst ys) :: nw) → h.Ns C m' → h₀.get? C = none → C ≠ L → C ≠ D → (∀ p ∈ nw, p.1 ≠ C) → Made x1 x2 sz news (ps.map (·.2)).reverse ys nw →
      RR (.ref D) C (.ok .next) { s with heap := h, toks := tk }) :
    wpAny (model Law w) A (newList []) (fun acc s₃ => wpAny (model Law w) A (newFunctionEnv scope env.globals cl [] env.qual none .none (some env)) (fun cenv s₄ =>
      codeAny (model Law w) A (.compStart (.ListComp elt [⟨.Tuple [.Name a pa, .Name b pb] kk tp, iter, [], 0⟩] scope pos) 0 (.ref I) acc { cenv with scope := relabel scope env }) (RR acc cenv.locals) s₄) E s₃) E s := by
  refine wpAny_newObj_type (wpAny_newFunctionEnv hcell (by intro y hy; simp at hy) (fun h₁ hns₁ hsb₁ => ?_) hkind)
  dsimp only at hns₁ hsb₁ ⊢
  generalize hH : s.heap.push { cls := .type "list", dict := none, data := .seq ([] : List Value).toArray } = H at hns₁ hsb₁ ⊢
  generalize hD : s.heap.objs.size = D at *
  generalize hC : H.objs.size = C at *
  have eC : C = D + 1 := by rw [← hC, ← hH, Heap.size_push, hD]
  have lt : ∀ {c : Addr} {o : Obj}, s.heap.get? c = some o → c < D := fun e => hD ▸ Heap.lt_size e
  have DC : D ≠ C := by rw [eC]; exact Nat.ne_of_lt (Nat.lt_succ_self _)
  have neD : ∀ {c : Nat}, c < D → c ≠ D := fun h => Nat.ne_of_lt h
  have neC : ∀ {c : Nat}, c < D → c ≠ C := fun h => by rw [eC]; exact Nat.ne_of_lt (Nat.lt_succ_of_lt h)
  have old : ∀ c o, s.heap.get? c = some o → h₁.get? c = some o := fun c o e =>
    hsb₁.extBut c o (neC (lt e)) (Heap.get?_push_of_some _ (hH ▸ Heap.get?_push_of_some _ e))
  have acc₁ : h₁.get? D = some (lst []) := hsb₁.extBut _ _ DC (Heap.get?_push_of_some _ (by rw [← hH, ← hD]; exact Heap.get?_push_size _ rfl))
  have none₀ : ∀ c : Nat, D ≤ c → h₀.get? c = none := fun c hc => by
    cases e : h₀.get? c with
    | none => rfl
    | some o => exact absurd (lt (F.keep c o e)) (Nat.not_lt.mpr hc)
  have ltL : L < D := hD ▸ F.ns.lt
  have ltI : I < D := by obtain ⟨o, e, _⟩ := hit; exact lt e
  have hC₀ := none₀ C (by rw [eC]; exact Nat.le_succ _)
  have hD₀ := none₀ D (Nat.le_refl _)
  have it₁ : h₁.IsTupleIter I T 0 := by obtain ⟨o, e, r⟩ := hit; exact ⟨o, old _ _ e, r⟩
  have hlen : (ps.map fun p => Value.ref p.1).toArray.size = ps.length := by simp
  have loop : ∀ s' : Shared, s' = { s with heap := h₁, toks := s.toks + ([] : List (Str × Value)).length } →
      codeAny (model Law w) A (.compLoop (.ListComp elt [⟨.Tuple [.Name a pa, .Name b pb] kk tp, iter, [], 0⟩] scope pos) 0 (.ref I) (.ref D) (compEnvC scope cl C env)) (RR (.ref D) C) s' := by
    rintro s' rfl
    refine kcp_loop
      (fun k s' => ∃ h' tk i ys m' nw, s' = { s with heap := h', toks := tk } ∧ i ≤ ps.length ∧ k = ps.length + 1 - i ∧ h'.IsTupleIter I T i ∧ Fr h₀ L h' m ∧ h'.Ns C m' ∧ News h₀ L h' ((D, lst ys) :: nw) ∧
        (∀ p ∈ nw, p.1 ≠ I ∧ p.1 ≠ C ∧ p.1 ≠ D) ∧ Made x1 x2 sz news ((ps.take i).map (·.2)).reverse ys nw) ?_ (ps.length + 1)
      ⟨h₁, _, 0, [], _, news, rfl, Nat.zero_le _, rfl, it₁, F.keeps old, hns₁, fun p hp => ?_, fun p hp => ⟨off p hp, neC (lt (N p hp).1), neD (lt (N p hp).1)⟩, rfl, rfl⟩
    · rintro k s' ⟨h', tk, i, ys, m', nw, rfl, hi, rfl, it', F', hn', N', off', M⟩
      have hT' : h'.IsTuple T (ps.map fun p => Value.ref p.1).toArray := hT.at fun o e => F'.keep _ _ e
      by_cases hlt : i < ps.length
      · obtain ⟨p, hp⟩ : ∃ p, ps[i]? = some p := ⟨_, List.getElem?_eq_getElem hlt⟩
        have hpm : p ∈ ps := List.mem_of_getElem? hp
        obtain ⟨t1, t2, hPp⟩ := hP p hpm
        refine wpAny_pyNext_tuple_item it' hT' (x := .ref p.1) (by simp [hp]) fun h₂ it₂ sb₂ => ?_
        refine owned_tup it₂ ?_
        have N₂ : News h₀ L h₂ ((D, lst ys) :: nw) := fun q hq => ⟨sb₂.extBut _ _ (by
          rcases List.mem_cons.mp hq with rfl | hq
          · exact Ne.symm (neD ltI)
          · exact (off' q hq).1) (N' q hq).1, (N' q hq).2⟩
        have F₂ : Fr h₀ L h₂ m := F'.change sb₂ (Ne.symm hIL) hI₀
        refine kcp_assign (env := compEnvC scope cl C env) hh (hPp.at fun o e => F₂.keep _ _ e) (lookup_relabel_local hxa) (lookup_relabel_local hxb) (by simp [compEnvC, relabel, hkind]) (hn'.sameBut sb₂ (Ne.symm (neC ltI))) fun h₃ tk₃ hn₃ up₃ => ?_
        have up₃ : ∀ c o, c ≠ C → h₂.get? c = some o → h₃.get? c = some o := up₃
        have F₃ : Fr h₀ L h₃ m := ⟨F₂.ns.at' fun o e => up₃ _ o (neC ltL) e, fun c o e => up₃ c o (fun q => by rw [q, hC₀] at e; cases e) (F₂.keep c o e), F₂.above⟩
        have N₃ : News h₀ L h₃ ((D, lst ys) :: nw) := fun q hq => ⟨up₃ _ _ (by
          rcases List.mem_cons.mp hq with rfl | hq
          · exact DC
          · exact (off' q hq).2.1) (N₂ q hq).1, (N₂ q hq).2⟩
        have it₃ : h₃.IsTupleIter I T (i + 1) := it₂.at fun o e => up₃ _ o (neC ltI) e
        refine helt C h₃ _ _ p t1 t2 _ _ hpm hn₃ (by simp [hab]) (by simp) (fun q hq => N₃ q (List.mem_cons_of_mem _ (M.sub q hq))) fun tx ty tk₄ => ?_
        generalize ho : tupO (x1 + sz * p.2.1) tx (x2 + sz * p.2.2) ty = o
        have up₄ : ∀ c o', h₃.get? c = some o' → (h₃.push o).get? c = some o' := fun c o' e => Heap.get?_push_of_some _ e
        have hy : ys.toArray.size ≤ sizeLine := by
          rw [List.size_toArray, M.len]
          simp only [List.length_reverse, List.length_map, List.length_take]
          exact Nat.le_trans (Nat.min_le_right _ _) hsz
        refine append_at (hsz := hy) (up₄ _ _ (N₃ _ List.mem_cons_self).1) fun h₅ sb₅ hD₅ => ?_
        have new₄ : (h₃.push o).get? h₃.objs.size = some o := by rw [← ho]; exact Heap.get?_push_size _ rfl
        have gt : ∀ {c : Addr} {o' : Obj}, h₃.get? c = some o' → h₃.objs.size ≠ c := fun e => Ne.symm (Nat.ne_of_lt (Heap.lt_size e))
        obtain ⟨oI, eI, rI⟩ := it₃
        obtain ⟨oC, esC, epC, eC', rC⟩ := hn₃
        have eD := (N₃ _ List.mem_cons_self).1
        have hL3 := F₃.ns.lt
        refine ⟨ps.length + 1 - (i + 1), by omega, h₅, tk₄, i + 1, ys ++ [.ref h₃.objs.size], _, (h₃.objs.size, o) :: nw, rfl, hlt, rfl, ⟨oI, sb₅.extBut _ _ (neD ltI) (up₄ _ _ eI), rI⟩, (F₃.keeps up₄).change sb₅ (Ne.symm (neD ltL)) hD₀,
          ⟨oC, esC, epC, sb₅.extBut _ _ (Ne.symm DC) (up₄ _ _ eC'), rC⟩, fun q hq => ?_, fun q hq => ?_, ?_⟩
        · rcases List.mem_cons.mp hq with rfl | hq
          · exact ⟨hD₅.trans (congrArg some (lst_snoc ys _)), (N₃ _ List.mem_cons_self).2⟩
          · rcases List.mem_cons.mp hq with rfl | hq
            · exact ⟨sb₅.extBut _ _ (gt eD) new₄, Ne.symm (Nat.ne_of_lt hL3), next_is_new F₃⟩
            · exact ⟨sb₅.extBut _ _ (off' q hq).2.2 (up₄ _ _ (N₃ q (List.mem_cons_of_mem _ hq)).1), (N₃ q (List.mem_cons_of_mem _ hq)).2⟩
        · rcases List.mem_cons.mp hq with rfl | hq
          · exact ⟨gt eI, gt eC', gt eD⟩
          · exact off' q hq
        · have et : ps.take (i + 1) = ps.take i ++ [p] := by rw [List.take_add_one, hp]; rfl
          rw [et, List.map_append, List.reverse_append]
          exact ⟨ys, nw, _, tx, ty, M, rfl, by rw [ho]⟩
      · obtain rfl : i = ps.length := Nat.le_antisymm hi (Nat.not_lt.mp hlt)
        refine wpAny_pyNext_tuple_end hh it' hT' (by simp) fun h₂ eb₂ => ?_
        have up : ∀ c o, c ≠ I → h'.get? c = some o → h₂.get? c = some o := fun c o hc e => eb₂ c o hc e
        rw [List.take_length] at M
        refine hRR D C h₂ _ m' ys nw ⟨F'.ns.at' fun o e => up _ o hIL e, fun c o e => up c o (fun q => by rw [q, hI₀] at e; cases e) (F'.keep c o e), F'.above⟩ (fun q hq => ⟨up _ _ ?_ (N' q hq).1, (N' q hq).2⟩) (hn'.at' fun o e => up _ o (Ne.symm (neC ltI)) e) hC₀
          (Ne.symm (neC ltL)) (Ne.symm DC) (fun q hq => (off' q hq).2.1) M
        rcases List.mem_cons.mp hq with rfl | hq
        · exact Ne.symm (neD ltI)
        · exact (off' q hq).1
    · rcases List.mem_cons.mp hp with rfl | hp
      · exact ⟨acc₁, Ne.symm (neD ltL), hD₀⟩
      · exact ⟨old _ _ (N p hp).1, (N p hp).2⟩
  exact codeAny_compStart_list (loop _ rfl) (wpAny_pyIter_tupleiter it₁ (loop _ rfl))

theorem k_ring {elt iter : PySem.Expr} {a b y : Str} {pa pb tp py : Pos} {kk : Nat} {scope : Scope} {cl : List (Str × Addr)} {pos spos : Pos} {T : Addr} {ps : List (Addr × Int × Int)} {x1 x2 sz : Int}
    {Q : Flow → Shared → Prop} (hLe : env.locals = L) (hh : A.handled = none) (F : Fr h₀ L s.heap m) (N : News h₀ L s.heap news) (hT : h₀.IsTuple T (ps.map fun p => Value.ref p.1).toArray)
    (hP : ∀ p ∈ ps, ∃ tx ty, h₀.IsTuple p.1 #[.int p.2.1 tx, .int p.2.2 ty]) (hsz : ps.length ≤ sizeLine)
    (hsw : swapsWith (.ListComp elt [⟨.Tuple [.Name a pa, .Name b pb] kk tp, iter, [], 0⟩] scope pos) (some (.Name y py)) spos.line env = pure true) (hclos : closureFor scope env = pure cl)
    (hcell : ∀ y ∈ scope.names, y.2 ≠ .cell) (hkind : scope.kind = .function) (hnames : ∀ z ∈ scope.names, z.2 = .local → scope.names.lookup z.1 = some .local)
    (hxa : scope.names.lookup a = some .local) (hxb : scope.names.lookup b = some .local) (hab : ¬ a = b)
    (hy : env.kindOf y = some .local) (hp : (env.scope.kind == .class || (env.scope.kind == .module && env.locals != env.globals)) = false) (hs : ∀ x, foldedSetIterable iter env x = pure x)
    (hit : wpAny (model Law w) A (eval iter env) (fun v s' => v = .ref T ∧ s' = s) E s)
    (helt : ∀ (g : Heap) (C : Addr) (h : Heap) (tk : Nat) (m₂ : Str → Option Value) (p : Addr × Int × Int) (t1 t2 : Tok) (Q' E' : Value → Shared → Prop), p ∈ ps → h.Ns C m₂ → m₂ a = some (.int p.2.1 t1) → m₂ b = some (.int p.2.2 t2) → News h₀ L h news →
      (∀ tx ty tk', Q' (.ref h.objs.size) { s with heap := h.push (tupO (x1 + sz * p.2.1) tx (x2 + sz * p.2.2) ty), toks := tk' }) → wpAny (model Law w) A (eval elt (compEnvC scope cl C env)) Q' E' { s with heap := h, toks := tk })
    (k : ∀ D h tk ys nw, Fr h₀ L h (fun z => if z = y then some (.ref D) else m z) → News h₀ L h ((D, lst ys) :: nw) → Made x1 x2 sz news (ps.map (·.2)).reverse ys nw → Q .next { s with heap := h, toks := tk }) :
    wpAny (model Law w) A (exec (.Assign [.Name y py] (.ListComp elt [⟨.Tuple [.Name a pa, .Name b pb] kk tp, iter, [], 0⟩] scope pos) spos) env) Q E s := by
  subst hLe
  rw [exec_Assign_Name_used _ _ _ _ hsw]
  refine wpAny_bind (wpAny_standAt (wpAny_bind ?_))
  show wpAny _ A (do let _ ← comprehension (.ListComp elt [⟨.Tuple [.Name a pa, .Name b pb] kk tp, iter, [], 0⟩] scope pos) scope env _ (newList []) false (eval iter env) (some (assign (.Name y py) env))) _ _ s
  refine wpAny_bind (wpAny_mono (wpAny_comprehension_free (use := some (assign (.Name y py) env)) (Q := fun _ s' => Q .next s') rfl hs hclos hkind hnames
    (wpAny_mono hit (fun v s' hv => ?_) fun _ _ e => e)) (fun _ s' hq => wpAny_pure (wpAny_pure hq)) fun _ _ e => e)
  obtain ⟨rfl, rfl⟩ := hv
  have hl : s'.heap.IsTuple T (ps.map fun p => Value.ref p.1).toArray := hT.at fun o e => F.keep _ _ e
  have hlt : T ≠ s'.heap.objs.size := by obtain ⟨_, e, _⟩ := hl; exact Nat.ne_of_lt (Heap.lt_size e)
  refine wpAny_pyIter_tuple hl ?_
  have up : ∀ b o, s'.heap.get? b = some o → (s'.heap.push { cls := .type "tuple_iterator", data := .fields #[.ref T, .int 0 0] }).get? b = some o := fun b o e => Heap.get?_push_of_some _ e
  refine ring_loop (s := { s' with heap := s'.heap.push { cls := .type "tuple_iterator", data := .fields #[.ref T, .int 0 0] } }) hh hlt hT hP hsz ⟨_, Heap.get?_push_size _ rfl, rfl, rfl⟩ hcell hkind hxa hxb hab (F.keeps up) (N.grown up) (Nat.ne_of_lt F.ns.lt) (next_is_new F)
    (fun p hp => Nat.ne_of_lt (Heap.lt_size (N p hp).1)) (fun C h tk m₂ p t1 t2 Q' E' => helt s'.heap C h tk m₂ p t1 t2 Q' E') ?_
  intro D C h tk m' ys nw F' N' hn hC₀ hCL hCD offC M
  show wpAny _ A (assign (.Name y py) env (.ref D)) _ _ _
  refine wpAny_assign_Name (wpAny_storeName_local hy F'.ns (fun h₂ hn₂ hs₂ => ?_) hp)
  have hL₀ : h₀.get? env.locals = none := Heap.get?_none_of_le F'.above
  have F₂ : Fr h₀ env.locals h₂ (fun z => if z = y then some (.ref D) else m z) := ⟨hn₂, fun b o e => hs₂.extBut b o (fun q => by rw [q, hL₀] at e; cases e) (F'.keep b o e), F'.above⟩
  refine ⟨m', hn.sameBut hs₂ hCL, fun h'' hs'' => k D h'' _ ys nw (F₂.change hs'' hCL hC₀) (fun p hp => ?_) M⟩
  have z : h₂.get? p.1 = some p.2 := hs₂.extBut _ _ (N' p hp).2.1 (N' p hp).1
  refine ⟨hs''.extBut _ _ ?_ z, (N' p hp).2⟩
  rcases List.mem_cons.mp hp with rfl | hp
  · exact Ne.symm hCD
  · exact offC p hp

theorem ring_elt {mid szn a b : Str} {q1 q2 q3 q4 q5 q6 q7 q8 q9 q10 q11 q12 q13 q14 q15 : Pos} {k1 k2 k3 : Nat} {scope : Scope} {cl : List (Str × Addr)} {cm cz D1 C : Addr} {om oz : Obj} {x1 x2 sz i1 i2 : Int} {u1 u2 uz t1 t2 : Tok} {m₂ : Str → Option Value} {Q : Value → Shared → Prop}
    (N : News h₀ L s.heap news) (hcm : cl.lookup mid = some cm) (hcz : cl.lookup szn = some cz) (hmm : (cm, om) ∈ news) (hdm : om.data = .cell (some (.ref D1))) (hmz : (cz, oz) ∈ news) (hdz : oz.data = .cell (some (.int sz uz)))
    (hmd : (D1, tupO x1 u1 x2 u2) ∈ news) (hn : s.heap.Ns C m₂) (ha : m₂ a = some (.int i1 t1)) (hb : m₂ b = some (.int i2 t2)) (hk : scope.kind = .function) (hkm : (compEnvC scope cl C env).kindOf mid = some .cell) (hkz : (compEnvC scope cl C env).kindOf szn = some .cell)
    (hxa : scope.names.lookup a = some .local) (hxb : scope.names.lookup b = some .local) (h1 : (mid == ("__debug__" : Str)) = false) (h2 : (szn == ("__debug__" : Str)) = false) (h3 : (a == ("__debug__" : Str)) = false) (h4 : (b == ("__debug__" : Str)) = false)
    (hbz : Builtin.Int.intBits sz ≤ 1100000) (hb1 : Builtin.Int.intBits i1 ≤ 3) (hb2 : Builtin.Int.intBits i2 ≤ 3)
    (hQ : ∀ tx ty tk', Q (.ref s.heap.objs.size) { s with heap := s.heap.push (tupO (x1 + sz * i1) tx (x2 + sz * i2) ty), toks := tk' }) :
    wpAny (model Law w) A (eval (.Tuple [.BinOp (.Subscript (.Name mid q1) (.Constant (.int 0) k1 q2) q3) .Add (.BinOp (.Name szn q4) .Mult (.Name a q5) q6) q7,
      .BinOp (.Subscript (.Name mid q8) (.Constant (.int 1) k2 q9) q10) .Add (.BinOp (.Name szn q11) .Mult (.Name b q12) q13) q14] k3 q15) (compEnvC scope cl C env)) Q E s := by
  have hkk : (compEnvC scope cl C env).scope.kind = .function := by simp [compEnvC, relabel, hk]
  have hT : IsTup s.heap D1 [.int x1 u1, .int x2 u2].toArray := ⟨_, N.get hmd, rfl, _, rfl⟩
  have f1 : IntMulOk sz i1 := mulOk_of_bits hbz hb1 (by decide)
  have f2 : IntMulOk sz i2 := mulOk_of_bits hbz hb2 (by decide)
  refine Tuple_ (spliced_more ?_)
  refine wpAny_BinOp (Subscript_ ?_)
  refine lcf_cell N hcm hmm hdm ?_ hkk hkm h1
  refine wpAny_Constant_int ?_
  refine item_tupleT hT (by decide) (by decide) (j := 0) rfl rfl ?_
  refine wpAny_BinOp ?_
  refine lcf_cell (news := news) (h₀ := h₀) (L := L) N hcz hmz hdz ?_ hkk hkz h2
  refine wpAny_Name (wpAny_loadName_local hkk (lookup_relabel_local hxa) hn ha ?_) h3
  refine PyProof.Rows.mul_int ?_ f1
  refine wpAny_add_int ?_
  refine spliced_more ?_
  refine wpAny_BinOp (Subscript_ ?_)
  refine lcf_cell (news := news) (h₀ := h₀) (L := L) N hcm hmm hdm ?_ hkk hkm h1
  refine wpAny_Constant_int ?_
  refine item_tupleT hT (by decide) (by decide) (j := 1) rfl rfl ?_
  refine wpAny_BinOp ?_
  refine lcf_cell (news := news) (h₀ := h₀) (L := L) N hcz hmz hdz ?_ hkk hkz h2
  refine wpAny_Name (wpAny_loadName_local hkk (lookup_relabel_local hxb) hn hb ?_) h4
  refine PyProof.Rows.mul_int ?_ f2
  refine wpAny_add_int ?_
  refine spliced_none ?_
  exact wpAny_newTuple (hQ _ _ _)

def ringL : List (Addr × Int × Int) := [(266, 5, 0), (267, 4, 3), (268, 3, 4), (269, 0, 5), (270, -3, 4), (271, -4, 3), (272, -5, 0), (273, -4, -3), (274, -3, -4), (275, 0, -5), (276, 3, -4), (277, 4, -3)]
theorem ring_T {p : Params} (X : (Mine.hd.heap_39 p).In h₀) : h₀.IsTuple 278 (ringL.map fun p => Value.ref p.1).toArray := ⟨_, X 278 _ (by with_unfolding_all rfl), rfl, _, rfl⟩
theorem ring_P {p : Params} (X : (Mine.hd.heap_39 p).In h₀) : ∀ p ∈ ringL, ∃ tx ty, h₀.IsTuple p.1 #[.int p.2.1 tx, .int p.2.2 ty] := by
  simp only [ringL, List.forall_mem_cons, List.not_mem_nil, false_implies, implies_true, and_true]
  refine ⟨?_, ?_, ?_, ?_, ?_, ?_, ?_, ?_, ?_, ?_, ?_, ?_⟩
  all_goals exact ⟨_, _, _, X _ _ (by with_unfolding_all rfl), rfl, _, rfl⟩
theorem ring_bits : ∀ p ∈ ringL, Builtin.Int.intBits p.2.1 ≤ 3 ∧ Builtin.Int.intBits p.2.2 ≤ 3 := by decide
def RX (i : Int) : Int := ([5, 4, 3, 0, -3, -4, -5, -4, -3, 0, 3, 4] : List Int).getD i.toNat 0
def RY (i : Int) : Int := ([0, 3, 4, 5, 4, 3, 0, -3, -4, -5, -4, -3] : List Int).getD i.toNat 0
theorem twelve {i : Int} (lo : 0 ≤ i) (hi : i < 12) : i = 0 ∨ i = 1 ∨ i = 2 ∨ i = 3 ∨ i = 4 ∨ i = 5 ∨ i = 6 ∨ i = 7 ∨ i = 8 ∨ i = 9 ∨ i = 10 ∨ i = 11 := by omega
theorem rx_bits {i : Int} (lo : 0 ≤ i) (hi : i < 12) : Builtin.Int.intBits (RX i) ≤ 3 ∧ Builtin.Int.intBits (RY i) ≤ 3 := by
  rcases twelve lo hi with rfl | rfl | rfl | rfl | rfl | rfl | rfl | rfl | rfl | rfl | rfl | rfl <;> decide
def Ring (x1 x2 sz : Int) (ys : List Value) (nw : List (Addr × Obj)) : Prop :=
  ∀ i : Int, 0 ≤ i → i < 12 → ∃ q tx ty, ys[i.toNat]? = some (.ref q) ∧ (q, tupO (x1 + sz * RX i) tx (x2 + sz * RY i) ty) ∈ nw
theorem ring_of {x1 x2 sz : Int} {ys : List Value} {nw : List (Addr × Obj)} (M : Made x1 x2 sz news (ringL.map (·.2)).reverse ys nw) : Ring x1 x2 sz ys nw := fun i lo hi => by
  refine M.at i.toNat (RX i, RY i) ?_
  rcases twelve lo hi with rfl | rfl | rfl | rfl | rfl | rfl | rfl | rfl | rfl | rfl | rfl | rfl <;> rfl
theorem bits64 {x : Int} (h1 : -18446744073709551616 < x) (h2 : x < 18446744073709551616) : Builtin.Int.intBits x ≤ 64 := intBits_le_64 (by simpa using h1) (by simpa using h2)
theorem bits_size {z : Int} (h : Builtin.Int.intBits z ≤ 1048576) : Builtin.Int.intBits (1 + z) ≤ 1100000 := Nat.le_trans (bits_add (m := 1) (by decide) h) (by decide)
theorem bits_size1 {z : Int} (h : Builtin.Int.intBits z ≤ 1048576) : Builtin.Int.intBits (1 + z) ≤ 1048577 := Nat.le_trans (bits_add (m := 1) (by decide) h) (by decide)
theorem k_ring12 {elt iter : PySem.Expr} {a b y : Str} {pa pb tp py : Pos} {kk : Nat} {scope : Scope} {cl : List (Str × Addr)} {pos spos : Pos} {x1 x2 sz : Int} {p : Params}
    {Q : Flow → Shared → Prop} (hLe : env.locals = L) (hh : A.handled = none) (F : Fr h₀ L s.heap m) (N : News h₀ L s.heap news) (X : (Mine.hd.heap_39 p).In h₀)
    (hsw : swapsWith (.ListComp elt [⟨.Tuple [.Name a pa, .Name b pb] kk tp, iter, [], 0⟩] scope pos) (some (.Name y py)) spos.line env = pure true) (hclos : closureFor scope env = pure cl)
    (hcell : ∀ y ∈ scope.names, y.2 ≠ .cell) (hkind : scope.kind = .function) (hnames : ∀ z ∈ scope.names, z.2 = .local → scope.names.lookup z.1 = some .local)
    (hxa : scope.names.lookup a = some .local) (hxb : scope.names.lookup b = some .local) (hab : ¬ a = b)
    (hy : env.kindOf y = some .local) (hp : (env.scope.kind == .class || (env.scope.kind == .module && env.locals != env.globals)) = false) (hs : ∀ x, foldedSetIterable iter env x = pure x)
    (hit : wpAny (model Law w) A (eval iter env) (fun v s' => v = .ref 278 ∧ s' = s) E s)
    (helt : ∀ (C : Addr) (h : Heap) (tk : Nat) (m₂ : Str → Option Value) (i1 i2 : Int) (t1 t2 : Tok) (Q' E' : Value → Shared → Prop), Builtin.Int.intBits i1 ≤ 3 → Builtin.Int.intBits i2 ≤ 3 → h.Ns C m₂ → m₂ a = some (.int i1 t1) → m₂ b = some (.int i2 t2) → News h₀ L h news →
      (∀ tx ty tk', Q' (.ref h.objs.size) { s with heap := h.push (tupO (x1 + sz * i1) tx (x2 + sz * i2) ty), toks := tk' }) → wpAny (model Law w) A (eval elt (compEnvC scope cl C env)) Q' E' { s with heap := h, toks := tk })
    (k : ∀ D h tk ys nw, Fr h₀ L h (fun z => if z = y then some (.ref D) else m z) → News h₀ L h ((D, lst ys) :: (news ++ nw)) → Ring x1 x2 sz ys nw → Q .next { s with heap := h, toks := tk }) :
    wpAny (model Law w) A (exec (.Assign [.Name y py] (.ListComp elt [⟨.Tuple [.Name a pa, .Name b pb] kk tp, iter, [], 0⟩] scope pos) spos) env) Q E s :=
  k_ring hLe hh F N (ring_T X) (ring_P X) (by decide) hsw hclos hcell hkind hnames hxa hxb hab hy hp hs hit
    (fun _ C h tk m₂ p t1 t2 Q' E' hp hn ha hb => helt C h tk m₂ _ _ t1 t2 Q' E' (ring_bits p hp).1 (ring_bits p hp).2 hn ha hb)
    fun D h tk ys nw F' N' M => k D h tk ys nw F' (fun p hp => by
      rcases List.mem_cons.mp hp with rfl | hp
      · exact N' _ List.mem_cons_self
      · rcases List.mem_append.mp hp with hp | hp
        · exact N' _ (List.mem_cons_of_mem _ (M.sub _ hp))
        · exact N' _ (List.mem_cons_of_mem _ hp)) (ring_of M)
theorem k_pick {value slice : PySem.Expr} {D : Addr} {ys : List Value} {nw nws : List (Addr × Obj)} {x1 x2 sz i : Int} {u : Tok} {Q : Value → Shared → Prop} (N : News h₀ L s.heap nws) (hm : (D, lst ys) ∈ nws) (R : Ring x1 x2 sz ys nw)
    (sub : ∀ p ∈ nw, p ∈ nws) (lo : 0 ≤ i) (hi : i < 12) (b1 : Builtin.Int.intBits x1 ≤ 1048576) (b2 : Builtin.Int.intBits x2 ≤ 1048576) (bz : Builtin.Int.intBits sz ≤ 1048577) (hs : subscripted slice false (.ref D) (.int i u) = operate [.ref D, .int i u] (getItem (.ref D) (.int i u)))
    (k : ∀ q tx ty, Builtin.Int.intBits (x1 + sz * RX i) ≤ 1048600 → Builtin.Int.intBits (x2 + sz * RY i) ≤ 1048600 → News h₀ L s.heap ((q, tupO (x1 + sz * RX i) tx (x2 + sz * RY i) ty) :: nws) → Q (.ref q) s) : wpAny (model Law w) A (subscriptTail value slice (.ref D) (.int i u)) Q E s := by
  obtain ⟨q, tx, ty, e, hq⟩ := R i lo hi
  refine item_litK (N.isList hm) lo (by omega) e ?_ hs
  refine k q tx ty (Nat.le_trans (bits_add b1 (bits_mul bz (rx_bits lo hi).1)) (by decide)) (Nat.le_trans (bits_add b2 (bits_mul bz (rx_bits lo hi).2)) (by decide)) fun p hp => ?_
  rcases List.mem_cons.mp hp with rfl | hp
  · exact N _ (sub _ hq)
  · exact N p hp
end
end Mine
namespace Mine

theorem says_mul {g w p : Int} (hw : 0 < w) (hp : p = -g * w) : SaysL (wordA g) p := by
  unfold SaysL wordA
  rcases Int.lt_trichotomy g 0 with h | h | h
  · have : 0 < p := by rw [hp]; exact Int.mul_pos (by omega) hw
    rw [if_pos h]
    exact ⟨fun _ => rfl, fun h' => by omega, fun h' => by omega⟩
  · subst h
    have : p = 0 := by rw [hp]; simp
    exact ⟨fun h' => by omega, fun h' => by omega, fun _ => rfl⟩
  · have : 0 < -p := by rw [hp, Int.neg_mul, Int.neg_neg]; exact Int.mul_pos h hw
    rw [if_neg (by omega), if_pos h]
    exact ⟨fun h' => by omega, fun _ => rfl, fun h' => by omega⟩
theorem inC_cyc (z1 z2 a1 a2 b1 b2 c1 c2 : Int) : inC z1 z2 b1 b2 c1 c2 a1 a2 = inC z1 z2 a1 a2 b1 b2 c1 c2 := by
  unfold inC
  ac_rfl
theorem inC_a (a1 a2 b1 b2 c1 c2 : Int) : inC a1 a2 a1 a2 b1 b2 c1 c2 = 0 := by
  unfold inC
  simp [Int.sub_self]
theorem inC_circle (s m1 m2 zx zy a1 a2 b1 b2 c1 c2 : Int) (ha : a1 * a1 + a2 * a2 = 25) (hb : b1 * b1 + b2 * b2 = 25) (hc : c1 * c1 + c2 * c2 = 25) :
    inC zx zy (m1 + s * a1) (m2 + s * a2) (m1 + s * b1) (m2 + s * b2) (m1 + s * c1) (m2 + s * c2) = -((zx - m1) * (zx - m1) + (zy - m2) * (zy - m2) - 25 * s * s) * (s * s * areaP a1 a2 b1 b2 c1 c2) := by
  obtain ⟨u, hu⟩ : ∃ u, u = zx - m1 := ⟨_, rfl⟩
  obtain ⟨v, hv⟩ : ∃ v, v = zy - m2 := ⟨_, rfl⟩
  have e1 : ∀ a : Int, m1 + s * a - zx = s * a - u := fun a => by rw [hu]; omega
  have e2 : ∀ a : Int, m2 + s * a - zy = s * a - v := fun a => by rw [hv]; omega
  unfold inC
  simp only [e1, e2]
  rw [← hu, ← hv]
  have n : ∀ p q : Int, p * p + q * q = 25 → (s * p - u) * (s * p - u) + (s * q - v) * (s * q - v) = 25 * s * s - 2 * s * (p * u + q * v) + u * u + v * v := fun p q h => by
    have e : 25 * s * s = (p * p + q * q) * s * s := by rw [h]
    rw [e]; grind
  rw [n _ _ ha, n _ _ hb, n _ _ hc]
  unfold areaP
  grind
theorem ring_area : ∀ i j k : Fin 12, i < j → j < k → 0 < areaP (RX (i.val : Int)) (RY (i.val : Int)) (RX (j.val : Int)) (RY (j.val : Int)) (RX (k.val : Int)) (RY (k.val : Int)) := by decide +kernel
theorem ring_on {i : Int} (lo : 0 ≤ i) (hi : i < 12) : RX i * RX i + RY i * RY i = 25 := by
  rcases twelve lo hi with rfl | rfl | rfl | rfl | rfl | rfl | rfl | rfl | rfl | rfl | rfl | rfl <;> decide
theorem ring_areaI {i j k : Int} (lo : 0 ≤ i) (h1 : i < j) (h2 : j < k) (hi : k < 12) : 0 < areaP (RX i) (RY i) (RX j) (RY j) (RX k) (RY k) := by
  have h := ring_area ⟨i.toNat, by omega⟩ ⟨j.toNat, by omega⟩ ⟨k.toNat, by omega⟩ (by show i.toNat < j.toNat; omega) (by show j.toNat < k.toNat; omega)
  simpa only [Int.toNat_of_nonneg lo, Int.toNat_of_nonneg (show 0 ≤ j by omega), Int.toNat_of_nonneg (show 0 ≤ k by omega)] using h
theorem ring_says {x1 x2 z i j k zx zy : Int} (hz : 0 ≤ z) (lo : 0 ≤ i) (h1 : i < j) (h2 : j < k) (hi : k < 12) : SaysL (wordA ((zx - x1) * (zx - x1) + (zy - x2) * (zy - x2) - 25 * (1 + z) * (1 + z))) (inC zx zy (x1 + (1 + z) * RX i) (x2 + (1 + z) * RY i) (x1 + (1 + z) * RX j) (x2 + (1 + z) * RY j) (x1 + (1 + z) * RX k) (x2 + (1 + z) * RY k)) :=
  says_mul (Int.mul_pos (Int.mul_pos (by omega) (by omega)) (ring_areaI lo h1 h2 hi)) (inC_circle _ _ _ _ _ _ _ _ _ _ _ (ring_on lo (by omega)) (ring_on (by omega) (by omega)) (ring_on (by omega) hi))
theorem ring_says2 {x1 x2 z i j k zx zy : Int} (hz : 0 ≤ z) (lo : 0 ≤ i) (h1 : i < j) (h2 : j < k) (hi : k < 12) : SaysL (wordA ((zx - x1) * (zx - x1) + (zy - x2) * (zy - x2) - 25 * (1 + z) * (1 + z))) (inC zx zy (x1 + (1 + z) * RX j) (x2 + (1 + z) * RY j) (x1 + (1 + z) * RX k) (x2 + (1 + z) * RY k) (x1 + (1 + z) * RX i) (x2 + (1 + z) * RY i)) := by
  rw [inC_cyc]; exact ring_says hz lo h1 h2 hi
theorem ring_says3 {x1 x2 z i j k zx zy : Int} (hz : 0 ≤ z) (lo : 0 ≤ i) (h1 : i < j) (h2 : j < k) (hi : k < 12) : SaysL (wordA ((zx - x1) * (zx - x1) + (zy - x2) * (zy - x2) - 25 * (1 + z) * (1 + z))) (inC zx zy (x1 + (1 + z) * RX k) (x2 + (1 + z) * RY k) (x1 + (1 + z) * RX i) (x2 + (1 + z) * RY i) (x1 + (1 + z) * RX j) (x2 + (1 + z) * RY j)) := by
  rw [inC_cyc, inC_cyc]; exact ring_says hz lo h1 h2 hi
theorem says_zero {p : Int} (h : p = 0) : SaysL 198 p := ⟨fun h' => by omega, fun h' => by omega, fun _ => rfl⟩
theorem says_a (a1 a2 b1 b2 c1 c2 : Int) : SaysL 198 (inC a1 a2 a1 a2 b1 b2 c1 c2) := says_zero (inC_a _ _ _ _ _ _)
theorem says_b (a1 a2 b1 b2 c1 c2 : Int) : SaysL 198 (inC a1 a2 b1 b2 c1 c2 a1 a2) := says_zero (by rw [inC_cyc]; exact inC_a _ _ _ _ _ _)
theorem says_c (a1 a2 b1 b2 c1 c2 : Int) : SaysL 198 (inC a1 a2 c1 c2 a1 a2 b1 b2) := says_zero (by rw [inC_cyc, inC_cyc]; exact inC_a _ _ _ _ _ _)
theorem gap_inC (zx zy a1 a2 b1 b2 c1 c2 : Int) : gapP zx zy a1 a2 b1 b2 c1 c2 = -(inC zx zy a1 a2 b1 b2 c1 c2) * (4 * areaP a1 a2 b1 b2 c1 c2) := by
  obtain ⟨u1, h1⟩ : ∃ u, zx = a1 + u := ⟨zx - a1, by omega⟩
  obtain ⟨u2, h2⟩ : ∃ u, zy = a2 + u := ⟨zy - a2, by omega⟩
  obtain ⟨v1, h3⟩ : ∃ u, b1 = a1 + u := ⟨b1 - a1, by omega⟩
  obtain ⟨v2, h4⟩ : ∃ u, b2 = a2 + u := ⟨b2 - a2, by omega⟩
  obtain ⟨w1, h5⟩ : ∃ u, c1 = a1 + u := ⟨c1 - a1, by omega⟩
  obtain ⟨w2, h6⟩ : ∃ u, c2 = a2 + u := ⟨c2 - a2, by omega⟩
  subst h1 h2 h3 h4 h5 h6
  have hA : areaP a1 a2 (a1 + v1) (a2 + v2) (a1 + w1) (a2 + w2) = v1 * w2 - v2 * w1 := by unfold areaP; grind
  have hI : inC (a1 + u1) (a2 + u2) a1 a2 (a1 + v1) (a2 + v2) (a1 + w1) (a2 + w2) = inC u1 u2 0 0 v1 v2 w1 w2 := by unfold inC; congr 1 <;> grind
  have hG : gapP (a1 + u1) (a2 + u2) a1 a2 (a1 + v1) (a2 + v2) (a1 + w1) (a2 + w2) = gapP u1 u2 0 0 v1 v2 w1 w2 := by
    have k1 : ∀ p q : Int, p + q - p = q := fun p q => by omega
    unfold gapP
    rw [hA]
    simp only [k1]
    have hA0 : areaP 0 0 v1 v2 w1 w2 = v1 * w2 - v2 * w1 := by unfold areaP; grind
    rw [hA0]
    simp only [Int.sub_zero, Int.zero_mul, Int.zero_add]
    grind
  rw [hG, hI, hA]
  unfold gapP inC
  have hA0 : areaP 0 0 v1 v2 w1 w2 = v1 * w2 - v2 * w1 := by unfold areaP; grind
  simp only [hA0, Int.sub_zero, Int.zero_mul, Int.zero_add, Int.zero_sub]
  grind
theorem beside_eq (e1 e2 t w0 w1 s0 s1 : Int) : orient e1 e2 (e1 + w0) (e2 + w1) (e1 + t * w0 + s0) (e2 + t * w1 + s1) = w0 * s1 - w1 * s0 := by
  unfold orient
  grind
theorem k_isnotO {M : Model} {A : Around} {E : Value → Shared → Prop} {s : Shared} {x y : Int} {Q : Value → Shared → Prop} (h : x = y) (k : Q (.bool false) s) : wpAny M A (compareOp .IsNot (.ref (wayA x)) (.ref (wayA y))) Q E s := by
  subst h; exact wpAny_isNot_ref_self k
theorem says_mul' {g w p : Int} (hw : 0 < w) (hp : g = -p * w) : SaysL (wordA g) p := by
  unfold SaysL wordA
  rcases Int.lt_trichotomy p 0 with h | h | h
  · have : 0 < g := by rw [hp]; exact Int.mul_pos (by omega) hw
    rw [if_neg (by omega), if_pos this]
    exact ⟨fun h' => by omega, fun _ => rfl, fun h' => by omega⟩
  · subst h
    have : g = 0 := by rw [hp]; simp
    rw [if_neg (by omega), if_neg (by omega)]
    exact ⟨fun h' => by omega, fun h' => by omega, fun _ => rfl⟩
  · have : 0 < -g := by rw [hp, Int.neg_mul, Int.neg_neg]; exact Int.mul_pos h hw
    rw [if_pos (by omega)]
    exact ⟨fun _ => rfl, fun h' => by omega, fun h' => by omega⟩
theorem gap_says {zx zy a1 a2 b1 b2 c1 c2 : Int} (h : 0 < areaP a1 a2 b1 b2 c1 c2) : SaysL (wordA (gapP zx zy a1 a2 b1 b2 c1 c2)) (inC zx zy a1 a2 b1 b2 c1 c2) := says_mul' (Int.mul_pos (by decide) h) (gap_inC _ _ _ _ _ _ _ _)
theorem gap_says2 {zx zy a1 a2 b1 b2 c1 c2 : Int} (h : 0 < areaP a1 a2 b1 b2 c1 c2) : SaysL (wordA (gapP zx zy a1 a2 b1 b2 c1 c2)) (inC zx zy b1 b2 c1 c2 a1 a2) := by rw [inC_cyc]; exact gap_says h
theorem gap_says3 {zx zy a1 a2 b1 b2 c1 c2 : Int} (h : 0 < areaP a1 a2 b1 b2 c1 c2) : SaysL (wordA (gapP zx zy a1 a2 b1 b2 c1 c2)) (inC zx zy c1 c2 a1 a2 b1 b2) := by rw [inC_cyc, inC_cyc]; exact gap_says h
end Mine
namespace Mine
section
local macro_rules | `(tactic| x_close) => `(tactic| exact ⟨_, _, rfl, (by first | exact grew_of (by assumption) | exact fun _ _ e => e), rfl⟩)
theorem x_bool172 {w : World} {s : Shared} (X : (Mine.hd.heap_39 w.params).In s.heap) :
    wpAny (model Law w) Amax (PySem.call (.type "bool") [.ref 172] []) (fun v s' => ∃ h' t', s' = { s with heap := h', toks := t' } ∧ Grew s.heap h' ∧ v = .bool true) (fun _ _ => False) s := by
  w_top off
  x_run
theorem x_bool175 {w : World} {s : Shared} (X : (Mine.hd.heap_39 w.params).In s.heap) :
    wpAny (model Law w) Amax (PySem.call (.type "bool") [.ref 175] []) (fun v s' => ∃ h' t', s' = { s with heap := h', toks := t' } ∧ Grew s.heap h' ∧ v = .bool false) (fun _ _ => False) s := by
  w_top off
  x_run
theorem x_bool178 {w : World} {s : Shared} (X : (Mine.hd.heap_39 w.params).In s.heap) :
    wpAny (model Law w) Amax (PySem.call (.type "bool") [.ref 178] []) (fun v s' => ∃ h' t', s' = { s with heap := h', toks := t' } ∧ Grew s.heap h' ∧ v = .bool true) (fun _ _ => False) s := by
  w_top off
  x_run
theorem x_bool195 {w : World} {s : Shared} (X : (Mine.hd.heap_39 w.params).In s.heap) :
    wpAny (model Law w) Amax (PySem.call (.type "bool") [.ref 195] []) (fun v s' => ∃ h' t', s' = { s with heap := h', toks := t' } ∧ Grew s.heap h' ∧ v = .bool false) (fun _ _ => False) s := by
  w_top off
  x_run
theorem x_bool198 {w : World} {s : Shared} (X : (Mine.hd.heap_39 w.params).In s.heap) :
    wpAny (model Law w) Amax (PySem.call (.type "bool") [.ref 198] []) (fun v s' => ∃ h' t', s' = { s with heap := h', toks := t' } ∧ Grew s.heap h' ∧ v = .bool true) (fun _ _ => False) s := by
  w_top off
  x_run
theorem x_bool201 {w : World} {s : Shared} (X : (Mine.hd.heap_39 w.params).In s.heap) :
    wpAny (model Law w) Amax (PySem.call (.type "bool") [.ref 201] []) (fun v s' => ∃ h' t', s' = { s with heap := h', toks := t' } ∧ Grew s.heap h' ∧ v = .bool true) (fun _ _ => False) s := by
  w_top off
  x_run
end
section
variable {w : World} {mean : ExcName → Option Value} {mg mb : Str → Option Value} {gd : Option (List Code)} {cn : Str} {cs : Scope} {a : Addr} {ccd : Value} {cl : List (Str × Addr)} {outer : List Env} {A A₀ : Around} {base h₀ : Heap} {L : Addr} {m : Str → Option Value} {news : List (Addr × Obj)} {s : Shared} {Q E : Value → Shared → Prop}
theorem k_bool172 (F : Fr h₀ L s.heap m) (X : (Mine.hd.heap_39 w.params).In h₀) (N : News h₀ L s.heap news) (hh : A.handled = none) (hd : A.depth ≤ 600) (hu : A.units ≤ 2000)
    (k : ∀ h' t', Fr h₀ L h' m → News h₀ L h' news → Q (.bool true) { s with heap := h', toks := t' }) : wpAny (model Law w) A (PySem.call (.type "bool") [.ref 172]) Q E s :=
  wpAny_mono (wp_le (x_bool172 (X.keeps F.keep)) (hh.trans rfl) hd (.inl rfl) (.inl rfl) hu) (fun v s' ⟨h', t', e, G, ev⟩ => by subst e ev; exact k h' t' (F.keeps G) (news_grew N G)) fun _ _ e => e.elim
theorem k_bool175 (F : Fr h₀ L s.heap m) (X : (Mine.hd.heap_39 w.params).In h₀) (N : News h₀ L s.heap news) (hh : A.handled = none) (hd : A.depth ≤ 600) (hu : A.units ≤ 2000)
    (k : ∀ h' t', Fr h₀ L h' m → News h₀ L h' news → Q (.bool false) { s with heap := h', toks := t' }) : wpAny (model Law w) A (PySem.call (.type "bool") [.ref 175]) Q E s :=
  wpAny_mono (wp_le (x_bool175 (X.keeps F.keep)) (hh.trans rfl) hd (.inl rfl) (.inl rfl) hu) (fun v s' ⟨h', t', e, G, ev⟩ => by subst e ev; exact k h' t' (F.keeps G) (news_grew N G)) fun _ _ e => e.elim
theorem k_bool178 (F : Fr h₀ L s.heap m) (X : (Mine.hd.heap_39 w.params).In h₀) (N : News h₀ L s.heap news) (hh : A.handled = none) (hd : A.depth ≤ 600) (hu : A.units ≤ 2000)
    (k : ∀ h' t', Fr h₀ L h' m → News h₀ L h' news → Q (.bool true) { s with heap := h', toks := t' }) : wpAny (model Law w) A (PySem.call (.type "bool") [.ref 178]) Q E s :=
  wpAny_mono (wp_le (x_bool178 (X.keeps F.keep)) (hh.trans rfl) hd (.inl rfl) (.inl rfl) hu) (fun v s' ⟨h', t', e, G, ev⟩ => by subst e ev; exact k h' t' (F.keeps G) (news_grew N G)) fun _ _ e => e.elim
theorem k_bool195 (F : Fr h₀ L s.heap m) (X : (Mine.hd.heap_39 w.params).In h₀) (N : News h₀ L s.heap news) (hh : A.handled = none) (hd : A.depth ≤ 600) (hu : A.units ≤ 2000)
    (k : ∀ h' t', Fr h₀ L h' m → News h₀ L h' news → Q (.bool false) { s with heap := h', toks := t' }) : wpAny (model Law w) A (PySem.call (.type "bool") [.ref 195]) Q E s :=
  wpAny_mono (wp_le (x_bool195 (X.keeps F.keep)) (hh.trans rfl) hd (.inl rfl) (.inl rfl) hu) (fun v s' ⟨h', t', e, G, ev⟩ => by subst e ev; exact k h' t' (F.keeps G) (news_grew N G)) fun _ _ e => e.elim
theorem k_bool198 (F : Fr h₀ L s.heap m) (X : (Mine.hd.heap_39 w.params).In h₀) (N : News h₀ L s.heap news) (hh : A.handled = none) (hd : A.depth ≤ 600) (hu : A.units ≤ 2000)
    (k : ∀ h' t', Fr h₀ L h' m → News h₀ L h' news → Q (.bool true) { s with heap := h', toks := t' }) : wpAny (model Law w) A (PySem.call (.type "bool") [.ref 198]) Q E s :=
  wpAny_mono (wp_le (x_bool198 (X.keeps F.keep)) (hh.trans rfl) hd (.inl rfl) (.inl rfl) hu) (fun v s' ⟨h', t', e, G, ev⟩ => by subst e ev; exact k h' t' (F.keeps G) (news_grew N G)) fun _ _ e => e.elim
theorem k_bool201 (F : Fr h₀ L s.heap m) (X : (Mine.hd.heap_39 w.params).In h₀) (N : News h₀ L s.heap news) (hh : A.handled = none) (hd : A.depth ≤ 600) (hu : A.units ≤ 2000)
    (k : ∀ h' t', Fr h₀ L h' m → News h₀ L h' news → Q (.bool true) { s with heap := h', toks := t' }) : wpAny (model Law w) A (PySem.call (.type "bool") [.ref 201]) Q E s :=
  wpAny_mono (wp_le (x_bool201 (X.keeps F.keep)) (hh.trans rfl) hd (.inl rfl) (.inl rfl) hu) (fun v s' ⟨h', t', e, G, ev⟩ => by subst e ev; exact k h' t' (F.keeps G) (news_grew N G)) fun _ _ e => e.elim
theorem k_eqB3 {a b : Addr} {x y z : Bool} (N : News h₀ L s.heap news) (ha : (a, PySem.W.listOf #[.bool x, .bool y, .bool z] 0) ∈ news) (hb : (b, PySem.W.listOf #[.bool x, .bool y, .bool z] 0) ∈ news) (hu : A.units + 64 < cLine)
    (k : Q (.bool true) s) : wpAny (model Law w) A (compareOp .Eq (.ref a) (.ref b)) Q E s := by
  refine eq_dataH (reads_list_at (News.get N ha) rfl rfl (.cons (.bool x) (.cons (.bool y) (.cons (.bool z) .nil)))) (reads_list_at (News.get N hb) rfl rfl (.cons (.bool x) (.cons (.bool y) (.cons (.bool z) .nil)))) rfl rfl hu ?_
  have e : PyData.eqv (.list [.bool x, .bool y, .bool z]) (.list [.bool x, .bool y, .bool z]) = true := by
    cases x <;> cases y <;> cases z <;> rfl
  rw [e]; exact k
end
end Mine
namespace Mine

section
variable {M : Model} {w : World} {A : Around} {E : Value → Shared → Prop} {s : Shared} {h₀ : Heap} {L : Addr} {Mo : Str → Option Value} {nws : List (Addr × Obj)}
def MidS (f g : Str) (Mo : Str → Option Value) (s : Shared) (h₀ : Heap) (L : Addr) (nws : List (Addr × Obj)) (fl : Flow) (s' : Shared) : Prop :=
  fl = .next ∧ ∃ h' tk qf xf uf yf vf qg xg ug yg vg, s' = { s with heap := h', toks := tk } ∧ Fr h₀ L h' (fun y => if y = g then some (.ref qg) else if y = f then some (.ref qf) else Mo y) ∧ News h₀ L h' nws ∧ (qf, tupO xf uf yf vf) ∈ nws ∧ (qg, tupO xg ug yg vg) ∈ nws ∧
    Builtin.Int.intBits xf ≤ 1048600 ∧ Builtin.Int.intBits yf ≤ 1048600 ∧ Builtin.Int.intBits xg ≤ 1048600 ∧ Builtin.Int.intBits yg ≤ 1048600
theorem cut_swap (f g : Str) {t : Sem Flow} {Q : Flow → Shared → Prop} (F : Fr h₀ L s.heap Mo) (N : News h₀ L s.heap nws) (h1 : wpAny M A t (MidS f g Mo s h₀ L nws) E s)
    (h2 : ∀ h' tk qf xf uf yf vf qg xg ug yg vg, Fr h₀ L h' (fun y => if y = g then some (.ref qg) else if y = f then some (.ref qf) else Mo y) → News h₀ L h' ((qf, tupO xf uf yf vf) :: (qg, tupO xg ug yg vg) :: nws) →
      Builtin.Int.intBits xf ≤ 1048600 → Builtin.Int.intBits yf ≤ 1048600 → Builtin.Int.intBits xg ≤ 1048600 → Builtin.Int.intBits yg ≤ 1048600 → Q .next { s with heap := h', toks := tk }) : wpAny M A t Q E s :=
  wpAny_mono h1 (fun fl s' ⟨e, h', tk, qf, xf, uf, yf, vf, qg, xg, ug, yg, vg, es, F', N', m1, m2, b1, b2, b3, b4⟩ => by
    subst e es
    refine h2 h' tk qf xf uf yf vf qg xg ug yg vg F' (fun p hp => ?_) b1 b2 b3 b4
    rcases List.mem_cons.mp hp with rfl | hp
    · exact N' _ m1
    · rcases List.mem_cons.mp hp with rfl | hp
      · exact N' _ m2
      · exact N' _ hp) fun _ _ e => e
def MidN (Mo : Str → Option Value) (s : Shared) (h₀ : Heap) (L : Addr) (nws : List (Addr × Obj)) (fl : Flow) (s' : Shared) : Prop :=
  fl = .next ∧ ∃ h' tk, s' = { s with heap := h', toks := tk } ∧ Fr h₀ L h' Mo ∧ News h₀ L h' nws
theorem cut_next {t : Sem Flow} {Q : Flow → Shared → Prop} (F : Fr h₀ L s.heap Mo) (N : News h₀ L s.heap nws) (h1 : wpAny M A t (MidN Mo s h₀ L nws) E s)
    (h2 : ∀ h' tk, Fr h₀ L h' Mo → News h₀ L h' nws → Q .next { s with heap := h', toks := tk }) : wpAny M A t Q E s :=
  wpAny_mono h1 (fun fl s' ⟨e, h', tk, es, F', N'⟩ => by subst e es; exact h2 h' tk F' N') fun _ _ e => e
theorem fr_same {h : Heap} {x : Str} {v : Value} (F : Fr h₀ L h Mo) (e : Mo x = some v) : Fr h₀ L h (fun y => if y = x then some v else Mo y) := by
  have : (fun y => if y = x then some v else Mo y) = Mo := by
    funext y
    by_cases h : y = x
    · rw [if_pos h, h, e]
    · rw [if_neg h]
  rw [this]; exact F
theorem fr_same2 {h : Heap} {f g : Str} {v u : Value} (F : Fr h₀ L h Mo) (ef : Mo f = some v) (eg : Mo g = some u) (hne : ¬ g = f) : Fr h₀ L h (fun y => if y = g then some u else if y = f then some v else Mo y) :=
  fr_same (fr_same F ef) (by rw [if_neg hne]; exact eg)
end
end Mine
namespace Mine
theorem good_true {cl : Str → Option Addr} {mean : ExcName → Option Value} {ns : List Int} {s₁ s' : Shared} {L : Addr} {m : Str → Option Value} (F : Fr s₁.heap L s'.heap m) (hg : s'.gens = #[]) (hos : s'.os = s₁.os) :
    GoodW PySem.Challenge.rw_at6035_01.row.claim cl mean [ofPy (.list (ns.map .int))] s₁ (.ok (.ret (.bool true))) s' :=
  goodW_bool F hg (raisesW_false (by wrow_none_raised)) (postW_of (by wrow_shape) (by wtm_val) rfl) hos
end Mine
namespace Mine
def Mark (n : Nat) : Prop := n = n
def Stop (n : Nat) (P : Prop) : Prop := n = n → P
theorem stop_in (n : Nat) {P : Prop} (h : Stop n P) : P := h rfl
theorem stop_out {n : Nat} {P : Prop} (h : P) : Stop n P := fun _ => h
end Mine
open Mine
local macro_rules | `(tactic| k_mem) => `(tactic| (with_reducible_and_instances show (_ : Addr × Obj) ∈ (_ : List (Addr × Obj)); ktr_member))
local macro_rules | `(tactic| bits_by_make) => `(tactic| first | with_reducible assumption | exact bits64 (by omega) (by omega))
local macro_rules | `(tactic| bits_by_make) => `(tactic| first | with_reducible assumption | exact Nat.le_trans (by with_reducible assumption) (Nat.le_of_ble_eq_true rfl))
local macro_rules | `(tactic| walk_at "subscriptTail Name Constant ref int") => `(tactic| (k_here; (with_reducible show wpAny _ _ (subscriptTail _ _ (Value.ref _) (Value.int _ _)) _ _ _); k_dflt (refine' item_litK (News.isList ?N ?m) ?lo ?hi ?x ?_ ?s; (case N => k_asm); (case m => k_mem); (case lo => decide); (case hi => decide); (case x => rfl); (case s => with_unfolding_all rfl); k_whole)))
local macro_rules | `(tactic| walk_at "execs nil") => `(tactic| (k_here; with_reducible refine wpAny_execs_nil ?_))
local macro_rules | `(tactic| walk_at "subscriptTail Name Constant ref int") => `(tactic| (k_here; (with_reducible show wpAny _ _ (subscriptTail _ _ (Value.ref _) (Value.int _ _)) _ _ _); k_dflt (refine' item_tupleT (News.isTup ?N ?m) ?lo ?hi ?j ?x ?_; (case N => k_asm); (case m => k_mem); (case lo => decide); (case hi => decide); (case j => rfl); (case x => rfl); k_whole)))
local macro_rules | `(tactic| walk_at "binaryOp Mod int int") => `(tactic| (k_here; k_dflt ((with_reducible refine' k_mod ?hy ?_); (case hy => omega); intro r' lo' hi')))
local macro_rules | `(tactic| walk_at "call builtin:abs") => `(tactic| (k_here; k_dflt ((with_reducible refine' k_abs ?hb ?_); (case hb => bits_by_make); intro z' u' tk' lz' bz')))
local macro_rules | `(tactic| walk_at "subscriptTail Name Name ref int") => `(tactic| (k_here; (with_reducible show wpAny _ _ (subscriptTail _ _ (Value.ref _) (Value.int _ _)) _ _ _); k_dflt ((rename Ring _ _ _ _ _ => lR'); (rename News _ _ _ _ => lN'); (refine' k_pick lN' ?hm lR' ?sub ?lo ?hi ?b1 ?b2 ?bz ?hs ?_; (case hm => k_mem); (case sub => (intro p hp; (repeat (first | with_reducible exact hp | refine List.mem_cons_of_mem _ ?_)); done)); (case lo => omega); (case hi => omega); (case b1 => with_reducible assumption); (case b2 => with_reducible assumption); (case bz => exact bits_size1 (by assumption)); (case hs => with_unfolding_all rfl)); k_whole); intro q' u' v' bx' by' N'; clear lN'; (try dsimp only)))
local macro_rules | `(tactic| walk_at "subscriptTail Name BinOp ref int") => `(tactic| (k_here; (with_reducible show wpAny _ _ (subscriptTail _ _ (Value.ref _) (Value.int _ _)) _ _ _); k_dflt ((rename Ring _ _ _ _ _ => lR'); (rename News _ _ _ _ => lN'); (refine' k_pick lN' ?hm lR' ?sub ?lo ?hi ?b1 ?b2 ?bz ?hs ?_; (case hm => k_mem); (case sub => (intro p hp; (repeat (first | with_reducible exact hp | refine List.mem_cons_of_mem _ ?_)); done)); (case lo => omega); (case hi => omega); (case b1 => with_reducible assumption); (case b2 => with_reducible assumption); (case bz => exact bits_size1 (by assumption)); (case hs => with_unfolding_all rfl)); k_whole); intro q' u' v' bx' by' N'; clear lN'; (try dsimp only)))
local macro_rules | `(tactic| walk_at "binaryOp Pow int int") => `(tactic| (k_here; k_dflt (refine' k_sq ?hb ?hn ?_; (case hb => bits_by_make); (case hn => exact Nat.le_of_ble_eq_true rfl); k_whole)))
local macro_rules | `(tactic| walk_at "exec Assign cons ListComp") => `(tactic| (k_here; k_dflt (refine' k_ring12 ?hLe ?hh ?F ?N ?X ?hsw ?hclos ?hcell ?hkind ?hnames ?hxa ?hxb ?hab ?hy ?hp ?hs ?hit ?helt ?_; (case hLe => exact rfl); (case hh => exact rfl); (case F => k_asm); (case N => k_asm); (case X => k_asm); (case hsw => with_unfolding_all rfl); (case hclos => with_unfolding_all rfl); (case hcell => decide); (case hkind => exact rfl); (case hnames => decide); (case hxa => exact rfl); (case hxb => exact rfl); (case hab => decide); (case hy => exact rfl); (case hp => exact rfl); (case hs => intro x'; exact rfl); (case hit => (walk1; exact ⟨rfl, rfl⟩)); (case helt => (intro C' g' tk' m' i1' i2' t1' t2' Q' E' hi1 hi2 hn' ha' hb' N'' hQ'; refine' ring_elt N'' ?hcm ?hcz ?hmm ?hdm ?hmz ?hdz ?hmd hn' ha' hb' ?hk ?hkm ?hkz ?hxa ?hxb ?h1 ?h2 ?h3 ?h4 ?hbz hi1 hi2 hQ'; (case hcm => exact rfl); (case hcz => exact rfl); (case hmm => k_mem); (case hdm => assumption); (case hmz => k_mem); (case hdz => assumption); (case hmd => k_mem); (case hk => exact rfl); (case hkm => exact rfl); (case hkz => exact rfl); (case hxa => exact rfl); (case hxb => exact rfl); (case h1 => decide); (case h2 => decide); (case h3 => decide); (case h4 => decide); (case hbz => exact bits_size (by assumption)))); k_whole); intro D' h' t' ys' nw' F' N' R'; (try k_sweep); (try dsimp only); (try simp only [List.cons_append, List.nil_append] at N')))
local macro_rules | `(tactic| walk_at "pyIter ref") => `(tactic| (k_here; (with_reducible show wpAny _ _ (pyIter (Value.ref _)) (fun it s₂ => LoopAtV _ _ _ _ _ _ _ _ _ it s₂) _ _); (with_unfolding_all refine' iter_listUnr ?hh ?F ?N ?hm ?hc ?hd ?_; (case hh => exact rfl); (case F => k_asm); (case N => k_asm); (case hm => k_mem); (case hc => exact rfl); (case hd => exact rfl); k_whole); intro i' l1))
local macro_rules | `(tactic| walk_at "UnrEnd") => `(tactic| k_dflt ((rename (∀ p ∈ (_ : List (Addr × Obj)), p.1 < _) => hl1); (with_unfolding_all refine' UnrEnd.intro ?F ?N _ ?sub (fun p hp => Nat.ne_of_lt (hl1 p hp)) ?_; (case F => k_asm); (case N => k_asm); (case sub => first | (intro p hp; (repeat (first | with_reducible exact hp | refine List.mem_cons_of_mem _ ?_)); done) | kcj_all)); (refine' And.intro ?hm ?_; (case hm => k_mem))))
local macro_rules | `(tactic| walk_at "ListRest") => `(tactic| (with_unfolding_all first | (refine ListRest.succ (fun it' h' tk' hit' F' N' => ?_); (try k_sweep)) | (refine ListRest.zero (fun h' tk' F' N' => ?_); (try k_sweep))))
local macro_rules | `(tactic| walk_at "call ref") => `(tactic| (k_here; (with_reducible show wpAny _ _ (PySem.call (Value.ref 299) [Value.int _ _]) _ _ _); k_dflt (refine' k_word ?B ?F ?X ?N ?T ?hs ?hA ?hk ?hh ?hdep ?hun ?_; (case B => k_asm); (case F => k_asm); (case X => k_asm); (case N => k_asm); (case T => k_asm); (case hA => exact rfl); (case hk => first | exact rfl | assumption); (case hh => exact rfl); (case hdep => exact Nat.le_of_ble_eq_true rfl); (case hun => exact Nat.le_of_ble_eq_true rfl); (case hs => exact wordA_says _); k_whole); intro h' tk' F' N'; (try k_sweep); (try dsimp only); (try k_fold)))
local macro_rules | `(tactic| walk_at "call ref") => `(tactic| (k_here; (with_reducible show wpAny _ _ (PySem.call (Value.ref 285) [Value.ref _, Value.ref _, Value.ref _]) _ _ _); k_dflt (refine' k_area ?B ?F ?X ?N ?T ?hqA ?hqB ?hqC ?bxA ?byA ?bxB ?byB ?bxC ?byC ?hA ?hk ?hh ?hdep ?hun ?_; (case B => k_asm); (case F => k_asm); (case X => k_asm); (case N => k_asm); (case T => k_asm); (case hA => exact rfl); (case hk => first | exact rfl | assumption); (case hh => exact rfl); (case hdep => exact Nat.le_of_ble_eq_true rfl); (case hun => exact Nat.le_of_ble_eq_true rfl); (case hqA => k_mem); (case hqB => k_mem); (case hqC => k_mem); (case bxA => first | with_reducible assumption | (refine' Nat.le_trans ?ba ?bb; (case ba => bits_by_make); (case bb => exact Nat.le_of_ble_eq_true rfl))); (case byA => first | with_reducible assumption | (refine' Nat.le_trans ?ba ?bb; (case ba => bits_by_make); (case bb => exact Nat.le_of_ble_eq_true rfl))); (case bxB => first | with_reducible assumption | (refine' Nat.le_trans ?ba ?bb; (case ba => bits_by_make); (case bb => exact Nat.le_of_ble_eq_true rfl))); (case byB => first | with_reducible assumption | (refine' Nat.le_trans ?ba ?bb; (case ba => bits_by_make); (case bb => exact Nat.le_of_ble_eq_true rfl))); (case bxC => first | with_reducible assumption | (refine' Nat.le_trans ?ba ?bb; (case ba => bits_by_make); (case bb => exact Nat.le_of_ble_eq_true rfl))); (case byC => first | with_reducible assumption | (refine' Nat.le_trans ?ba ?bb; (case ba => bits_by_make); (case bb => exact Nat.le_of_ble_eq_true rfl))); k_whole); intro t' h' tk' F' N'; (try k_sweep); (try dsimp only); (try k_fold)))
local macro_rules | `(tactic| walk_at "call ref") => `(tactic| (k_here; (with_reducible show wpAny _ _ (PySem.call (Value.ref 313) [Value.ref _, Value.ref _, Value.ref _, Value.ref _]) _ _ _); k_dflt (refine' k_gap ?B ?F ?X ?N ?T ?hqZ ?hqA ?hqB ?hqC ?bxZ ?byZ ?bxA ?byA ?bxB ?byB ?bxC ?byC ?hA ?hk ?hh ?hdep ?hun ?_; (case B => k_asm); (case F => k_asm); (case X => k_asm); (case N => k_asm); (case T => k_asm); (case hA => exact rfl); (case hk => first | exact rfl | assumption); (case hh => exact rfl); (case hdep => exact Nat.le_of_ble_eq_true rfl); (case hun => exact Nat.le_of_ble_eq_true rfl); (case hqZ => k_mem); (case hqA => k_mem); (case hqB => k_mem); (case hqC => k_mem); (case bxZ => first | with_reducible assumption | (refine' Nat.le_trans ?ba ?bb; (case ba => bits_by_make); (case bb => exact Nat.le_of_ble_eq_true rfl))); (case byZ => first | with_reducible assumption | (refine' Nat.le_trans ?ba ?bb; (case ba => bits_by_make); (case bb => exact Nat.le_of_ble_eq_true rfl))); (case bxA => first | with_reducible assumption | (refine' Nat.le_trans ?ba ?bb; (case ba => bits_by_make); (case bb => exact Nat.le_of_ble_eq_true rfl))); (case byA => first | with_reducible assumption | (refine' Nat.le_trans ?ba ?bb; (case ba => bits_by_make); (case bb => exact Nat.le_of_ble_eq_true rfl))); (case bxB => first | with_reducible assumption | (refine' Nat.le_trans ?ba ?bb; (case ba => bits_by_make); (case bb => exact Nat.le_of_ble_eq_true rfl))); (case byB => first | with_reducible assumption | (refine' Nat.le_trans ?ba ?bb; (case ba => bits_by_make); (case bb => exact Nat.le_of_ble_eq_true rfl))); (case bxC => first | with_reducible assumption | (refine' Nat.le_trans ?ba ?bb; (case ba => bits_by_make); (case bb => exact Nat.le_of_ble_eq_true rfl))); (case byC => first | with_reducible assumption | (refine' Nat.le_trans ?ba ?bb; (case ba => bits_by_make); (case bb => exact Nat.le_of_ble_eq_true rfl))); k_whole); intro t' h' tk' F' N'; (try k_sweep); (try dsimp only); (try k_fold)))
local macro_rules | `(tactic| walk_at "call ref") => `(tactic| (k_here; (with_reducible show wpAny _ _ (PySem.call (Value.ref 292) [Value.ref _]) _ _ _); k_dflt (refine' k_lawpoint ?B ?F ?X ?N ?T ?hq ?hA ?hk ?hh ?hdep ?hun ?_; (case B => k_asm); (case F => k_asm); (case X => k_asm); (case N => k_asm); (case T => k_asm); (case hA => exact rfl); (case hk => first | exact rfl | assumption); (case hh => exact rfl); (case hdep => exact Nat.le_of_ble_eq_true rfl); (case hun => exact Nat.le_of_ble_eq_true rfl); (case hq => k_mem); k_whole); intro p' d' h' t' F' N'; (try k_sweep); (try dsimp only); (try k_fold)))
local macro_rules | `(tactic| walk_at "call ref") => `(tactic| (k_here; (with_reducible show wpAny _ _ (PySem.call (Value.ref 251) [Value.ref _, Value.ref _, Value.ref _, Value.ref _]) _ _ _); k_dflt (refine' k_angle ?B ?F ?X ?N ?T ?hpV ?hdV ?hpF ?hdF ?hpG ?hdG ?bxV ?byV ?bxF ?byF ?bxG ?byG ?hs ?hA ?hk ?hh ?hdep ?hun ?_; (case B => k_asm); (case F => k_asm); (case X => k_asm); (case N => k_asm); (case T => k_asm); (case hA => exact rfl); (case hk => first | exact rfl | assumption); (case hh => exact rfl); (case hdep => exact Nat.le_of_ble_eq_true rfl); (case hun => exact Nat.le_of_ble_eq_true rfl); (case hpV => k_mem); (case hdV => k_mem); (case hpF => k_mem); (case hdF => k_mem); (case hpG => k_mem); (case hdG => k_mem); (case bxV => first | with_reducible assumption | (refine' Nat.le_trans ?ba ?bb; (case ba => bits_by_make); (case bb => exact Nat.le_of_ble_eq_true rfl))); (case byV => first | with_reducible assumption | (refine' Nat.le_trans ?ba ?bb; (case ba => bits_by_make); (case bb => exact Nat.le_of_ble_eq_true rfl))); (case bxF => first | with_reducible assumption | (refine' Nat.le_trans ?ba ?bb; (case ba => bits_by_make); (case bb => exact Nat.le_of_ble_eq_true rfl))); (case byF => first | with_reducible assumption | (refine' Nat.le_trans ?ba ?bb; (case ba => bits_by_make); (case bb => exact Nat.le_of_ble_eq_true rfl))); (case bxG => first | with_reducible assumption | (refine' Nat.le_trans ?ba ?bb; (case ba => bits_by_make); (case bb => exact Nat.le_of_ble_eq_true rfl))); (case byG => first | with_reducible assumption | (refine' Nat.le_trans ?ba ?bb; (case ba => bits_by_make); (case bb => exact Nat.le_of_ble_eq_true rfl))); (case hs => exact wayA_says _); k_whole); intro h' tk' F' N'; (try k_sweep); (try dsimp only); (try k_fold)))
local macro_rules | `(tactic| walk_at "call ref") => `(tactic| (k_here; (with_reducible show wpAny _ _ (PySem.call (Value.ref 306) [Value.int _ _]) _ _ _); k_dflt (refine' k_way ?B ?F ?X ?N ?T ?hs ?hA ?hk ?hh ?hdep ?hun ?_; (case B => k_asm); (case F => k_asm); (case X => k_asm); (case N => k_asm); (case T => k_asm); (case hA => exact rfl); (case hk => first | exact rfl | assumption); (case hh => exact rfl); (case hdep => exact Nat.le_of_ble_eq_true rfl); (case hun => exact Nat.le_of_ble_eq_true rfl); (case hs => exact wayA_says _); k_whole); intro h' tk' F' N'; (try k_sweep); (try dsimp only); (try k_fold)))
local macro_rules | `(tactic| walk_at "call ref") => `(tactic| (k_here; (with_reducible show wpAny _ _ (PySem.call (Value.ref 320) [Value.ref _, Value.ref _, Value.ref _, Value.ref _, Value.ref _, Value.ref _]) _ _ _); k_dflt (refine' k_circle ?B ?F ?X ?N ?T ?hctx ?hdctx ?hqZ ?hqA ?hqB ?hqC ?bxZ ?byZ ?bxA ?byA ?bxB ?byB ?bxC ?byC ?s1 ?s2 ?s3 ?hA ?hk ?hh ?hdep ?hun ?_; (case B => k_asm); (case F => k_asm); (case X => k_asm); (case N => k_asm); (case T => k_asm); (case hA => exact rfl); (case hk => first | exact rfl | assumption); (case hh => exact rfl); (case hdep => exact Nat.le_of_ble_eq_true rfl); (case hun => exact Nat.le_of_ble_eq_true rfl); (case hctx => k_mem); (case hdctx => k_mem); (case hqZ => k_mem); (case hqA => k_mem); (case hqB => k_mem); (case hqC => k_mem); (case bxZ => first | with_reducible assumption | (refine' Nat.le_trans ?ba ?bb; (case ba => bits_by_make); (case bb => exact Nat.le_of_ble_eq_true rfl))); (case byZ => first | with_reducible assumption | (refine' Nat.le_trans ?ba ?bb; (case ba => bits_by_make); (case bb => exact Nat.le_of_ble_eq_true rfl))); (case bxA => first | with_reducible assumption | (refine' Nat.le_trans ?ba ?bb; (case ba => bits_by_make); (case bb => exact Nat.le_of_ble_eq_true rfl))); (case byA => first | with_reducible assumption | (refine' Nat.le_trans ?ba ?bb; (case ba => bits_by_make); (case bb => exact Nat.le_of_ble_eq_true rfl))); (case bxB => first | with_reducible assumption | (refine' Nat.le_trans ?ba ?bb; (case ba => bits_by_make); (case bb => exact Nat.le_of_ble_eq_true rfl))); (case byB => first | with_reducible assumption | (refine' Nat.le_trans ?ba ?bb; (case ba => bits_by_make); (case bb => exact Nat.le_of_ble_eq_true rfl))); (case bxC => first | with_reducible assumption | (refine' Nat.le_trans ?ba ?bb; (case ba => bits_by_make); (case bb => exact Nat.le_of_ble_eq_true rfl))); (case byC => first | with_reducible assumption | (refine' Nat.le_trans ?ba ?bb; (case ba => bits_by_make); (case bb => exact Nat.le_of_ble_eq_true rfl))); (case s1 => first | with_reducible exact ring_says (by assumption) (by omega) (by omega) (by omega) (by omega) | with_reducible exact says_a _ _ _ _ _ _ | with_reducible exact says_c _ _ _ _ _ _ | with_reducible exact says_b _ _ _ _ _ _ | with_reducible exact gap_says (by first | assumption | omega)); (case s2 => first | with_reducible exact ring_says2 (by assumption) (by omega) (by omega) (by omega) (by omega) | with_reducible exact says_a _ _ _ _ _ _ | with_reducible exact says_c _ _ _ _ _ _ | with_reducible exact says_b _ _ _ _ _ _ | with_reducible exact gap_says2 (by first | assumption | omega)); (case s3 => first | with_reducible exact ring_says3 (by assumption) (by omega) (by omega) (by omega) (by omega) | with_reducible exact says_a _ _ _ _ _ _ | with_reducible exact says_c _ _ _ _ _ _ | with_reducible exact says_b _ _ _ _ _ _ | with_reducible exact gap_says3 (by first | assumption | omega)); k_whole); intro h' tk' F' N'; (try k_sweep); (try dsimp only); (try k_fold)))
local macro_rules | `(tactic| walk_at "call ref") => `(tactic| (k_here; (with_reducible show wpAny _ _ (PySem.call (Value.ref 327) [Value.ref _, Value.ref _, Value.ref _, Value.ref _]) _ _ _); k_dflt (refine' k_six ?B ?F ?X ?N ?T ?hctx ?hdctx ?hqA ?hqB ?hqC ?bxA ?byA ?bxB ?byB ?bxC ?byC ?hA ?hk ?hh ?hdep ?hun ?_; (case B => k_asm); (case F => k_asm); (case X => k_asm); (case N => k_asm); (case T => k_asm); (case hA => exact rfl); (case hk => first | exact rfl | assumption); (case hh => exact rfl); (case hdep => exact Nat.le_of_ble_eq_true rfl); (case hun => exact Nat.le_of_ble_eq_true rfl); (case hctx => k_mem); (case hdctx => k_mem); (case hqA => k_mem); (case hqB => k_mem); (case hqC => k_mem); (case bxA => first | with_reducible assumption | (refine' Nat.le_trans ?ba ?bb; (case ba => bits_by_make); (case bb => exact Nat.le_of_ble_eq_true rfl))); (case byA => first | with_reducible assumption | (refine' Nat.le_trans ?ba ?bb; (case ba => bits_by_make); (case bb => exact Nat.le_of_ble_eq_true rfl))); (case bxB => first | with_reducible assumption | (refine' Nat.le_trans ?ba ?bb; (case ba => bits_by_make); (case bb => exact Nat.le_of_ble_eq_true rfl))); (case byB => first | with_reducible assumption | (refine' Nat.le_trans ?ba ?bb; (case ba => bits_by_make); (case bb => exact Nat.le_of_ble_eq_true rfl))); (case bxC => first | with_reducible assumption | (refine' Nat.le_trans ?ba ?bb; (case ba => bits_by_make); (case bb => exact Nat.le_of_ble_eq_true rfl))); (case byC => first | with_reducible assumption | (refine' Nat.le_trans ?ba ?bb; (case ba => bits_by_make); (case bb => exact Nat.le_of_ble_eq_true rfl))); k_whole); intro h' tk' F' N'; (try k_sweep); (try dsimp only); (try k_fold)))
local macro_rules | `(tactic| walk_at "compareOp IsNot ref ref") => `(tactic| (k_here; k_dflt (refine' k_isnotO ?h ?_; (case h => with_reducible exact beside_eq _ _ _ _ _ _ _); k_whole)))
local macro_rules | `(tactic| walk_at "compareOp Eq ref ref") => `(tactic| (k_here; k_dflt (refine' k_eqB3 ?N ?a ?b ?hu ?_; (case N => k_asm); (case a => k_mem); (case b => k_mem); (case hu => exact Nat.le_of_ble_eq_true rfl); k_whole)))
local macro_rules | `(tactic| walk_at "call type:bool") => `(tactic| (k_here; (with_reducible show wpAny _ _ (PySem.call (Value.type "bool") [Value.ref 172]) _ _ _); k_dflt (refine' k_bool172 ?F ?X ?N ?hh ?hd ?hu ?_; (case F => k_asm); (case X => k_asm); (case N => k_asm); (case hh => exact rfl); (case hd => exact Nat.le_of_ble_eq_true rfl); (case hu => exact Nat.le_of_ble_eq_true rfl); k_whole); intro h' t' F' N'; (try k_sweep); (try dsimp only)))
local macro_rules | `(tactic| walk_at "call type:bool") => `(tactic| (k_here; (with_reducible show wpAny _ _ (PySem.call (Value.type "bool") [Value.ref 175]) _ _ _); k_dflt (refine' k_bool175 ?F ?X ?N ?hh ?hd ?hu ?_; (case F => k_asm); (case X => k_asm); (case N => k_asm); (case hh => exact rfl); (case hd => exact Nat.le_of_ble_eq_true rfl); (case hu => exact Nat.le_of_ble_eq_true rfl); k_whole); intro h' t' F' N'; (try k_sweep); (try dsimp only)))
local macro_rules | `(tactic| walk_at "call type:bool") => `(tactic| (k_here; (with_reducible show wpAny _ _ (PySem.call (Value.type "bool") [Value.ref 178]) _ _ _); k_dflt (refine' k_bool178 ?F ?X ?N ?hh ?hd ?hu ?_; (case F => k_asm); (case X => k_asm); (case N => k_asm); (case hh => exact rfl); (case hd => exact Nat.le_of_ble_eq_true rfl); (case hu => exact Nat.le_of_ble_eq_true rfl); k_whole); intro h' t' F' N'; (try k_sweep); (try dsimp only)))
local macro_rules | `(tactic| walk_at "call type:bool") => `(tactic| (k_here; (with_reducible show wpAny _ _ (PySem.call (Value.type "bool") [Value.ref 195]) _ _ _); k_dflt (refine' k_bool195 ?F ?X ?N ?hh ?hd ?hu ?_; (case F => k_asm); (case X => k_asm); (case N => k_asm); (case hh => exact rfl); (case hd => exact Nat.le_of_ble_eq_true rfl); (case hu => exact Nat.le_of_ble_eq_true rfl); k_whole); intro h' t' F' N'; (try k_sweep); (try dsimp only)))
local macro_rules | `(tactic| walk_at "call type:bool") => `(tactic| (k_here; (with_reducible show wpAny _ _ (PySem.call (Value.type "bool") [Value.ref 198]) _ _ _); k_dflt (refine' k_bool198 ?F ?X ?N ?hh ?hd ?hu ?_; (case F => k_asm); (case X => k_asm); (case N => k_asm); (case hh => exact rfl); (case hd => exact Nat.le_of_ble_eq_true rfl); (case hu => exact Nat.le_of_ble_eq_true rfl); k_whole); intro h' t' F' N'; (try k_sweep); (try dsimp only)))
local macro_rules | `(tactic| walk_at "call type:bool") => `(tactic| (k_here; (with_reducible show wpAny _ _ (PySem.call (Value.type "bool") [Value.ref 201]) _ _ _); k_dflt (refine' k_bool201 ?F ?X ?N ?hh ?hd ?hu ?_; (case F => k_asm); (case X => k_asm); (case N => k_asm); (case hh => exact rfl); (case hd => exact Nat.le_of_ble_eq_true rfl); (case hu => exact Nat.le_of_ble_eq_true rfl); k_whole); intro h' t' F' N'; (try k_sweep); (try dsimp only)))
local macro_rules | `(tactic| wrow_close) => `(tactic| (w_end; k_dflt (refine' good_true ?F ?g ?o; (case F => k_asm); (case g => first | assumption | exact rfl); (case o => exact rfl))))
local macro_rules | `(tactic| walk_at "exec If Compare cons nil") => `(tactic| (k_here; (with_reducible rename Mark 60 => hmk); clear hmk; k_dflt (refine' cut_swap (PySem.Str.ofString "g") (PySem.Str.ofString "f") ?F ?N ?h1 ?h2; (case F => k_asm); (case N => k_asm)); (case' h2 => (intro h' tk' qf xf uf yf vf qg xg ug yg vg F' N' b1' b2' b3' b4'; (try k_sweep); (try dsimp only); have mk61 : Mark 61 := rfl)); (case' h1 => (try dsimp only))))
local macro_rules | `(tactic| walk_at "exec If BoolOp cons nil") => `(tactic| (k_here; (with_reducible rename Mark 61 => hmk); clear hmk; k_dflt (refine' cut_next ?F ?N ?h1 ?h2; (case F => k_asm); (case N => k_asm)); (case' h2 => (intro h' tk' F' N'; (try k_sweep); (try dsimp only); have mk6 : Mark 6 := rfl)); (case' h1 => (try dsimp only))))
local macro_rules | `(tactic| walk_at "MidS") => `(tactic| k_dflt ((try dsimp only); refine' ⟨rfl, _, _, _, _, _, _, _, _, _, _, _, _, rfl, ?F, ?N, ?m1, ?m2, ?b1, ?b2, ?b3, ?b4⟩; (case F => first | k_asm | (refine' fr_same2 (Mo := ?Mo) ?k1 ?k2 ?k3 ?k4; (case k4 => decide); (case k2 => exact rfl); (case k3 => exact rfl); (case k1 => k_asm))); (case N => first | k_asm | exact cb_drop (by assumption) (by (intro p hp; (repeat (first | with_reducible exact hp | refine List.mem_cons_of_mem _ ?_)); done)) | exact cb_drop (by assumption) (by kcj_all)); (case m1 => k_mem); (case m2 => k_mem); (case b1 => first | with_reducible assumption | (refine' Nat.le_trans ?ba ?bb; (case ba => bits_by_make); (case bb => exact Nat.le_of_ble_eq_true rfl))); (case b2 => first | with_reducible assumption | (refine' Nat.le_trans ?ba ?bb; (case ba => bits_by_make); (case bb => exact Nat.le_of_ble_eq_true rfl))); (case b3 => first | with_reducible assumption | (refine' Nat.le_trans ?ba ?bb; (case ba => bits_by_make); (case bb => exact Nat.le_of_ble_eq_true rfl))); (case b4 => first | with_reducible assumption | (refine' Nat.le_trans ?ba ?bb; (case ba => bits_by_make); (case bb => exact Nat.le_of_ble_eq_true rfl)))))
local macro_rules | `(tactic| walk_at "MidN") => `(tactic| k_dflt (refine' ⟨rfl, _, _, rfl, ?F, ?N⟩; (case F => k_asm); (case N => first | k_asm | exact cb_drop (by assumption) (by (intro p hp; (repeat (first | with_reducible exact hp | refine List.mem_cons_of_mem _ ?_)); done)) | exact cb_drop (by assumption) (by kcj_all))))
local macro_rules | `(tactic| walk_at "execs cons") => `(tactic| (k_here; (with_reducible rename Mark 1 => hmk); (with_reducible show wpAny _ _ (execs (PySem.Stmt.Assign [PySem.Expr.Name (PySem.Str.ofString "context") _] _ _ :: _) _) _ _ _); clear hmk; refine stop_in 1 ?_))
local macro_rules | `(tactic| walk_at "execs cons") => `(tactic| (k_here; (with_reducible rename Mark 2 => hmk); (with_reducible show wpAny _ _ (execs (PySem.Stmt.Assign [PySem.Expr.Name (PySem.Str.ofString "ring") _] _ _ :: _) _) _ _ _); clear hmk; refine stop_in 2 ?_))
local macro_rules | `(tactic| walk_at "execs cons") => `(tactic| (k_here; (with_reducible rename Mark 3 => hmk); (with_reducible show wpAny _ _ (execs (PySem.Stmt.Assign [PySem.Expr.Tuple (PySem.Expr.Name (PySem.Str.ofString "a") _ :: _) _ _] _ _ :: _) _) _ _ _); clear hmk; refine stop_in 3 ?_))
local macro_rules | `(tactic| walk_at "execs cons") => `(tactic| (k_here; (with_reducible rename Mark 4 => hmk); (with_reducible show wpAny _ _ (execs (PySem.Stmt.If _ _ _ _ :: _) _) _ _ _); clear hmk; refine stop_in 4 ?_))
local macro_rules | `(tactic| walk_at "execs cons") => `(tactic| (k_here; (with_reducible rename Mark 5 => hmk); (with_reducible show wpAny _ _ (execs (PySem.Stmt.Assign [PySem.Expr.Tuple (PySem.Expr.Name (PySem.Str.ofString "e") _ :: _) _ _] _ _ :: _) _) _ _ _); clear hmk; refine stop_in 5 ?_))
local macro_rules | `(tactic| walk_at "execs cons") => `(tactic| (k_here; (with_reducible rename Mark 6 => hmk); (with_reducible show wpAny _ _ (execs (PySem.Stmt.Assign [PySem.Expr.Tuple (PySem.Expr.Name (PySem.Str.ofString "w") _ :: _) _ _] _ _ :: _) _) _ _ _); clear hmk; refine stop_in 6 ?_))
local macro_rules | `(tactic| walk_at "execs cons") => `(tactic| (k_here; (with_reducible rename Mark 7 => hmk); (with_reducible show wpAny _ _ (execs (PySem.Stmt.Return _ _ :: _) _) _ _ _); clear hmk; refine stop_in 7 ?_))
theorem PySem.Challenge.cw_at6035_01_holds : PySem.Challenge.rw_at6035_01.Holds := by
  refine Mine.hd ?_
  w_top off
  k_go0
  have mk1 : Mark 1 := rfl
  (all_goals try k_fold)
  k_steps
  refine stop_out ?_
  obtain ⟨x0, t0, x1, t1, x2, t2, x3, t3, x4, t4, x5, t5, x6, t6, x7, t7, x8, t8, x9, t9, x10, t10, x11, t11, hw, b0, b1, b2, b3, b4, b5, b6, b7, b8, b9, b10, b11⟩ := script12 (by assumption) (by assumption)
  subst hw
  (repeat ((rename IntsAre _ _ => hI0); clear hI0))
  (rename Fr _ _ _ _ => Fold)
  obtain ⟨M0, Fnew⟩ := fr_forget Fold
  clear Fold
  (rename News _ _ _ _ => Nold)
  replace Nold := news_pick7 Nold
  have mk2 : Mark 2 := rfl
  k_steps
  refine stop_out ?_
  (rename Fr _ _ _ _ => Fold)
  dsimp only at Fold
  have mk3 : Mark 3 := rfl
  k_steps
  refine stop_out ?_
  have mk4 : Mark 4 := rfl
  k_steps
  refine stop_out ?_
  (rename Fr _ _ _ _ => Fold)
  dsimp only at Fold
  dsimp only
  have mk5 : Mark 5 := rfl
  k_steps
  refine stop_out ?_
  (rename Fr _ _ _ _ => Fold)
  (try dsimp only at Fold)
  (try dsimp only)
  have mk60 : Mark 60 := rfl
  k_steps
  all_goals refine stop_out ?_
  all_goals (rename Fr _ _ _ _ => Fold)
  all_goals (try dsimp only at Fold)
  all_goals (try dsimp only)
  focus
    have mk7 : Mark 7 := rfl
    k_steps
  focus
    refine stop_out ?_
    (rename Fr _ _ _ _ => Fold)
    (try dsimp only at Fold)
    (try dsimp only)
    k_steps
